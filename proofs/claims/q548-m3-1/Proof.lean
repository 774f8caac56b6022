import JvmDerived
import JvmDerived.Pilot.@@N@@Statement
import JvmDerived.Pilot.@@N@@Code
set_option linter.unusedVariables false
set_option linter.unusedSimpArgs false

namespace Jvm.OwnW
open Sem ClassFile Op Lib Jvm.Stand Jvm.Free Jvm.LawKit Jvm.RoadKit
/-- the instruction i stands at pc, n bytes long; the next one stands at nx -/
def Ins (code : ByteArray) (pc : Nat) (i : Instr) (n nx : Nat) : Prop := decode code pc = .ok (i, n) ∧ pc + n = nx
/-- a jump by o from pc leads to t -/
def Jmp (pc : Nat) (o : Int) (t : Nat) : Prop := 0 ≤ (pc : Int) + o ∧ ((pc : Int) + o).toNat = t
instance {pc : Nat} {o : Int} {t : Nat} : Decidable (Jmp pc o t) := inferInstanceAs (Decidable (_ ∧ _))
/-- what is fixed through a body's walk -/
def Ctx (p : Program) (s : State) (m : MethodId) (meth : Method) (c : Code) (Z : State) (own nm : String) (code : ByteArray) (ml : Nat) (ret : Option FieldType) : Prop :=
  p.tables.exec = Jvm.exec ∧ Z.Warmed39 s.vm ∧ c.code = code ∧ c.maxLocals = ml ∧ s.vm.findClass own = some m.cls ∧ meth.sig.returnType = ret ∧ meth.locks = false ∧ meth.name = nm
/-- what is carried unseen: the tables since the start; the constants that are held; D: arrays and Strings of our own, which no constant names -/
def Hid (w : Bool) (Z : State) (EL : List (String × Nat)) (D : List Addr) (s : State) (vm0 : Vm) (h : Heap) : Prop :=
  (if w = true then ∃ k0, s.Since vm0 k0 ∧ k0 ≤ h.size else vm0 = s.vm) ∧ (∃ a0, EW Z a0 EL) ∧ CHr Z EL s.vm s.heap vm0 h ∧ ∀ x ∈ D, x < h.size ∧ Safe Z EL vm0 h x
def En (w : Bool) (s : State) (o : Outcome) (t : State) (L : List Loc) (k n : Nat) : Prop := if w = true then ReturnedEndW s o t L k n else FrameEnd s o t L k n
/-- how a body ends -/
def Done (w : Bool) (Z : State) (EL : List (String × Nat)) (n0 : Nat) (R : Room) (Q : Option Value → Heap → List Addr → Prop) (s : State) (o : Outcome) (t : State) : Prop :=
  ∃ v L D', o = .returned v ∧ Q v t.heap D' ∧ Old Z n0 t.heap ∧ Fr n0 L ∧ (CHr Z EL s.vm s.heap t.vm t.heap ∧ ∀ x ∈ D', x < t.heap.size ∧ Safe Z EL t.vm t.heap x) ∧ En w s o t L R.cells R.slots
/-- from pc, with these locals, this stack and this heap, the body comes to an end that Q allows -/
def Runs (w : Bool) (l : Launch) (Z : State) (EL : List (String × Nat)) (n0 : Nat) (own nm : String) (code : ByteArray) (ml : Nat) (ret : Option FieldType) (R : Room) (Q : Option Value → Heap → List Addr → Prop) (D : List Addr) (h : Heap) (kc ks pc : Nat) (ls : Array Slot) (st : List Value) : Prop :=
  ∀ (p : Program) (e : Env) (s : State) (vm0 : Vm) (m : MethodId) (args : Array Value) (below : List Frame) (meth : Method) (c : Code) (T : State) (locs : List Loc),
    Ctx p (s.setVm vm0) m meth c Z own nm code ml ret → Stand p l e R (s.setVm vm0) m args below meth c T locs kc ks → T.heap = h → Fr n0 locs → Old Z n0 h → Hid w Z EL D s vm0 h →
    ∃ s₂ o, Steps p.tables e below (T.setTop (mkF m pc ls st)) s₂ ∧ s₂.status = .running ∧ Ended s₂ below o ∧ Done w Z EL n0 R Q s o s₂
/-- a method's contract -/
def Con (w : Bool) (l : Launch) (Z : State) (EL : List (String × Nat)) (n0 : Nat) (y : MethodName) (code : ByteArray) (ml : Nat) (ret : Option FieldType) (R : Room) (as' : Array Value) (D : List Addr) (h : Heap) (Q : Option Value → Heap → List Addr → Prop) : Prop :=
  ∀ ws : List Jvm.Cond, MetFree l y (head1 (Jvm.Cond.code y code ml ret :: ws) R) (fun a U => a = as' ∧ Z.Warmed39 U.vm ∧ U.heap = h ∧ Old Z n0 h ∧ (∃ a0, EW Z a0 EL) ∧ CHv Z EL U.vm h ∧ ∀ x ∈ D, x < h.size ∧ Safe Z EL U.vm h x) (fun _ _ _ _ _ => True) (fun _ U o U' => Done w Z EL n0 R Q U o U')
section W
variable {w : Bool} {l : Launch} {Z : State} {EL : List (String × Nat)} {n0 : Nat} {own nm : String} {code : ByteArray} {ml : Nat} {ret : Option FieldType} {R : Room} {Q : Option Value → Heap → List Addr → Prop} {D : List Addr} {h : Heap} {kc ks pc pc' : Nat} {ls ls' : Array Slot} {st st' rest : List Value} {a0 : Array Value}
theorem Con.of_runs {y : MethodName} {as' : Array Value} (hp : plainFor y = true) (he : ∀ m, entryFrame m as' ml = mkF m 0 ls []) (K : Runs w l Z EL n0 y.cls y.name code ml ret R Q D h 0 0 0 ls []) : Con w l Z EL n0 y code ml ret R as' D h Q := by
  intro ws
  refine MetFree.of_bodySF hp hisR ?_
  intro p e s m args below meth c s₁ Bd hml0 hP hK
  obtain ⟨rfl, hZ, hh, hO, hE, hC, hD⟩ := hP
  have hnm := (name_of_methodNamed Bd.named Bd.method).1
  have hown : s.vm.findClass y.cls = some m.cls := findClass_of_methodNamed Bd.named
  have X0 : Stand p l e R s m args below meth c s₁ [] 0 0 := Stand.of_body Bd
  have e0 : s₁.heap = h := by rw [← hh, Bd.state]; rfl
  obtain ⟨s₂, o, S, r1, r2, r3⟩ := K p e s s.vm m args below meth c s₁ [] ⟨Bd.exec, hZ, Bd.bytes, hml0, hown, Bd.returns, Bd.notSynchronized, hnm⟩ X0 e0 (Fr.nil n0) hO
    ⟨by split; exact ⟨0, (State.WarmedH.refl s).since 0, Nat.zero_le _⟩; rfl, hE, by rw [← hh] at hC ⊢; exact CHr.refl hC, hD⟩
  exact ⟨s₂, o, castTop (he m) S, r1, r2, r3⟩
theorem Runs.plain (K : Runs w l Z EL n0 own nm code ml ret R Q D h kc ks pc' ls' st')
    (f : ∀ (p : Program) (e : Env) (m : MethodId) (below : List Frame) (c : Code) (T target : State), p.tables.exec = Jvm.exec → c.code = code → At T m c below → Steps p.tables e below (T.setTop (mkF m pc' ls' st')) target → Steps p.tables e below (T.setTop (mkF m pc ls st)) target) : Runs w l Z EL n0 own nm code ml ret R Q D h kc ks pc ls st := by
  intro p e s vm0 m args below meth c T locs C X eT N O H
  obtain ⟨s₂, o, S, r⟩ := K p e s vm0 m args below meth c T locs C X eT N O H
  exact ⟨s₂, o, f p e m below c T s₂ C.1 C.2.2.1 X.here S, r⟩
/-- a step whose law moves the tables alone -/
theorem Runs.warm (K : Runs w l Z EL n0 own nm code ml ret R Q D h kc ks pc' ls' st')
    (f : ∀ (p : Program) (e : Env) (s : State) (m : MethodId) (args : Array Value) (below : List Frame) (meth : Method) (c : Code) (T : State) (locs : List Loc), Ctx p s m meth c Z own nm code ml ret → Stand p l e R s m args below meth c T locs kc ks → T.heap = h → Old Z n0 h →
      ∃ T', Stand p l e R s m args below meth c T' locs kc ks ∧ T'.heap = h ∧ ∀ target, Steps p.tables e below (T'.setTop (mkF m pc' ls' st')) target → Steps p.tables e below (T.setTop (mkF m pc ls st)) target) : Runs w l Z EL n0 own nm code ml ret R Q D h kc ks pc ls st := by
  intro p e s vm0 m args below meth c T locs C X eT N O H
  obtain ⟨T', X', e', S'⟩ := f p e _ m args below meth c T locs C X eT O
  obtain ⟨s₂, o, S, r⟩ := K p e s vm0 m args below meth c T' locs C X' e' N O H
  exact ⟨s₂, o, S' _ S, r⟩
theorem Runs.old (K : Old Z n0 h → Runs w l Z EL n0 own nm code ml ret R Q D h kc ks pc ls st) : Runs w l Z EL n0 own nm code ml ret R Q D h kc ks pc ls st :=
  fun p e s vm0 m args below meth c T locs C X eT N O H => K O p e s vm0 m args below meth c T locs C X eT N O H
theorem Runs.weak {D1 : List Addr} (hs : ∀ x ∈ D1, x ∈ D) (K : Runs w l Z EL n0 own nm code ml ret R Q D1 h kc ks pc ls st) : Runs w l Z EL n0 own nm code ml ret R Q D h kc ks pc ls st :=
  fun p e s vm0 m args below meth c T locs C X eT N O H => K p e s vm0 m args below meth c T locs C X eT N O ⟨H.1, H.2.1, H.2.2.1, fun x hx => H.2.2.2 x (hs x hx)⟩
/-- fewer cells, fewer slots made: at most more -/
theorem Runs.mono {kc' ks' : Nat} (h1 : kc ≤ kc') (h2 : ks ≤ ks') (K : Runs w l Z EL n0 own nm code ml ret R Q D h kc' ks' pc ls st) : Runs w l Z EL n0 own nm code ml ret R Q D h kc ks pc ls st :=
  fun p e s vm0 m args below meth c T locs C X eT N O H => K p e s vm0 m args below meth c T locs C (X.mono h1 h2) eT N O H

theorem Runs.iloadN {k : Fin 4} {v : Int32} (hd : Ins code pc (.iload_n k) 1 pc') (hl : ls[k.val]? = some (.val (.int v))) (K : Runs w l Z EL n0 own nm code ml ret R Q D h kc ks pc' ls (.int v :: st)) : Runs w l Z EL n0 own nm code ml ret R Q D h kc ks pc ls st := by
  obtain ⟨hd, rfl⟩ := hd
  exact K.plain fun p e m below c T t hx hb X S => XS.iloadN (g := mkF m pc ls st) X hx rfl (Jvm.hb hb hd) hl S
theorem Runs.iload {k : Nat} {v : Int32} (hd : Ins code pc (.iload k) 2 pc') (hl : ls[k]? = some (.val (.int v))) (K : Runs w l Z EL n0 own nm code ml ret R Q D h kc ks pc' ls (.int v :: st)) : Runs w l Z EL n0 own nm code ml ret R Q D h kc ks pc ls st := by
  obtain ⟨hd, rfl⟩ := hd
  exact K.plain fun p e m below c T t hx hb X S => XS.iload (g := mkF m pc ls st) X hx rfl (Jvm.hb hb hd) hl S
theorem Runs.istoreN {k : Fin 4} {x : Int32} (hd : Ins code pc (.istore_n k) 1 pc') (hl : storeLocals ls k.val (.int x) = some ls') (K : Runs w l Z EL n0 own nm code ml ret R Q D h kc ks pc' ls' rest) : Runs w l Z EL n0 own nm code ml ret R Q D h kc ks pc ls (.int x :: rest) := by
  obtain ⟨hd, rfl⟩ := hd
  exact K.plain fun p e m below c T t hx hb X S => XS.istoreN (g := mkF m pc ls (.int x :: rest)) X hx rfl (Jvm.hb hb hd) rfl hl S
theorem Runs.istore {k : Nat} {x : Int32} (hd : Ins code pc (.istore k) 2 pc') (hl : storeLocals ls k (.int x) = some ls') (K : Runs w l Z EL n0 own nm code ml ret R Q D h kc ks pc' ls' rest) : Runs w l Z EL n0 own nm code ml ret R Q D h kc ks pc ls (.int x :: rest) := by
  obtain ⟨hd, rfl⟩ := hd
  exact K.plain fun p e m below c T t hx hb X S => XS.istore (g := mkF m pc ls (.int x :: rest)) X hx rfl (Jvm.hb hb hd) rfl hl S
theorem Runs.lloadN {k : Fin 4} {v : Int64} (hd : Ins code pc (.lload_n k) 1 pc') (hl : ls[k.val]? = some (.val (.long v))) (K : Runs w l Z EL n0 own nm code ml ret R Q D h kc ks pc' ls (.long v :: st)) : Runs w l Z EL n0 own nm code ml ret R Q D h kc ks pc ls st := by
  obtain ⟨hd, rfl⟩ := hd
  exact K.plain fun p e m below c T t hx hb X S => XT.lloadN (g := mkF m pc ls st) X hx rfl (Jvm.hb hb hd) hl S
theorem Runs.lload {k : Nat} {v : Int64} (hd : Ins code pc (.lload k) 2 pc') (hl : ls[k]? = some (.val (.long v))) (K : Runs w l Z EL n0 own nm code ml ret R Q D h kc ks pc' ls (.long v :: st)) : Runs w l Z EL n0 own nm code ml ret R Q D h kc ks pc ls st := by
  obtain ⟨hd, rfl⟩ := hd
  exact K.plain fun p e m below c T t hx hb X S => XT.lload (g := mkF m pc ls st) X hx rfl (Jvm.hb hb hd) hl S
theorem Runs.lstoreN {k : Fin 4} {x : Int64} (hd : Ins code pc (.lstore_n k) 1 pc') (hl : storeLocals ls k.val (.long x) = some ls') (K : Runs w l Z EL n0 own nm code ml ret R Q D h kc ks pc' ls' rest) : Runs w l Z EL n0 own nm code ml ret R Q D h kc ks pc ls (.long x :: rest) := by
  obtain ⟨hd, rfl⟩ := hd
  exact K.plain fun p e m below c T t hx hb X S => XT.lstoreN (g := mkF m pc ls (.long x :: rest)) X hx rfl (Jvm.hb hb hd) rfl hl S
theorem Runs.lstore {k : Nat} {x : Int64} (hd : Ins code pc (.lstore k) 2 pc') (hl : storeLocals ls k (.long x) = some ls') (K : Runs w l Z EL n0 own nm code ml ret R Q D h kc ks pc' ls' rest) : Runs w l Z EL n0 own nm code ml ret R Q D h kc ks pc ls (.long x :: rest) := by
  obtain ⟨hd, rfl⟩ := hd
  exact K.plain fun p e m below c T t hx hb X S => XT.lstore (g := mkF m pc ls (.long x :: rest)) X hx rfl (Jvm.hb hb hd) rfl hl S
theorem Runs.aloadN {k : Fin 4} {v : Value} (hd : Ins code pc (.aload_n k) 1 pc') (hl : ls[k.val]? = some (.val v)) (hv : v.isRef = true) (K : Runs w l Z EL n0 own nm code ml ret R Q D h kc ks pc' ls (v :: st)) : Runs w l Z EL n0 own nm code ml ret R Q D h kc ks pc ls st := by
  obtain ⟨hd, rfl⟩ := hd
  exact K.plain fun p e m below c T t hx hb X S => XS.aloadN (g := mkF m pc ls st) X hx rfl (Jvm.hb hb hd) hl hv S
theorem Runs.aload {k : Nat} {v : Value} (hd : Ins code pc (.aload k) 2 pc') (hl : ls[k]? = some (.val v)) (hv : v.isRef = true) (K : Runs w l Z EL n0 own nm code ml ret R Q D h kc ks pc' ls (v :: st)) : Runs w l Z EL n0 own nm code ml ret R Q D h kc ks pc ls st := by
  obtain ⟨hd, rfl⟩ := hd
  exact K.plain fun p e m below c T t hx hb X S => XS.aload (g := mkF m pc ls st) X hx rfl (Jvm.hb hb hd) hl hv S
theorem Runs.astoreN {k : Fin 4} {x : Value} (hd : Ins code pc (.astore_n k) 1 pc') (hv : x.isRef = true) (hl : storeLocals ls k.val x = some ls') (K : Runs w l Z EL n0 own nm code ml ret R Q D h kc ks pc' ls' rest) : Runs w l Z EL n0 own nm code ml ret R Q D h kc ks pc ls (x :: rest) := by
  obtain ⟨hd, rfl⟩ := hd
  exact K.plain fun p e m below c T t hx hb X S => XS.astoreN (g := mkF m pc ls (x :: rest)) X hx rfl (Jvm.hb hb hd) rfl hv hl S
theorem Runs.astore {k : Nat} {x : Value} (hd : Ins code pc (.astore k) 2 pc') (hv : x.isRef = true) (hl : storeLocals ls k x = some ls') (K : Runs w l Z EL n0 own nm code ml ret R Q D h kc ks pc' ls' rest) : Runs w l Z EL n0 own nm code ml ret R Q D h kc ks pc ls (x :: rest) := by
  obtain ⟨hd, rfl⟩ := hd
  exact K.plain fun p e m below c T t hx hb X S => XS.astore (g := mkF m pc ls (x :: rest)) X hx rfl (Jvm.hb hb hd) rfl hv hl S
theorem Runs.iconst {i : Int} {v : Int32} (hd : Ins code pc (.iconst i) 1 pc') (hz : Int32.ofInt i = v) (K : Runs w l Z EL n0 own nm code ml ret R Q D h kc ks pc' ls (.int v :: st)) : Runs w l Z EL n0 own nm code ml ret R Q D h kc ks pc ls st := by
  obtain ⟨hd, rfl⟩ := hd
  subst hz
  exact K.plain fun p e m below c T t hx hb X S => XS.iconst (g := mkF m pc ls st) X hx rfl (Jvm.hb hb hd) S
theorem Runs.bipush {i : Int} {v : Int32} (hd : Ins code pc (.bipush i) 2 pc') (hz : (Int8.ofInt i).toInt32 = v) (K : Runs w l Z EL n0 own nm code ml ret R Q D h kc ks pc' ls (.int v :: st)) : Runs w l Z EL n0 own nm code ml ret R Q D h kc ks pc ls st := by
  obtain ⟨hd, rfl⟩ := hd
  subst hz
  exact K.plain fun p e m below c T t hx hb X S => XS.bipush (g := mkF m pc ls st) X hx rfl (Jvm.hb hb hd) S
theorem Runs.sipush {i : Int} {v : Int32} (hd : Ins code pc (.sipush i) 3 pc') (hz : (Int16.ofInt i).toInt32 = v) (K : Runs w l Z EL n0 own nm code ml ret R Q D h kc ks pc' ls (.int v :: st)) : Runs w l Z EL n0 own nm code ml ret R Q D h kc ks pc ls st := by
  obtain ⟨hd, rfl⟩ := hd
  subst hz
  exact K.plain fun p e m below c T t hx hb X S => XS.sipush (g := mkF m pc ls st) X hx rfl (Jvm.hb hb hd) S
theorem Runs.lconst {k : Fin 2} {v : Int64} (hd : Ins code pc (.lconst k) 1 pc') (hz : Int64.ofNat k = v) (K : Runs w l Z EL n0 own nm code ml ret R Q D h kc ks pc' ls (.long v :: st)) : Runs w l Z EL n0 own nm code ml ret R Q D h kc ks pc ls st := by
  obtain ⟨hd, rfl⟩ := hd
  subst hz
  exact K.plain fun p e m below c T t hx hb X S => XT.lconst (g := mkF m pc ls st) X hx rfl (Jvm.hb hb hd) S
theorem Runs.aconstNull  (hd : Ins code pc (.aconst_null) 1 pc')  (K : Runs w l Z EL n0 own nm code ml ret R Q D h kc ks pc' ls (.null :: st)) : Runs w l Z EL n0 own nm code ml ret R Q D h kc ks pc ls st := by
  obtain ⟨hd, rfl⟩ := hd
  exact K.plain fun p e m below c T t hx hb X S => XS.aconstNull (g := mkF m pc ls st) X hx rfl (Jvm.hb hb hd) S
theorem Runs.iadd {x y z : Int32} (hd : Ins code pc (.iadd) 1 pc') (hz : x + y = z) (K : Runs w l Z EL n0 own nm code ml ret R Q D h kc ks pc' ls (.int z :: rest)) : Runs w l Z EL n0 own nm code ml ret R Q D h kc ks pc ls (.int y :: .int x :: rest) := by
  obtain ⟨hd, rfl⟩ := hd
  subst hz
  exact K.plain fun p e m below c T t hx hb X S => XS.iadd (g := mkF m pc ls (.int y :: .int x :: rest)) X hx rfl (Jvm.hb hb hd) rfl S
theorem Runs.isub {x y z : Int32} (hd : Ins code pc (.isub) 1 pc') (hz : x - y = z) (K : Runs w l Z EL n0 own nm code ml ret R Q D h kc ks pc' ls (.int z :: rest)) : Runs w l Z EL n0 own nm code ml ret R Q D h kc ks pc ls (.int y :: .int x :: rest) := by
  obtain ⟨hd, rfl⟩ := hd
  subst hz
  exact K.plain fun p e m below c T t hx hb X S => XS.isub (g := mkF m pc ls (.int y :: .int x :: rest)) X hx rfl (Jvm.hb hb hd) rfl S
theorem Runs.imul {x y z : Int32} (hd : Ins code pc (.imul) 1 pc') (hz : x * y = z) (K : Runs w l Z EL n0 own nm code ml ret R Q D h kc ks pc' ls (.int z :: rest)) : Runs w l Z EL n0 own nm code ml ret R Q D h kc ks pc ls (.int y :: .int x :: rest) := by
  obtain ⟨hd, rfl⟩ := hd
  subst hz
  exact K.plain fun p e m below c T t hx hb X S => XS.imul (g := mkF m pc ls (.int y :: .int x :: rest)) X hx rfl (Jvm.hb hb hd) rfl S
theorem Runs.iand {x y z : Int32} (hd : Ins code pc (.iand) 1 pc') (hz : x &&& y = z) (K : Runs w l Z EL n0 own nm code ml ret R Q D h kc ks pc' ls (.int z :: rest)) : Runs w l Z EL n0 own nm code ml ret R Q D h kc ks pc ls (.int y :: .int x :: rest) := by
  obtain ⟨hd, rfl⟩ := hd
  subst hz
  exact K.plain fun p e m below c T t hx hb X S => XS.iand (g := mkF m pc ls (.int y :: .int x :: rest)) X hx rfl (Jvm.hb hb hd) rfl S
theorem Runs.ior {x y z : Int32} (hd : Ins code pc (.ior) 1 pc') (hz : x ||| y = z) (K : Runs w l Z EL n0 own nm code ml ret R Q D h kc ks pc' ls (.int z :: rest)) : Runs w l Z EL n0 own nm code ml ret R Q D h kc ks pc ls (.int y :: .int x :: rest) := by
  obtain ⟨hd, rfl⟩ := hd
  subst hz
  exact K.plain fun p e m below c T t hx hb X S => XT.ior (g := mkF m pc ls (.int y :: .int x :: rest)) X hx rfl (Jvm.hb hb hd) rfl S
theorem Runs.ixor {x y z : Int32} (hd : Ins code pc (.ixor) 1 pc') (hz : x ^^^ y = z) (K : Runs w l Z EL n0 own nm code ml ret R Q D h kc ks pc' ls (.int z :: rest)) : Runs w l Z EL n0 own nm code ml ret R Q D h kc ks pc ls (.int y :: .int x :: rest) := by
  obtain ⟨hd, rfl⟩ := hd
  subst hz
  exact K.plain fun p e m below c T t hx hb X S => XT.ixor (g := mkF m pc ls (.int y :: .int x :: rest)) X hx rfl (Jvm.hb hb hd) rfl S
theorem Runs.ishl {x y z : Int32} (hd : Ins code pc (.ishl) 1 pc') (hz : x <<< (y &&& 31) = z) (K : Runs w l Z EL n0 own nm code ml ret R Q D h kc ks pc' ls (.int z :: rest)) : Runs w l Z EL n0 own nm code ml ret R Q D h kc ks pc ls (.int y :: .int x :: rest) := by
  obtain ⟨hd, rfl⟩ := hd
  subst hz
  exact K.plain fun p e m below c T t hx hb X S => XT.ishl (g := mkF m pc ls (.int y :: .int x :: rest)) X hx rfl (Jvm.hb hb hd) rfl S
theorem Runs.ishr {x y z : Int32} (hd : Ins code pc (.ishr) 1 pc') (hz : x >>> (y &&& 31) = z) (K : Runs w l Z EL n0 own nm code ml ret R Q D h kc ks pc' ls (.int z :: rest)) : Runs w l Z EL n0 own nm code ml ret R Q D h kc ks pc ls (.int y :: .int x :: rest) := by
  obtain ⟨hd, rfl⟩ := hd
  subst hz
  exact K.plain fun p e m below c T t hx hb X S => XT.ishr (g := mkF m pc ls (.int y :: .int x :: rest)) X hx rfl (Jvm.hb hb hd) rfl S
theorem Runs.iushr {x y z : Int32} (hd : Ins code pc (.iushr) 1 pc') (hz : XT.ushr x y = z) (K : Runs w l Z EL n0 own nm code ml ret R Q D h kc ks pc' ls (.int z :: rest)) : Runs w l Z EL n0 own nm code ml ret R Q D h kc ks pc ls (.int y :: .int x :: rest) := by
  obtain ⟨hd, rfl⟩ := hd
  subst hz
  exact K.plain fun p e m below c T t hx hb X S => XT.iushr (g := mkF m pc ls (.int y :: .int x :: rest)) X hx rfl (Jvm.hb hb hd) rfl S
theorem Runs.ladd {x y z : Int64} (hd : Ins code pc (.ladd) 1 pc') (hz : x + y = z) (K : Runs w l Z EL n0 own nm code ml ret R Q D h kc ks pc' ls (.long z :: rest)) : Runs w l Z EL n0 own nm code ml ret R Q D h kc ks pc ls (.long y :: .long x :: rest) := by
  obtain ⟨hd, rfl⟩ := hd
  subst hz
  exact K.plain fun p e m below c T t hx hb X S => XT.ladd (g := mkF m pc ls (.long y :: .long x :: rest)) X hx rfl (Jvm.hb hb hd) rfl S
theorem Runs.lsub {x y z : Int64} (hd : Ins code pc (.lsub) 1 pc') (hz : x - y = z) (K : Runs w l Z EL n0 own nm code ml ret R Q D h kc ks pc' ls (.long z :: rest)) : Runs w l Z EL n0 own nm code ml ret R Q D h kc ks pc ls (.long y :: .long x :: rest) := by
  obtain ⟨hd, rfl⟩ := hd
  subst hz
  exact K.plain fun p e m below c T t hx hb X S => XT.lsub (g := mkF m pc ls (.long y :: .long x :: rest)) X hx rfl (Jvm.hb hb hd) rfl S
theorem Runs.lmul {x y z : Int64} (hd : Ins code pc (.lmul) 1 pc') (hz : x * y = z) (K : Runs w l Z EL n0 own nm code ml ret R Q D h kc ks pc' ls (.long z :: rest)) : Runs w l Z EL n0 own nm code ml ret R Q D h kc ks pc ls (.long y :: .long x :: rest) := by
  obtain ⟨hd, rfl⟩ := hd
  subst hz
  exact K.plain fun p e m below c T t hx hb X S => XT.lmul (g := mkF m pc ls (.long y :: .long x :: rest)) X hx rfl (Jvm.hb hb hd) rfl S
theorem Runs.land {x y z : Int64} (hd : Ins code pc (.land) 1 pc') (hz : x &&& y = z) (K : Runs w l Z EL n0 own nm code ml ret R Q D h kc ks pc' ls (.long z :: rest)) : Runs w l Z EL n0 own nm code ml ret R Q D h kc ks pc ls (.long y :: .long x :: rest) := by
  obtain ⟨hd, rfl⟩ := hd
  subst hz
  exact K.plain fun p e m below c T t hx hb X S => XT.land (g := mkF m pc ls (.long y :: .long x :: rest)) X hx rfl (Jvm.hb hb hd) rfl S
theorem Runs.lor {x y z : Int64} (hd : Ins code pc (.lor) 1 pc') (hz : x ||| y = z) (K : Runs w l Z EL n0 own nm code ml ret R Q D h kc ks pc' ls (.long z :: rest)) : Runs w l Z EL n0 own nm code ml ret R Q D h kc ks pc ls (.long y :: .long x :: rest) := by
  obtain ⟨hd, rfl⟩ := hd
  subst hz
  exact K.plain fun p e m below c T t hx hb X S => XT.lor (g := mkF m pc ls (.long y :: .long x :: rest)) X hx rfl (Jvm.hb hb hd) rfl S
theorem Runs.lxor {x y z : Int64} (hd : Ins code pc (.lxor) 1 pc') (hz : x ^^^ y = z) (K : Runs w l Z EL n0 own nm code ml ret R Q D h kc ks pc' ls (.long z :: rest)) : Runs w l Z EL n0 own nm code ml ret R Q D h kc ks pc ls (.long y :: .long x :: rest) := by
  obtain ⟨hd, rfl⟩ := hd
  subst hz
  exact K.plain fun p e m below c T t hx hb X S => XT.lxor (g := mkF m pc ls (.long y :: .long x :: rest)) X hx rfl (Jvm.hb hb hd) rfl S
theorem Runs.irem {x y z : Int32} (hd : Ins code pc (.irem) 1 pc') (hy : y ≠ 0) (hz : x % y = z) (K : Runs w l Z EL n0 own nm code ml ret R Q D h kc ks pc' ls (.int z :: rest)) : Runs w l Z EL n0 own nm code ml ret R Q D h kc ks pc ls (.int y :: .int x :: rest) := by
  obtain ⟨hd, rfl⟩ := hd
  subst hz
  exact K.plain fun p e m below c T t hx hb X S => XS.irem (g := mkF m pc ls (.int y :: .int x :: rest)) X hx rfl (Jvm.hb hb hd) rfl hy (by rw [show x - x / y * y = x % y from irem_eq_mod x y]; exact S)
theorem Runs.idiv {x y z : Int32} (hd : Ins code pc (.idiv) 1 pc') (hy : y ≠ 0) (hz : x / y = z) (K : Runs w l Z EL n0 own nm code ml ret R Q D h kc ks pc' ls (.int z :: rest)) : Runs w l Z EL n0 own nm code ml ret R Q D h kc ks pc ls (.int y :: .int x :: rest) := by
  obtain ⟨hd, rfl⟩ := hd
  subst hz
  exact K.plain fun p e m below c T t hx hb X S => XS.idiv (g := mkF m pc ls (.int y :: .int x :: rest)) X hx rfl (Jvm.hb hb hd) rfl hy S
theorem Runs.lcmp {x y : Int64} {z : Int32} (hd : Ins code pc (.lcmp) 1 pc') (hz : XT.cmpL x y = z) (K : Runs w l Z EL n0 own nm code ml ret R Q D h kc ks pc' ls (.int z :: rest)) : Runs w l Z EL n0 own nm code ml ret R Q D h kc ks pc ls (.long y :: .long x :: rest) := by
  obtain ⟨hd, rfl⟩ := hd
  subst hz
  exact K.plain fun p e m below c T t hx hb X S => XT.lcmp (g := mkF m pc ls (.long y :: .long x :: rest)) X hx rfl (Jvm.hb hb hd) rfl S
theorem Runs.ineg {x : Int32} {z : Int32} (hd : Ins code pc (.ineg) 1 pc') (hz : -x = z) (K : Runs w l Z EL n0 own nm code ml ret R Q D h kc ks pc' ls (.int z :: rest)) : Runs w l Z EL n0 own nm code ml ret R Q D h kc ks pc ls (.int x :: rest) := by
  obtain ⟨hd, rfl⟩ := hd
  subst hz
  exact K.plain fun p e m below c T t hx hb X S => XS.ineg (g := mkF m pc ls (.int x :: rest)) X hx rfl (Jvm.hb hb hd) rfl S
theorem Runs.i2l {x : Int32} {z : Int64} (hd : Ins code pc (.i2l) 1 pc') (hz : x.toInt64 = z) (K : Runs w l Z EL n0 own nm code ml ret R Q D h kc ks pc' ls (.long z :: rest)) : Runs w l Z EL n0 own nm code ml ret R Q D h kc ks pc ls (.int x :: rest) := by
  obtain ⟨hd, rfl⟩ := hd
  subst hz
  exact K.plain fun p e m below c T t hx hb X S => XT.i2l (g := mkF m pc ls (.int x :: rest)) X hx rfl (Jvm.hb hb hd) rfl S
theorem Runs.l2i {x : Int64} {z : Int32} (hd : Ins code pc (.l2i) 1 pc') (hz : x.toInt32 = z) (K : Runs w l Z EL n0 own nm code ml ret R Q D h kc ks pc' ls (.int z :: rest)) : Runs w l Z EL n0 own nm code ml ret R Q D h kc ks pc ls (.long x :: rest) := by
  obtain ⟨hd, rfl⟩ := hd
  subst hz
  exact K.plain fun p e m below c T t hx hb X S => XT.l2i (g := mkF m pc ls (.long x :: rest)) X hx rfl (Jvm.hb hb hd) rfl S
theorem Runs.i2b {x : Int32} {z : Int32} (hd : Ins code pc (.i2b) 1 pc') (hz : x.toInt8.toInt32 = z) (K : Runs w l Z EL n0 own nm code ml ret R Q D h kc ks pc' ls (.int z :: rest)) : Runs w l Z EL n0 own nm code ml ret R Q D h kc ks pc ls (.int x :: rest) := by
  obtain ⟨hd, rfl⟩ := hd
  subst hz
  exact K.plain fun p e m below c T t hx hb X S => XT.i2b (g := mkF m pc ls (.int x :: rest)) X hx rfl (Jvm.hb hb hd) rfl S
theorem Runs.i2c {x : Int32} {z : Int32} (hd : Ins code pc (.i2c) 1 pc') (hz : x.toUInt32.toUInt16.toUInt32.toInt32 = z) (K : Runs w l Z EL n0 own nm code ml ret R Q D h kc ks pc' ls (.int z :: rest)) : Runs w l Z EL n0 own nm code ml ret R Q D h kc ks pc ls (.int x :: rest) := by
  obtain ⟨hd, rfl⟩ := hd
  subst hz
  exact K.plain fun p e m below c T t hx hb X S => XT.i2c (g := mkF m pc ls (.int x :: rest)) X hx rfl (Jvm.hb hb hd) rfl S
theorem Runs.i2s {x : Int32} {z : Int32} (hd : Ins code pc (.i2s) 1 pc') (hz : x.toInt16.toInt32 = z) (K : Runs w l Z EL n0 own nm code ml ret R Q D h kc ks pc' ls (.int z :: rest)) : Runs w l Z EL n0 own nm code ml ret R Q D h kc ks pc ls (.int x :: rest) := by
  obtain ⟨hd, rfl⟩ := hd
  subst hz
  exact K.plain fun p e m below c T t hx hb X S => XT.i2s (g := mkF m pc ls (.int x :: rest)) X hx rfl (Jvm.hb hb hd) rfl S
theorem Runs.lneg {x : Int64} {z : Int64} (hd : Ins code pc (.lneg) 1 pc') (hz : -x = z) (K : Runs w l Z EL n0 own nm code ml ret R Q D h kc ks pc' ls (.long z :: rest)) : Runs w l Z EL n0 own nm code ml ret R Q D h kc ks pc ls (.long x :: rest) := by
  obtain ⟨hd, rfl⟩ := hd
  subst hz
  exact K.plain fun p e m below c T t hx hb X S => XT.lneg (g := mkF m pc ls (.long x :: rest)) X hx rfl (Jvm.hb hb hd) rfl S
theorem Runs.iinc {k : Nat} {cst : Int} {x z : Int32} (hd : Ins code pc (.iinc k cst) 3 pc') (hl : ls[k]? = some (.val (.int x))) (hz : x + Int32.ofInt cst = z) (hl' : storeLocals ls k (.int z) = some ls') (K : Runs w l Z EL n0 own nm code ml ret R Q D h kc ks pc' ls' st) : Runs w l Z EL n0 own nm code ml ret R Q D h kc ks pc ls st := by
  obtain ⟨hd, rfl⟩ := hd
  subst hz
  exact K.plain fun p e m below c T t hx hb X S => XS.iinc (g := mkF m pc ls st) X hx rfl (Jvm.hb hb hd) hl hl' S
theorem Runs.dup {x : Value} (hd : Ins code pc (.dup) 1 pc') (hc : x.category = 1) (K : Runs w l Z EL n0 own nm code ml ret R Q D h kc ks pc' ls (x :: x :: rest)) : Runs w l Z EL n0 own nm code ml ret R Q D h kc ks pc ls (x :: rest) := by
  obtain ⟨hd, rfl⟩ := hd
  exact K.plain fun p e m below c T t hx hb X S => XS.dup (g := mkF m pc ls (x :: rest)) X hx rfl (Jvm.hb hb hd) rfl hc S
theorem Runs.pop {x : Value} (hd : Ins code pc (.pop) 1 pc') (hc : x.category = 1) (K : Runs w l Z EL n0 own nm code ml ret R Q D h kc ks pc' ls rest) : Runs w l Z EL n0 own nm code ml ret R Q D h kc ks pc ls (x :: rest) := by
  obtain ⟨hd, rfl⟩ := hd
  exact K.plain fun p e m below c T t hx hb X S => XT.pop (g := mkF m pc ls (x :: rest)) X hx rfl (Jvm.hb hb hd) rfl hc S
theorem Runs.dupX1 {x y : Value} (hd : Ins code pc (.dup_x1) 1 pc') (hc : x.category = 1) (hc' : y.category = 1) (K : Runs w l Z EL n0 own nm code ml ret R Q D h kc ks pc' ls (x :: y :: x :: rest)) : Runs w l Z EL n0 own nm code ml ret R Q D h kc ks pc ls (x :: y :: rest) := by
  obtain ⟨hd, rfl⟩ := hd
  exact K.plain fun p e m below c T t hx hb X S => XT.dupX1 (g := mkF m pc ls (x :: y :: rest)) X hx rfl (Jvm.hb hb hd) rfl hc hc' S
theorem Runs.dup2 {x y : Value} (hd : Ins code pc (.dup2) 1 pc') (hc : x.category = 1) (hc' : y.category = 1) (K : Runs w l Z EL n0 own nm code ml ret R Q D h kc ks pc' ls (x :: y :: x :: y :: rest)) : Runs w l Z EL n0 own nm code ml ret R Q D h kc ks pc ls (x :: y :: rest) := by
  obtain ⟨hd, rfl⟩ := hd
  exact K.plain fun p e m below c T t hx hb X S => XT.dup2 (g := mkF m pc ls (x :: y :: rest)) X hx rfl (Jvm.hb hb hd) rfl hc hc' S
theorem Runs.goto  {o : Int} {t nx : Nat} (hd : Ins code pc (.goto o) 3 nx) (hj : Jmp pc o t)  (K : Runs w l Z EL n0 own nm code ml ret R Q D h kc ks t ls st) : Runs w l Z EL n0 own nm code ml ret R Q D h kc ks pc ls st :=
  K.plain fun p e m below c T tg hx hb X S => XS.goto (g := mkF m pc ls st) X hx rfl (pc0 := pc) rfl (Jvm.hb hb hd.1) hj.1 hj.2 S
theorem Runs.ifY {cd : ClassFile.Cond} {x : Int32} {o : Int} {t nx : Nat} (hd : Ins code pc (.ifCond cd o) 3 nx) (hj : Jmp pc o t) (hc : if_icmp.holds cd x 0 = true) (K : Runs w l Z EL n0 own nm code ml ret R Q D h kc ks t ls rest) : Runs w l Z EL n0 own nm code ml ret R Q D h kc ks pc ls (.int x :: rest) :=
  K.plain fun p e m below c T tg hx hb X S => XS.ifYes (g := mkF m pc ls (.int x :: rest)) X hx rfl (pc0 := pc) rfl (Jvm.hb hb hd.1) rfl ((if0 cd x).trans hc) hj.1 hj.2 S
theorem Runs.icY {cd : ClassFile.Cond} {x y : Int32} {o : Int} {t nx : Nat} (hd : Ins code pc (.if_icmp cd o) 3 nx) (hj : Jmp pc o t) (hc : if_icmp.holds cd x y = true) (K : Runs w l Z EL n0 own nm code ml ret R Q D h kc ks t ls rest) : Runs w l Z EL n0 own nm code ml ret R Q D h kc ks pc ls (.int y :: .int x :: rest) :=
  K.plain fun p e m below c T tg hx hb X S => XS.icmpYes (g := mkF m pc ls (.int y :: .int x :: rest)) X hx rfl (pc0 := pc) rfl (Jvm.hb hb hd.1) rfl hc hj.1 hj.2 S
theorem Runs.nullY  {o : Int} {t nx : Nat} (hd : Ins code pc (.ifnull o) 3 nx) (hj : Jmp pc o t)  (K : Runs w l Z EL n0 own nm code ml ret R Q D h kc ks t ls rest) : Runs w l Z EL n0 own nm code ml ret R Q D h kc ks pc ls (.null :: rest) :=
  K.plain fun p e m below c T tg hx hb X S => XS.ifnullYes (g := mkF m pc ls (.null :: rest)) X hx rfl (pc0 := pc) rfl (Jvm.hb hb hd.1) rfl hj.1 hj.2 S
theorem Runs.nnullY {b : Addr} {o : Int} {t nx : Nat} (hd : Ins code pc (.ifnonnull o) 3 nx) (hj : Jmp pc o t)  (K : Runs w l Z EL n0 own nm code ml ret R Q D h kc ks t ls rest) : Runs w l Z EL n0 own nm code ml ret R Q D h kc ks pc ls (.ref b :: rest) :=
  K.plain fun p e m below c T tg hx hb X S => XT.ifnonnullYes (g := mkF m pc ls (.ref b :: rest)) X hx rfl (pc0 := pc) rfl (Jvm.hb hb hd.1) rfl hj.1 hj.2 S
theorem Runs.acY {cd : ClassFile.ACond} {x y : Value} {o : Int} {t nx : Nat} (hd : Ins code pc (.if_acmp cd o) 3 nx) (hj : Jmp pc o t) (hx' : x.isRef = true) (hy' : y.isRef = true) (hc : XT.acmp cd x y = true) (K : Runs w l Z EL n0 own nm code ml ret R Q D h kc ks t ls rest) : Runs w l Z EL n0 own nm code ml ret R Q D h kc ks pc ls (y :: x :: rest) :=
  K.plain fun p e m below c T tg hx hb X S => XT.acmpYes (g := mkF m pc ls (y :: x :: rest)) X hx rfl (pc0 := pc) rfl (Jvm.hb hb hd.1) rfl hx' hy' hc hj.1 hj.2 S
theorem Runs.ifN {cd : ClassFile.Cond} {o : Int} {x : Int32} (hd : Ins code pc (.ifCond cd o) 3 pc') (hc : if_icmp.holds cd x 0 = false) (K : Runs w l Z EL n0 own nm code ml ret R Q D h kc ks pc' ls rest) : Runs w l Z EL n0 own nm code ml ret R Q D h kc ks pc ls (.int x :: rest) := by
  obtain ⟨hd, rfl⟩ := hd
  exact K.plain fun p e m below c T t hx hb X S => XS.ifNo (g := mkF m pc ls (.int x :: rest)) X hx rfl (Jvm.hb hb hd) rfl ((if0 cd x).trans hc) S
theorem Runs.icN {cd : ClassFile.Cond} {o : Int} {x y : Int32} (hd : Ins code pc (.if_icmp cd o) 3 pc') (hc : if_icmp.holds cd x y = false) (K : Runs w l Z EL n0 own nm code ml ret R Q D h kc ks pc' ls rest) : Runs w l Z EL n0 own nm code ml ret R Q D h kc ks pc ls (.int y :: .int x :: rest) := by
  obtain ⟨hd, rfl⟩ := hd
  exact K.plain fun p e m below c T t hx hb X S => XS.icmpNo (g := mkF m pc ls (.int y :: .int x :: rest)) X hx rfl (Jvm.hb hb hd) rfl hc S
theorem Runs.nullN {o : Int} {b : Addr} (hd : Ins code pc (.ifnull o) 3 pc')  (K : Runs w l Z EL n0 own nm code ml ret R Q D h kc ks pc' ls rest) : Runs w l Z EL n0 own nm code ml ret R Q D h kc ks pc ls (.ref b :: rest) := by
  obtain ⟨hd, rfl⟩ := hd
  exact K.plain fun p e m below c T t hx hb X S => XS.ifnullNo (g := mkF m pc ls (.ref b :: rest)) X hx rfl (Jvm.hb hb hd) rfl S
theorem Runs.nnullN {o : Int} (hd : Ins code pc (.ifnonnull o) 3 pc')  (K : Runs w l Z EL n0 own nm code ml ret R Q D h kc ks pc' ls rest) : Runs w l Z EL n0 own nm code ml ret R Q D h kc ks pc ls (.null :: rest) := by
  obtain ⟨hd, rfl⟩ := hd
  exact K.plain fun p e m below c T t hx hb X S => XT.ifnonnullNo (g := mkF m pc ls (.null :: rest)) X hx rfl (Jvm.hb hb hd) rfl S
theorem Runs.acN {cd : ClassFile.ACond} {o : Int} {x y : Value} (hd : Ins code pc (.if_acmp cd o) 3 pc') (hx' : x.isRef = true) (hy' : y.isRef = true) (hc : XT.acmp cd x y = false) (K : Runs w l Z EL n0 own nm code ml ret R Q D h kc ks pc' ls rest) : Runs w l Z EL n0 own nm code ml ret R Q D h kc ks pc ls (y :: x :: rest) := by
  obtain ⟨hd, rfl⟩ := hd
  exact K.plain fun p e m below c T t hx hb X S => XT.acmpNo (g := mkF m pc ls (y :: x :: rest)) X hx rfl (Jvm.hb hb hd) rfl hx' hy' hc S

/-! the returns -/
theorem Runs.leave {v : Option Value} (hv : ret = none → v = none)
    (f : ∀ (p : Program) (e : Env) (s : State) (m : MethodId) (args : Array Value) (below : List Frame) (meth : Method) (c : Code) (T : State) (locs : List Loc), Ctx p s m meth c Z own nm code ml ret → Stand p l e R s m args below meth c T locs kc ks → ∀ fs : List Frame,
      (∀ (f : JFrame) (acts : List Action), f.method = m → f.locked = none → f.entered = [] → (doReturn e (T.setTop f) acts v).1 = T.setFrames fs) → Steps p.tables e below (T.setTop (mkF m pc ls st)) (T.setFrames fs))
    (hc : kc ≤ R.cells) (hk : ks ≤ R.slots) (hQ : Q v h D) : Runs w l Z EL n0 own nm code ml ret R Q D h kc ks pc ls st := by
  intro p e s vm0 m args below meth c T locs C X eT N O H
  have hlk : meth.locks = false := C.2.2.2.2.2.2.1
  have hr : meth.sig.returnType = ret := C.2.2.2.2.2.1
  obtain ⟨H1, ⟨a0, H2⟩, H3, H4⟩ := H
  have A := CHv.at X C.2.1 H2 H3.1
  have hs : ∀ x ∈ D, x < h.size ∧ Safe Z EL T.vm h x := fun x hx => ⟨(H4 x hx).1, A.safe (H4 x hx).1 (H4 x hx).2⟩
  have A' := H3.trans A
  subst eT
  cases w
  · have e1 : vm0 = s.vm := H1
    subst e1
    obtain ⟨fs, h1, h2, h3, h4, h5⟩ := X.leave (v := v) (fun q => hv (hr ▸ q)) hlk
    exact ⟨_, _, f p e _ m args below meth c T locs C X fs h1, h2, h3, v, locs, D, rfl, hQ, O, N, ⟨A', hs⟩, ⟨v, rfl⟩, h4, h5.mono hc hk⟩
  · obtain ⟨k0, hS, hk0⟩ := H1
    obtain ⟨fs, h1, h2, h3, ⟨g1, g2, g3, g4⟩⟩ := X.leaveW hS hk0 (v := v) (fun q => hv (hr ▸ q)) hlk
    exact ⟨_, _, f p e _ m args below meth c T locs C X fs h1, h2, h3, v, locs, D, rfl, hQ, O, N, ⟨A', hs⟩, g1, g2, g3, g4.mono hc hk⟩
theorem Runs.retV {nx : Nat} (hd : Ins code pc .return_ 1 nx) (hr : ret = none) (hc : kc ≤ R.cells) (hk : ks ≤ R.slots) (hQ : Q none h D) : Runs w l Z EL n0 own nm code ml ret R Q D h kc ks pc ls [] :=
  Runs.leave (v := none) (fun _ => rfl) (fun p e s m args below meth c T locs C X fs hl => X.returnOut C.1 (C.2.2.2.2.2.1.trans hr) (Jvm.hb C.2.2.1 hd.1) hl) hc hk hQ
theorem Runs.retI {nx : Nat} {t : FieldType} {x z : Int32} (hd : Ins code pc .ireturn 1 nx) (hr : ret = some t) (ht : t = .int ∨ t = .boolean ∨ t = .byte ∨ t = .char ∨ t = .short) (hn : narrow t (.int x) = .int z) (hc : kc ≤ R.cells) (hk : ks ≤ R.slots) (hQ : Q (some (.int z)) h D) : Runs w l Z EL n0 own nm code ml ret R Q D h kc ks pc ls [.int x] :=
  Runs.leave (v := some (.int z)) (fun q => by rw [hr] at q; cases q) (fun p e s m args below meth c T locs C X fs hl => by
    have hm' : T.vm.method? m = some meth := X.method'
    have hx := C.1
    have hd' := Jvm.hb C.2.2.1 hd.1
    have hret : meth.sig.returnType = some t := C.2.2.2.2.2.1.trans hr
    show Steps p.tables e below (T.setTop { method := m, pc := pc, locals := ls, stack := [_], locked := none }) _
    rcases ht with rfl | rfl | rfl | rfl | rfl
    all_goals
      jvm_step X.here [X.here.top, hx, hd', hm', hret, hn]
      first | (intro acts; rw [hl _ acts rfl rfl rfl]) | rw [hl _ _ rfl rfl rfl]
      exact Steps.refl _) hc hk hQ
theorem Runs.retA {nx : Nat} {t : FieldType} {x : Value} (hd : Ins code pc .areturn 1 nx) (hr : ret = some t) (ht : t.isReference = true) (hx : x.isRef = true) (hc : kc ≤ R.cells) (hk : ks ≤ R.slots) (hQ : Q (some x) h D) : Runs w l Z EL n0 own nm code ml ret R Q D h kc ks pc ls [x] :=
  Runs.leave (v := some x) (fun q => by rw [hr] at q; cases q) (fun p e s m args below meth c T locs C X fs hl =>
    RoadKit.retOut X C.1 (C.2.2.2.2.2.1.trans hr) (by cases x <;> first | rfl | (simp [Value.isRef] at hx; done) | (cases t <;> first | rfl | (simp [FieldType.isReference] at ht; done))) (Or.inr (Or.inr (Or.inr (Or.inr ⟨rfl, ht, hx⟩)))) (Jvm.hb C.2.2.1 hd.1) hl) hc hk hQ
theorem Runs.retJ {nx : Nat} {x : Int64} (hd : Ins code pc .lreturn 1 nx) (hr : ret = some .long) (hc : kc ≤ R.cells) (hk : ks ≤ R.slots) (hQ : Q (some (.long x)) h D) : Runs w l Z EL n0 own nm code ml ret R Q D h kc ks pc ls [.long x] :=
  Runs.leave (v := some (.long x)) (fun q => by rw [hr] at q; cases q) (fun p e s m args below meth c T locs C X fs hl =>
    RoadKit.retOut X C.1 (C.2.2.2.2.2.1.trans hr) rfl (Or.inr (Or.inl ⟨rfl, rfl, x, rfl⟩)) (Jvm.hb C.2.2.1 hd.1) hl) hc hk hQ
/-! statics, fields, constants -/
theorem Runs.getS {R0 O n d : String} {index : Nat} {v : Value} (hd : Ins code pc (.getstatic index) 3 pc') (wl : (Cond.fieldLink own index R0 n d).before a0 Z = true) (via : Via Z R0 O n d) (F : Sta Z Z.heap O n d v) (K : Runs w l Z EL n0 own nm code ml ret R Q D h kc ks pc' ls (v :: st)) : Runs w l Z EL n0 own nm code ml ret R Q D h kc ks pc ls st := by
  obtain ⟨hd, rfl⟩ := hd
  exact K.warm fun p e s m args below meth c T locs C X eT O => RoadKit.getS (host := "") X C.1 C.2.1 C.2.2.2.2.1 wl via eT (F.ext O.2) (g := mkF m pc ls st) rfl (Jvm.hb C.2.2.1 hd)
theorem Runs.getSN {R0 O n d host : String} {index : Nat} {v : Value} (hd : Ins code pc (.getstatic index) 3 pc') (wl : (Cond.fieldLinkNest own index R0 n d host).before a0 Z = true) (via : Via Z R0 O n d) (F : Sta Z Z.heap O n d v) (K : Runs w l Z EL n0 own nm code ml ret R Q D h kc ks pc' ls (v :: st)) : Runs w l Z EL n0 own nm code ml ret R Q D h kc ks pc ls st := by
  obtain ⟨hd, rfl⟩ := hd
  exact K.warm fun p e s m args below meth c T locs C X eT O => RoadKit.getS2 (host := host) X C.1 C.2.1 C.2.2.2.2.1 (Or.inr wl) via eT (F.ext O.2) (g := mkF m pc ls st) rfl (Jvm.hb C.2.2.1 hd)
theorem Runs.getF {R0 O n d host : String} {index : Nat} {a : Addr} {v : Value} (hd : Ins code pc (.getfield index) 3 pc') (wl : (Cond.fieldLink own index R0 n d).before a0 Z = true ∨ (Cond.fieldLinkNest own index R0 n d host).before a0 Z = true) (via : Via Z R0 O n d) (F : Fld Z h a O n d v) (K : Runs w l Z EL n0 own nm code ml ret R Q D h kc ks pc' ls (v :: rest)) : Runs w l Z EL n0 own nm code ml ret R Q D h kc ks pc ls (.ref a :: rest) := by
  obtain ⟨hd, rfl⟩ := hd
  exact K.warm fun p e s m args below meth c T locs C X eT O => RoadKit.getF X C.1 C.2.1 C.2.2.2.2.1 wl via eT F (g := mkF m pc ls (.ref a :: rest)) rfl rfl (Jvm.hb C.2.2.1 hd)
theorem Runs.ldcI {index : Nat} {v : Int32} (hd : Ins code pc (.ldc index) 2 pc') (wl : (Cond.constant own index v).before a0 Z = true) (K : Runs w l Z EL n0 own nm code ml ret R Q D h kc ks pc' ls (.int v :: st)) : Runs w l Z EL n0 own nm code ml ret R Q D h kc ks pc ls st := by
  obtain ⟨hd, rfl⟩ := hd
  exact K.warm fun p e s m args below meth c T locs C X eT O => ⟨T, X, eT, fun t S => X.ldcI C.1 C.2.2.2.2.1 (mv C.2.1 wl) (g := mkF m pc ls st) rfl (Jvm.hb C.2.2.1 hd) S⟩
theorem Runs.ldcJ {index : Nat} {v : Int64} (hd : Ins code pc (.ldc2_w index) 3 pc') (wl : (Cond.constantLong own index v).before a0 Z = true) (K : Runs w l Z EL n0 own nm code ml ret R Q D h kc ks pc' ls (.long v :: st)) : Runs w l Z EL n0 own nm code ml ret R Q D h kc ks pc ls st := by
  obtain ⟨hd, rfl⟩ := hd
  exact K.warm fun p e s m args below meth c T locs C X eT O => ⟨T, X, eT, fun t S => X.ldc2J C.1 C.2.2.2.2.1 (mv C.2.1 wl) (g := mkF m pc ls st) rfl (Jvm.hb C.2.2.1 hd) S⟩
end W


/-! objects, arrays -/
abbrev FV := String × String × String × Value
def FV.key (f : FV) : String × String × String := (f.1, f.2.1, f.2.2.1)
/-- the object at a is exactly a C; its fields fs hold what they say -/
def Obj (Z : State) (h : Heap) (a : Addr) (C : String) (fs : List FV) : Prop := Exa Z h a C ∧ ∀ f ∈ fs, Fld Z h a f.1 f.2.1 f.2.2.1 f.2.2.2
/-- the fields of a C, at their first values -/
def LayD (Z : State) (a0 : Array Value) (C : String) (dl : List FV) : Prop := (∀ f ∈ dl, Laid Z a0 C f.1 f.2.1 f.2.2.1 ∧ ∃ t, parseFieldDescriptor f.2.2.1 = some t ∧ defaultValue t = f.2.2.2) ∧ (dl.map fun f => f.2.1).Nodup
section H
variable {Z : State} {h h' : Heap} {a b : Addr} {C : String} {fs dl : List FV} {ws : List Addr} {a0 : Array Value}
theorem Obj.fld {i : Nat} {o n d : String} {v : Value} (O : Obj Z h a C fs) (hi : fs[i]? = some (o, n, d, v)) : Fld Z h a o n d v := O.2 _ (List.mem_of_getElem? hi)
theorem Obj.keep (O : Obj Z h a C fs) (K : Keep h h' ws) (q : a ∉ ws) : Obj Z h' a C fs := ⟨O.1.keep K, fun f hf => (O.2 f hf).keep K q⟩
theorem Obj.ext (O : Obj Z h a C fs) (E : Ext h h') : Obj Z h' a C fs := ⟨O.1.ext E, fun f hf => (O.2 f hf).ext E⟩
theorem Obj.lt (O : Obj Z h a C fs) : a < h.size := O.1.lt
theorem Obj.sub {gs : List FV} (O : Obj Z h a C fs) (q : ∀ f ∈ gs, f ∈ fs) : Obj Z h a C gs := ⟨O.1, fun f hf => O.2 f (q f hf)⟩
theorem keepE (E : Ext h h') : Keep h h' ws := (Keep.refl h ws).ext E
theorem Keep.sub {ws' : List Addr} (K : Keep h h' ws) (q : ∀ x ∈ ws, x ∈ ws') : Keep h h' ws' := ⟨K.1, fun x c e r => K.2.1 x c e fun z => r (q x z), K.2.2⟩
theorem nodup_key : ∀ {dl : List FV} {i j : Nat} {f g : FV}, (dl.map fun f => f.2.1).Nodup → dl[i]? = some f → dl[j]? = some g → i ≠ j → f.2.1 ≠ g.2.1 := by
  intro dl i j f g hn hi hj hij he
  obtain ⟨h1, e1⟩ := List.getElem?_eq_some_iff.mp hi
  obtain ⟨h2, e2⟩ := List.getElem?_eq_some_iff.mp hj
  have hp := List.pairwise_iff_getElem.mp hn
  rcases Nat.lt_or_gt_of_ne hij with q | q
  · exact hp i j (by simpa using h1) (by simpa using h2) q (by simp only [List.getElem_map, e1, e2]; exact he)
  · exact hp j i (by simpa using h2) (by simpa using h1) q (by simp only [List.getElem_map, e1, e2]; exact he.symm)
theorem Obj.put {i : Nat} {o n d : String} {old v : Value} (O : Obj Z h a C fs) (hi : fs[i]? = some (o, n, d, old)) (L : LayD Z a0 C dl) (hk : fs.map FV.key = dl.map FV.key) (W : Wr h h' a (RoadKit.slotOf Z o n d) v) : Obj Z h' a C (fs.set i (o, n, d, v)) := by
  refine ⟨O.1.wr W, fun f hf => ?_⟩
  obtain ⟨j, hj⟩ := List.mem_iff_getElem?.mp hf
  by_cases e : i = j
  · subst e
    rw [List.getElem?_set_self (by exact (List.getElem?_eq_some_iff.mp hi).1)] at hj
    cases hj
    exact (O.fld hi).same W
  · rw [List.getElem?_set_ne e] at hj
    obtain ⟨o', n', d', v'⟩ := f
    have F := O.fld hj
    have key : ∀ {k : Nat} {g : FV}, fs[k]? = some g → ∃ g' : FV, dl[k]? = some g' ∧ g'.key = g.key := fun {k g} q => by
      have q' : (fs.map FV.key)[k]? = some g.key := by simp [q]
      rw [hk, List.getElem?_map] at q'
      cases hd : dl[k]? with
      | none => simp [hd] at q'
      | some g' => exact ⟨g', rfl, by simpa [hd] using q'⟩
    obtain ⟨f1, q1, k1⟩ := key hi
    obtain ⟨f2, q2, k2⟩ := key hj
    have hne := nodup_key L.2 q1 q2 e
    obtain ⟨L1, t1, p1, -⟩ := L.1 f1 (List.mem_of_getElem? q1)
    obtain ⟨L2, t2, p2, -⟩ := L.1 f2 (List.mem_of_getElem? q2)
    simp only [FV.key, Prod.mk.injEq] at k1 k2
    obtain ⟨a1, b1, c1⟩ := k1
    obtain ⟨a2, b2, c2⟩ := k2
    rw [a1, b1, c1] at L1; rw [a2, b2, c2] at L2; rw [c1] at p1; rw [c2] at p2
    exact F.other W (Or.inr (slot_ne L2 L1 (by rw [← b1, ← b2]; exact fun z => hne z.symm) p2 p1))
end H
section W2
variable {w : Bool} {l : Launch} {Z : State} {EL : List (String × Nat)} {n0 : Nat} {own nm : String} {code : ByteArray} {ml : Nat} {ret : Option FieldType} {R : Room} {Q : Option Value → Heap → List Addr → Prop} {D : List Addr} {h h' : Heap} {kc ks pc pc' : Nat} {ls ls' : Array Slot} {st st' rest : List Value} {a0 : Array Value} {s : State} {vm0 : Vm}
theorem Hid.keep {ws : List Addr} (H : Hid w Z EL D s vm0 h) (K : Keep h h' ws) (q : ∀ x ∈ ws, Safe Z EL vm0 h x) : Hid w Z EL D s vm0 h' := by
  obtain ⟨H1, H2, H3, H4⟩ := H
  refine ⟨?_, H2, H3.trans (CHr.keep K q H3.1), fun x hx => ⟨Nat.lt_of_lt_of_le (H4 x hx).1 K.1, (H4 x hx).2.keep K q H3.1⟩⟩
  split
  · rename_i e; rw [if_pos e] at H1; obtain ⟨k0, g1, g2⟩ := H1; exact ⟨k0, g1, Nat.le_trans g2 K.1⟩
  · rename_i e; rw [if_neg e] at H1; exact H1
theorem Hid.more {b : Addr} (H : Hid w Z EL D s vm0 h) (E : Ext h h') (hb : h.size ≤ b) (hb' : b < h'.size) : Hid w Z EL (b :: D) s vm0 h' := by
  have H' := H.keep (keepE (ws := []) E) (fun x q => nomatch q)
  refine ⟨H'.1, H'.2.1, H'.2.2.1, fun x hx => ?_⟩
  rcases List.mem_cons.mp hx with rfl | hx
  · exact ⟨hb', (Safe.new hb).ext E H.2.2.1.1⟩
  · exact H'.2.2.2 x hx
/-- a step that writes one old place, or none -/
theorem Runs.write {ws : List Addr} {P : Heap → Prop} (hg : ∀ x ∈ ws, n0 ≤ x) (hs : ∀ vm0 : Vm, Z.vm.Alike vm0 → (∀ x ∈ D, Safe Z EL vm0 h x) → ∀ x ∈ ws, Safe Z EL vm0 h x)
    (K : ∀ h', Keep h h' ws → P h' → Runs w l Z EL n0 own nm code ml ret R Q D h' kc ks pc' ls' st')
    (f : ∀ (p : Program) (e : Env) (s : State) (m : MethodId) (args : Array Value) (below : List Frame) (meth : Method) (c : Code) (T : State) (locs : List Loc), Ctx p s m meth c Z own nm code ml ret → Stand p l e R s m args below meth c T locs kc ks → T.heap = h → Old Z n0 h → Fr n0 locs →
      ∃ T' locs', Stand p l e R s m args below meth c T' locs' kc ks ∧ Fr n0 locs' ∧ Keep h T'.heap ws ∧ P T'.heap ∧ ∀ target, Steps p.tables e below (T'.setTop (mkF m pc' ls' st')) target → Steps p.tables e below (T.setTop (mkF m pc ls st)) target) : Runs w l Z EL n0 own nm code ml ret R Q D h kc ks pc ls st := by
  intro p e s vm0 m args below meth c T locs C X eT N O H
  obtain ⟨T', locs', X', N', K', P', S'⟩ := f p e _ m args below meth c T locs C X eT O N
  obtain ⟨s₂, o, S, r⟩ := K _ K' P' p e s vm0 m args below meth c T' locs' C X' rfl N' (O.keep K' hg) (H.keep K' (hs vm0 C.2.1.alike (fun x hx => (H.2.2.2 x hx).2)))
  exact ⟨s₂, o, S' _ S, r⟩
theorem safeC {a : Addr} {C : String} (E : Exa Z h a C) (hs : a ∈ D ∨ (C ≠ "java/lang/String" ∧ C ≠ "[B")) : ∀ vm0 : Vm, Z.vm.Alike vm0 → (∀ x ∈ D, Safe Z EL vm0 h x) → ∀ x ∈ [a], Safe Z EL vm0 h x := fun vm0 hal hD x hx => by
  cases List.mem_singleton.mp hx
  rcases hs with hs | hs
  · exact hD _ hs
  · exact Safe.exa hal E hs.1 hs.2
theorem safeA {a : Addr} {k : ClassId} {ty : FieldType} {z : Int32} {vs : List Value} {d : Value} (A : Arv Z h a k ty z vs d) (hs : a ∈ D ∨ ty ≠ .byte) : ∀ vm0 : Vm, Z.vm.Alike vm0 → (∀ x ∈ D, Safe Z EL vm0 h x) → ∀ x ∈ [a], Safe Z EL vm0 h x := fun vm0 hal hD x hx => by
  cases List.mem_singleton.mp hx
  rcases hs with hs | hs
  · exact hD _ hs
  · exact Safe.arv hal A hs
theorem one_ge {a : Addr} (hg : n0 ≤ a) : ∀ x ∈ [a], n0 ≤ x := fun x hx => by cases List.mem_singleton.mp hx; exact hg
theorem Runs.putF {R0 O n d host C : String} {index kk i : Nat} {ty : FieldType} {a : Addr} {v old : Value} {fs dl : List FV} (hd : Ins code pc (.putfield index) 3 pc') (wl : (Cond.fieldLink own index R0 n d).before a0 Z = true ∨ (Cond.fieldLinkNest own index R0 n d host).before a0 Z = true) (via : Via Z R0 O n d)
    (B : Obj Z h a C fs) (hi : fs[i]? = some (O, n, d, old)) (LD : LayD Z a0 C dl) (hk : fs.map FV.key = dl.map FV.key) (L : (Cond.lays C O n d).before a0 Z = true ∨ ((Cond.laysFinal C O n d).before a0 Z = true ∧ own = O ∧ nm = "<init>")) (wi : (Cond.instantiable C kk).before a0 Z = true)
    (hty : parseFieldDescriptor d = some ty) (hn : narrow ty v = v) (hf : fits ty v = true) (hg : n0 ≤ a) (hs : a ∈ D ∨ (C ≠ "java/lang/String" ∧ C ≠ "[B"))
    (K : ∀ h', Keep h h' [a] → Obj Z h' a C (fs.set i (O, n, d, v)) → Runs w l Z EL n0 own nm code ml ret R Q D h' kc ks pc' ls rest) : Runs w l Z EL n0 own nm code ml ret R Q D h kc ks pc ls (v :: .ref a :: rest) := by
  obtain ⟨hd, rfl⟩ := hd
  refine Runs.write (P := fun h' => Obj Z h' a C (fs.set i (O, n, d, v))) (one_ge hg) (safeC B.1 hs) K fun p e s m args below meth c T locs Cx X eT Ol N => ?_
  obtain ⟨T', h1, X', e1, W1, S1⟩ := RoadKit.putF X Cx.1 Cx.2.1 Cx.2.2.2.2.1 wl via eT (B.fld hi) B.1 (L.imp id fun q => ⟨q.1, q.2.1, Cx.2.2.2.2.2.2.2.trans q.2.2⟩) wi hty hn hf (g := mkF m pc ls (v :: .ref a :: rest)) rfl rfl (Jvm.hb Cx.2.2.1 hd)
  subst e1
  exact ⟨T', _, X', Fr.snoc X' N hg, Keep.of_wr W1, B.put hi LD hk W1, S1⟩
theorem Runs.newO {C : String} {index n : Nat} {dl : List FV} (hd : Ins code pc (.new index) 3 pc') (w1 : (Cond.classLink own index C).before a0 Z = true) (w2 : (Cond.instantiable C n).before a0 Z = true) (w3 : (Cond.initialized C).before a0 Z = true) (LD : LayD Z a0 C dl) (hc : kc + 1 ≤ R.cells) (hl : ks + n ≤ R.slots)
    (K : ∀ h' b, h.size ≤ b → n0 ≤ b → Keep h h' [] → Obj Z h' b C dl → Unt h' b → Runs w l Z EL n0 own nm code ml ret R Q (b :: D) h' (kc + 1) (ks + n) pc' ls (.ref b :: st)) : Runs w l Z EL n0 own nm code ml ret R Q D h kc ks pc ls st := by
  obtain ⟨hd, rfl⟩ := hd
  intro p e s vm0 m args below meth c T locs C' X eT N O H
  obtain ⟨T', h1, X', e1, E1, A1, D1, U1, S1⟩ := RoadKit.newO X C'.1 C'.2.1 C'.2.2.2.2.1 w1 w2 w3 eT (g := mkF m pc ls st) rfl (Jvm.hb C'.2.2.1 hd) hc hl
  subst e1
  have hO : n0 ≤ h.size := by rw [← O.1]; exact O.2.1
  obtain ⟨s₂, o, S, r⟩ := K _ h.size (Nat.le_refl _) hO (keepE E1) ⟨A1, fun f hf => by obtain ⟨L1, t, p1, d1⟩ := LD.1 f hf; rw [← d1]; exact D1 L1 p1⟩ U1 p e s vm0 m args below meth c T' locs C' X' rfl N (O.ext E1) (H.more E1 (Nat.le_refl _) A1.lt)
  exact ⟨s₂, o, S1 _ S, r⟩
theorem Runs.newP {aty : ArrayType} {n : Int32} {cap : Nat} {ad : String} (hd : Ins code pc (.newarray aty) 2 pc') (w1 : (Cond.arrayClass (newarray.typeOf aty)).before a0 Z = true) (hn : ¬ n < 0) (hcap : n.toNatClampNeg ≤ cap) (hb : cap * 8 ≤ 536870912) (hc : kc + 1 ≤ R.cells) (hl : ks + cap ≤ R.slots) (had : "[" ++ (newarray.typeOf aty).toString = ad)
    (K : ∀ h' b k, h.size ≤ b → n0 ≤ b → Keep h h' [] → Arv Z h' b k (newarray.typeOf aty) n [] (defaultValue (newarray.typeOf aty)) → Exa Z h' b ad → Runs w l Z EL n0 own nm code ml ret R Q (b :: D) h' (kc + 1) (ks + cap) pc' ls (.ref b :: rest)) : Runs w l Z EL n0 own nm code ml ret R Q D h kc ks pc ls (.int n :: rest) := by
  obtain ⟨hd, rfl⟩ := hd
  intro p e s vm0 m args below meth c T locs C' X eT N O H
  obtain ⟨T', h1, cA, X', e1, E1, A1, x1, S1⟩ := RoadKit.newPE X C'.1 C'.2.1 w1 eT (g := mkF m pc ls (.int n :: rest)) rfl (Jvm.hb C'.2.2.1 hd) rfl hn hcap hb hc hl had
  subst e1
  have hO : n0 ≤ h.size := by rw [← O.1]; exact O.2.1
  obtain ⟨s₂, o, S, r⟩ := K _ h.size cA (Nat.le_refl _) hO (keepE E1) (Arv.new A1 hn) x1 p e s vm0 m args below meth c T' locs C' X' rfl N (O.ext E1) (H.more E1 (Nat.le_refl _) x1.lt)
  exact ⟨s₂, o, S1 _ S, r⟩
theorem Runs.arrlen {a : Addr} {k : ClassId} {ty : FieldType} {z : Int32} {vs : List Value} {d : Value} (hd : Ins code pc .arraylength 1 pc') (A : Arv Z h a k ty z vs d) (K : Runs w l Z EL n0 own nm code ml ret R Q D h kc ks pc' ls (.int z :: rest)) : Runs w l Z EL n0 own nm code ml ret R Q D h kc ks pc ls (.ref a :: rest) := by
  obtain ⟨hd, rfl⟩ := hd
  obtain ⟨cl, A1, -, S1, q, -⟩ := A
  refine K.warm fun p e s m args below meth c T locs C X eT O => ⟨T, X, eT, fun t S => X.arraylength C.1 (by rw [eT]; exact A1.1) (State.isArrayOf_alike C.2.1.alike A1.2.1) (g := mkF m pc ls (.ref a :: rest)) rfl rfl (Jvm.hb C.2.2.1 hd) t ?_⟩
  rw [len_of S1 q]; exact S

theorem Runs.baload {a : Addr} {k : ClassId} {z j : Int32} {vs : List Value} {d v : Value} (hd : Ins code pc .baload 1 pc') (A : Arv Z h a k .byte z vs d) (hj : ¬ j < 0 ∧ j < z) (hv : vs.getD j.toNatClampNeg d = v) (K : Runs w l Z EL n0 own nm code ml ret R Q D h kc ks pc' ls (v :: rest)) : Runs w l Z EL n0 own nm code ml ret R Q D h kc ks pc ls (.int j :: .ref a :: rest) := by
  obtain ⟨hd, rfl⟩ := hd
  obtain ⟨cl, A1, -, S1, q, H1, -⟩ := A
  have hin := inb_of S1 hj
  exact K.warm fun p e s m args below meth c T locs C X eT O => ⟨T, X, eT, fun t S => X.baloadBytes C.1 (by rw [eT]; exact A1.1) (State.isArrayOf_alike C.2.1.alike A1.2.1) A1.2.2 hin (H1.at hin hv) (g := mkF m pc ls (.int j :: .ref a :: rest)) rfl rfl (Jvm.hb C.2.2.1 hd) t S⟩
theorem Runs.caload {a : Addr} {k : ClassId} {z j : Int32} {vs : List Value} {d v : Value} (hd : Ins code pc .caload 1 pc') (A : Arv Z h a k .char z vs d) (hj : ¬ j < 0 ∧ j < z) (hv : vs.getD j.toNatClampNeg d = v) (K : Runs w l Z EL n0 own nm code ml ret R Q D h kc ks pc' ls (v :: rest)) : Runs w l Z EL n0 own nm code ml ret R Q D h kc ks pc ls (.int j :: .ref a :: rest) := by
  obtain ⟨hd, rfl⟩ := hd
  obtain ⟨cl, A1, -, S1, q, H1, -⟩ := A
  have hin := inb_of S1 hj
  exact K.warm fun p e s m args below meth c T locs C X eT O => ⟨T, X, eT, fun t S => X.caload C.1 (by rw [eT]; exact A1.1) (State.isArrayOf_alike C.2.1.alike A1.2.1) A1.2.2 hin (H1.at hin hv) (g := mkF m pc ls (.int j :: .ref a :: rest)) rfl rfl (Jvm.hb C.2.2.1 hd) t S⟩
theorem Runs.iaload {a : Addr} {k : ClassId} {z j : Int32} {vs : List Value} {d v : Value} (hd : Ins code pc .iaload 1 pc') (A : Arv Z h a k .int z vs d) (hj : ¬ j < 0 ∧ j < z) (hv : vs.getD j.toNatClampNeg d = v) (K : Runs w l Z EL n0 own nm code ml ret R Q D h kc ks pc' ls (v :: rest)) : Runs w l Z EL n0 own nm code ml ret R Q D h kc ks pc ls (.int j :: .ref a :: rest) := by
  obtain ⟨hd, rfl⟩ := hd
  obtain ⟨cl, A1, -, S1, q, H1, -⟩ := A
  have hin := inb_of S1 hj
  exact K.warm fun p e s m args below meth c T locs C X eT O => ⟨T, X, eT, fun t S => X.iaload C.1 (by rw [eT]; exact A1.1) (State.isArrayOf_alike C.2.1.alike A1.2.1) A1.2.2 hin (H1.at hin hv) (g := mkF m pc ls (.int j :: .ref a :: rest)) rfl rfl (Jvm.hb C.2.2.1 hd) t S⟩
theorem Runs.aaload {a : Addr} {k : ClassId} {z j : Int32} {vs : List Value} {d v : Value} {ty : FieldType} (hd : Ins code pc .aaload 1 pc') (A : Arv Z h a k ty z vs d) (hty : ty.isReference = true) (hj : ¬ j < 0 ∧ j < z) (hv : vs.getD j.toNatClampNeg d = v) (K : Runs w l Z EL n0 own nm code ml ret R Q D h kc ks pc' ls (v :: rest)) : Runs w l Z EL n0 own nm code ml ret R Q D h kc ks pc ls (.int j :: .ref a :: rest) := by
  obtain ⟨hd, rfl⟩ := hd
  obtain ⟨cl, A1, -, S1, q, H1, -⟩ := A
  have hin := inb_of S1 hj
  exact K.warm fun p e s m args below meth c T locs C X eT O => ⟨T, X, eT, fun t S => X.aaload C.1 (by rw [eT]; exact A1.1) (State.isArrayOf_alike C.2.1.alike A1.2.1) hty A1.2.2 hin (H1.at hin hv) (g := mkF m pc ls (.int j :: .ref a :: rest)) rfl rfl (Jvm.hb C.2.2.1 hd) t S⟩
theorem Runs.bastore {a : Addr} {k : ClassId} {z j x y : Int32} {vs : List Value} {d : Value} {i : Nat} (hd : Ins code pc .bastore 1 pc') (A : Arv Z h a k .byte z vs d) (hj : ¬ j < 0 ∧ j < z) (hi : j.toNatClampNeg = i) (hil : i < vs.length) (hy : x.toInt8.toInt32 = y) (hg : n0 ≤ a) (hs : a ∈ D ∨ (.byte : FieldType) ≠ .byte) (K : ∀ h', Keep h h' [a] → Arv Z h' a k .byte z (vs.set i (.int y)) d → Runs w l Z EL n0 own nm code ml ret R Q D h' kc ks pc' ls rest) : Runs w l Z EL n0 own nm code ml ret R Q D h kc ks pc ls (.int x :: .int j :: .ref a :: rest) := by
  obtain ⟨hd, rfl⟩ := hd
  subst hy
  refine Runs.write (P := fun h' => Arv Z h' a k .byte z (vs.set i (.int (x.toInt8.toInt32))) d) (one_ge hg) (safeA A hs) K fun p e s m args below meth c T locs Cx X eT Ol N => ?_
  obtain ⟨cl, A1, q1, S1, q, H1, G1⟩ := A
  obtain ⟨T', h1, X', e1, W1, st1⟩ := RoadKit.stB X Cx.1 Cx.2.1 eT A1 (inb_of S1 hj) (g := mkF m pc ls (.int x :: .int j :: .ref a :: rest)) rfl rfl (Jvm.hb Cx.2.2.1 hd)
  subst e1
  exact ⟨T', _, X', Fr.snoc X' N hg, Keep.of_wr W1, Arv.set A1 q1 S1 q H1 G1 (fits_nar_byte x) W1 i hi hil, st1⟩
theorem Runs.castore {a : Addr} {k : ClassId} {z j x y : Int32} {vs : List Value} {d : Value} {i : Nat} (hd : Ins code pc .castore 1 pc') (A : Arv Z h a k .char z vs d) (hj : ¬ j < 0 ∧ j < z) (hi : j.toNatClampNeg = i) (hil : i < vs.length) (hy : nar .char x = y) (hg : n0 ≤ a) (hs : a ∈ D ∨ (.char : FieldType) ≠ .byte) (K : ∀ h', Keep h h' [a] → Arv Z h' a k .char z (vs.set i (.int y)) d → Runs w l Z EL n0 own nm code ml ret R Q D h' kc ks pc' ls rest) : Runs w l Z EL n0 own nm code ml ret R Q D h kc ks pc ls (.int x :: .int j :: .ref a :: rest) := by
  obtain ⟨hd, rfl⟩ := hd
  subst hy
  refine Runs.write (P := fun h' => Arv Z h' a k .char z (vs.set i (.int (nar .char x))) d) (one_ge hg) (safeA A hs) K fun p e s m args below meth c T locs Cx X eT Ol N => ?_
  obtain ⟨cl, A1, q1, S1, q, H1, G1⟩ := A
  obtain ⟨T', h1, X', e1, W1, st1⟩ := RoadKit.stC X Cx.1 Cx.2.1 eT A1 (inb_of S1 hj) (g := mkF m pc ls (.int x :: .int j :: .ref a :: rest)) rfl rfl (Jvm.hb Cx.2.2.1 hd)
  subst e1
  exact ⟨T', _, X', Fr.snoc X' N hg, Keep.of_wr W1, Arv.set A1 q1 S1 q H1 G1 (fits_nar_char x) W1 i hi hil, st1⟩
theorem Runs.iastore {a : Addr} {k : ClassId} {z j x y : Int32} {vs : List Value} {d : Value} {i : Nat} (hd : Ins code pc .iastore 1 pc') (A : Arv Z h a k .int z vs d) (hj : ¬ j < 0 ∧ j < z) (hi : j.toNatClampNeg = i) (hil : i < vs.length) (hy : x = y) (hg : n0 ≤ a) (hs : a ∈ D ∨ (.int : FieldType) ≠ .byte) (K : ∀ h', Keep h h' [a] → Arv Z h' a k .int z (vs.set i (.int y)) d → Runs w l Z EL n0 own nm code ml ret R Q D h' kc ks pc' ls rest) : Runs w l Z EL n0 own nm code ml ret R Q D h kc ks pc ls (.int x :: .int j :: .ref a :: rest) := by
  obtain ⟨hd, rfl⟩ := hd
  subst hy
  refine Runs.write (P := fun h' => Arv Z h' a k .int z (vs.set i (.int (x))) d) (one_ge hg) (safeA A hs) K fun p e s m args below meth c T locs Cx X eT Ol N => ?_
  obtain ⟨cl, A1, q1, S1, q, H1, G1⟩ := A
  obtain ⟨T', h1, X', e1, W1, st1⟩ := RoadKit.stI X Cx.1 Cx.2.1 eT A1 (inb_of S1 hj) (g := mkF m pc ls (.int x :: .int j :: .ref a :: rest)) rfl rfl (Jvm.hb Cx.2.2.1 hd)
  subst e1
  exact ⟨T', _, X', Fr.snoc X' N hg, Keep.of_wr W1, Arv.set A1 q1 S1 q H1 G1 (rfl) W1 i hi hil, st1⟩

theorem Runs.initO {idx W : Nat} {a : Addr} (hd : Ins code pc (.invokespecial idx) 3 pc') (w1 : (Cond.methodLink own idx Lib.objectInit).before a0 Z = true) (w2 : (Cond.instanceMethod Lib.objectInit).before a0 Z = true) (w3 : (Cond.code Lib.objectInit ⟨#[0xb1]⟩ 1 none).before a0 Z = true) (hls : ls.size = ml) (hf : 1 ≤ R.frames) (hW : (rest.map fun v => v.category).sum = W) (hl : W + 12 ≤ R.locals)
    (K : Runs w l Z EL n0 own nm code ml ret R Q D h kc ks pc' ls rest) : Runs w l Z EL n0 own nm code ml ret R Q D h kc ks pc ls (.ref a :: rest) := by
  obtain ⟨hd, rfl⟩ := hd
  exact K.warm fun p e s m args below meth c T locs C X eT O => RoadKit.initO X C.1 C.2.1 C.2.2.2.2.1 w1 w2 w3 eT (g := mkF m pc ls (.ref a :: rest)) rfl (by rw [C.2.2.2.1]; exact hls) rfl (Jvm.hb C.2.2.1 hd) hf (W := W) (by show 2 * 0 + _ ≤ _; omega) hl
end W2


/-! calls by a contract: no constant is interned (w = false) -/
section P
variable {l : Launch} {Z : State} {n0 : Nat} {own nm : String} {code : ByteArray} {ml : Nat} {ret : Option FieldType} {R : Room} {Q : Option Value → Heap → List Addr → Prop} {D : List Addr} {h : Heap} {kc ks pc pc' : Nat} {ls : Array Slot} {st rest : List Value} {a0 : Array Value}
theorem ch0 {vm : Vm} {h : Heap} : CHv Z [] vm h := fun p hp => by cases hp
theorem safe0 {vm : Vm} {h : Heap} {x : Addr} : Safe Z [] vm h x := fun ⟨p, hp, _⟩ => by cases hp
theorem chr0 {vm vm1 : Vm} {h h1 : Heap} (q : h.size ≤ h1.size) : CHr Z [] vm h vm1 h1 := ⟨ch0, q, fun _ ⟨p, hp, _⟩ => by cases hp⟩
theorem hid0 {s : State} {h : Heap} (q : s.heap.size ≤ h.size) (hD : ∀ x ∈ D, x < h.size) : Hid false Z [] D s s.vm h := ⟨rfl, ⟨#[], EW.nil⟩, chr0 q, fun x hx => ⟨hD x hx, safe0⟩⟩
/-- a callee's contract as what the call laws ask -/
theorem Con.back {p : Program} {e : Env} {s : State} {args : Array Value} {below : List Frame} {y : MethodName} {bytes : ByteArray} {maxL : Nat} {rt : Option FieldType} {rm : Room} {as' : Array Value} {Q' : Option Value → Heap → List Addr → Prop} {len W : Nat}
    (H : Con false l Z [] n0 y bytes maxL rt rm as' D h Q') (hO : Old Z n0 h) (hD : ∀ x ∈ D, x < h.size) (hZ : Z.Warmed39 s.vm) (wc : (Cond.code y bytes maxL rt).before a0 Z = true) (wz : (Cond.initialized y.cls).before a0 Z = true) (hf : rm.frames + 1 ≤ R.frames) (hl : W + (maxL + 11) + rm.locals ≤ R.locals) :
    Back l R p e below s args y len W (fun A a => a = as' ∧ A.U.heap = h ∧ A.cells + rm.cells ≤ R.cells ∧ A.slots + rm.slots ≤ R.slots)
      (fun A _ v B => ∃ L D', Q' v B.U.heap D' ∧ Old Z n0 B.U.heap ∧ Fr n0 L ∧ h.size ≤ B.U.heap.size ∧ (∀ x ∈ D', x < B.U.heap.size) ∧ B.locs = A.locs ++ L ∧ B.cells = A.cells + rm.cells ∧ B.slots = A.slots + rm.slots) :=
  Back.of_free (bytes := bytes) (maxL := maxL) (ret := rt) (E := fun _ first o t L k n => k = rm.cells ∧ n = rm.slots ∧ ∃ v D', o = .returned v ∧ Q' v t.heap D' ∧ Old Z n0 t.heap ∧ Fr n0 L ∧ first.heap.size ≤ t.heap.size ∧ ∀ x ∈ D', x < t.heap.size) (H []) hf hl
    (fun m meth c A a Y hp => have hU : Z.Warmed39 A.U.vm := wtrans hZ Y.warmed
      ⟨by show (Cond.and _ .tt).before a A.U = true; rw [Cond.before_and, mv hU wc]; rfl, mv hU wc, mv hU wz, hp.2.2.1, hp.2.2.2⟩)
    (fun m meth c A a g mk Y hp => ⟨hp.1, wtrans hZ Y.warmed, hp.2.1, hO, ⟨#[], EW.nil⟩, ch0, fun x hx => ⟨hD x hx, safe0⟩⟩) (fun _ _ _ _ _ _ _ _ _ => trivial)
    (fun _ _ _ _ ⟨v, L, D', h1, h2, h3, h4, h5, h6⟩ => ⟨L, _, _, h6, rfl, rfl, v, D', h1, h2, h3, h4, h5.1.2.1, fun x hx => (h5.2 x hx).1⟩)
    (fun m meth c A a g mk v t L k n Y hp _ _ ⟨e1, e2, v', D', e3, e4, e5, e6, e7, e8⟩ => by
      cases e3; subst e1 e2
      exact ⟨L, D', e4, e5, e6, by rw [← hp.2.1]; exact e7, e8, rfl, rfl, rfl⟩)
/-- the walk goes on behind a call -/
theorem goOn {p : Program} {e : Env} {s : State} {m : MethodId} {args : Array Value} {below : List Frame} {meth : Method} {c : Code} {T : State} {locs : List Loc} {Q' : Option Value → Heap → List Addr → Prop} {kc' ks' : Nat}
    (K : ∀ v h' D', Q' v h' D' → h.size ≤ h'.size → Runs false l Z [] n0 own nm code ml ret R Q (D' ++ D) h' kc' ks' pc' ls (v.toList ++ rest))
    (C : Ctx p s m meth c Z own nm code ml ret) (hs : s.heap.size ≤ h.size) (hD : ∀ x ∈ D, x < h.size) (N : Fr n0 locs) {v : Option Value} {B : Pt} (X : Stand p l e R s m args below meth c B.U B.locs B.cells B.slots)
    (P : ∃ L D', Q' v B.U.heap D' ∧ Old Z n0 B.U.heap ∧ Fr n0 L ∧ h.size ≤ B.U.heap.size ∧ (∀ x ∈ D', x < B.U.heap.size) ∧ B.locs = locs ++ L ∧ B.cells = kc' ∧ B.slots = ks')
    (S : ∀ target, Steps p.tables e below (B.U.setTop (mkF m pc' ls (v.toList ++ rest))) target → Steps p.tables e below (T.setTop (mkF m pc ls st)) target) :
    ∃ s₂ o, Steps p.tables e below (T.setTop (mkF m pc ls st)) s₂ ∧ s₂.status = .running ∧ Ended s₂ below o ∧ Done false Z [] n0 R Q s o s₂ := by
  obtain ⟨L, D', h1, h2, h3, h4, h5, h6, h7, h8⟩ := P
  obtain ⟨U, Ls, kk, nn⟩ := B
  dsimp only [Pt.U, Pt.locs, Pt.cells, Pt.slots] at *
  subst h6 h7 h8
  obtain ⟨s₂, o, S₂, r⟩ := K v U.heap D' h1 h4 p e s s.vm m args below meth c U _ C X rfl (N.app h3) h2 (hid0 (Nat.le_trans hs h4) (fun x hx => (List.mem_append.mp hx).elim (h5 x) (fun q => Nat.lt_of_lt_of_le (hD x q) h4)))
  exact ⟨s₂, o, S _ S₂, r⟩
theorem Runs.callS {y : MethodName} {index : Nat} {bytes : ByteArray} {maxL : Nat} {rt : Option FieldType} {rm : Room} {argsL : List Value} {Q' : Option Value → Heap → List Addr → Prop} {W : Nat} {ps : List FieldType} {rr : Option FieldType}
    (hd : Ins code pc (.invokestatic index) 3 pc') (w1 : (Cond.methodLink own index y).before a0 Z = true) (w2 : (Cond.static y).before a0 Z = true) (w3 : (Cond.initialized y.cls).before a0 Z = true) (w4 : (Cond.code y bytes maxL rt).before a0 Z = true) (hy : y.cls ≠ "java/lang/invoke/MethodHandle" ∧ y.cls ≠ "java/lang/invoke/VarHandle")
    (pd : parseMethodDescriptor y.desc = some ⟨ps, rr⟩) (hn : argsL.length = ps.length) (hls : ls.size = ml) (hst : st = argsL.reverse ++ rest) (hW : (rest.map fun v => v.category).sum = W) (hf : rm.frames + 1 ≤ R.frames) (hl : W + (maxL + 11) + rm.locals ≤ R.locals) (hc : kc + rm.cells ≤ R.cells) (hs : ks + rm.slots ≤ R.slots)
    {D0 : List Addr} (hD0 : ∀ x ∈ D0, x ∈ D) (H : Con false l Z [] n0 y bytes maxL rt rm argsL.toArray D0 h Q')
    (K : ∀ v h' D', Q' v h' D' → h.size ≤ h'.size → Runs false l Z [] n0 own nm code ml ret R Q (D' ++ D) h' (kc + rm.cells) (ks + rm.slots) pc' ls (v.toList ++ rest)) : Runs false l Z [] n0 own nm code ml ret R Q D h kc ks pc ls st := by
  obtain ⟨hd, rfl⟩ := hd
  intro p e s vm0 m args below meth c T locs C X eT N O Hd
  obtain ⟨e1, -, H3, H4⟩ := Hd
  have e1 : vm0 = s.vm := e1
  subst e1
  have hD : ∀ x ∈ D, x < h.size := fun x hx => (H4 x hx).1
  have C' : Ctx p s m meth c Z own nm code ml ret := C
  have X' : Stand p l e R s m args below meth c T locs kc ks := X
  obtain ⟨v, vm₁, B, -, XB, P, S⟩ := Jvm.LawKit.callS X' C'.1 (y := y) C'.2.2.2.2.1 (mvT C'.2.1 w1) (mvT C'.2.1 w2) (mvT C'.2.1 w3) (mvT C'.2.1 w4) hy (H.back (W := W) O (fun x hx => hD x (hD0 x hx)) C'.2.1 w4 w3 hf hl) (g := mkF m pc ls st) rfl (by rw [C'.2.2.2.1]; exact hls) (argsL := argsL) (rest := rest) (lenOf pd hn) hst (by show 2 * 0 + _ ≤ _; omega) (Jvm.hb C'.2.2.1 hd) (fun _ _ => ⟨rfl, eT, hc, hs⟩)
  exact goOn K C' H3.2.1 hD N XB P S
theorem Runs.callV {y z : MethodName} {index : Nat} {CC : String} {bytes : ByteArray} {maxL : Nat} {rt : Option FieldType} {rm : Room} {b : Addr} {argsL : List Value} {Q' : Option Value → Heap → List Addr → Prop} {W : Nat} {ps : List FieldType} {rr : Option FieldType}
    (hd : Ins code pc (.invokevirtual index) 3 pc') (w1 : (Cond.methodLink own index y).before a0 Z = true) (w2 : (Cond.declares y).before a0 Z = true) (nf : ∀ s : State, Z.Warmed39 s.vm → NotFace s y) (w3 : (Cond.selects CC y z).before a0 Z = true) (w4 : (Cond.instanceMethod z).before a0 Z = true) (w5 : (Cond.code z bytes maxL rt).before a0 Z = true) (w6 : (Cond.initialized z.cls).before a0 Z = true) (hy : y.cls ≠ "java/lang/invoke/MethodHandle" ∧ y.cls ≠ "java/lang/invoke/VarHandle")
    (E : Exa Z h b CC) (pd : parseMethodDescriptor y.desc = some ⟨ps, rr⟩) (hn : argsL.length = ps.length) (hls : ls.size = ml) (hst : st = argsL.reverse ++ .ref b :: rest) (hW : (rest.map fun v => v.category).sum = W) (hf : rm.frames + 1 ≤ R.frames) (hl : W + (maxL + 11) + rm.locals ≤ R.locals) (hc : kc + rm.cells ≤ R.cells) (hs : ks + rm.slots ≤ R.slots)
    {D0 : List Addr} (hD0 : ∀ x ∈ D0, x ∈ D) (H : Con false l Z [] n0 z bytes maxL rt rm (.ref b :: argsL).toArray D0 h Q')
    (K : ∀ v h' D', Q' v h' D' → h.size ≤ h'.size → Runs false l Z [] n0 own nm code ml ret R Q (D' ++ D) h' (kc + rm.cells) (ks + rm.slots) pc' ls (v.toList ++ rest)) : Runs false l Z [] n0 own nm code ml ret R Q D h kc ks pc ls st := by
  obtain ⟨hd, rfl⟩ := hd
  intro p e s vm0 m args below meth c T locs C X eT N O Hd
  obtain ⟨e1, -, H3, H4⟩ := Hd
  have e1 : vm0 = s.vm := e1
  subst e1
  have hD : ∀ x ∈ D, x < h.size := fun x hx => (H4 x hx).1
  have C' : Ctx p s m meth c Z own nm code ml ret := C
  have X' : Stand p l e R s m args below meth c T locs kc ks := X
  obtain ⟨cB, kB, q1, -, q3⟩ := isOf C'.2.1 eT E
  obtain ⟨v, vm₁, B, -, XB, P, S⟩ := X'.virtualBack C'.1 (y := y) (z := z) C'.2.2.2.2.1 (mvT C'.2.1 w1) (mvT C'.2.1 w2) (nf s C'.2.1) (mvT C'.2.1 w3) (mvT C'.2.1 w4) hy (H.back (W := W) O (fun x hx => hD x (hD0 x hx)) C'.2.1 w5 w6 hf hl) q1 q3 (g := mkF m pc ls st) rfl (by rw [C'.2.2.2.1]; exact hls) (Steps.refl _) (argsL := argsL) (rest := rest) (lenOf pd hn) hst (by show 2 * 0 + _ ≤ _; omega) (Jvm.hb C'.2.2.1 hd) (fun _ _ => ⟨rfl, eT, hc, hs⟩)
  exact goOn K C' H3.2.1 hD N XB P (fun t k => S.trans k)
theorem Runs.callC {y : MethodName} {index : Nat} {bytes : ByteArray} {maxL : Nat} {rm : Room} {b : Addr} {argsL : List Value} {Q' : Option Value → Heap → List Addr → Prop} {W : Nat} {ps : List FieldType} {rr : Option FieldType}
    (hd : Ins code pc (.invokespecial index) 3 pc') (hi : y.name = "<init>") (w1 : (Cond.methodLink own index y).before a0 Z = true) (w2 : (Cond.instanceMethod y).before a0 Z = true) (w3 : (Cond.code y bytes maxL none).before a0 Z = true) (w4 : (Cond.initialized y.cls).before a0 Z = true) (hy : y.cls ≠ "java/lang/invoke/MethodHandle" ∧ y.cls ≠ "java/lang/invoke/VarHandle")
    (pd : parseMethodDescriptor y.desc = some ⟨ps, rr⟩) (hn : argsL.length = ps.length) (hls : ls.size = ml) (hst : st = argsL.reverse ++ .ref b :: rest) (hW : (rest.map fun v => v.category).sum = W) (hf : rm.frames + 1 ≤ R.frames) (hl : W + (maxL + 11) + rm.locals ≤ R.locals) (hc : kc + rm.cells ≤ R.cells) (hs : ks + rm.slots ≤ R.slots)
    {D0 : List Addr} (hD0 : ∀ x ∈ D0, x ∈ D) (H : Con false l Z [] n0 y bytes maxL none rm (.ref b :: argsL).toArray D0 h Q')
    (K : ∀ v h' D', Q' v h' D' → h.size ≤ h'.size → Runs false l Z [] n0 own nm code ml ret R Q (D' ++ D) h' (kc + rm.cells) (ks + rm.slots) pc' ls (v.toList ++ rest)) : Runs false l Z [] n0 own nm code ml ret R Q D h kc ks pc ls st := by
  obtain ⟨hd, rfl⟩ := hd
  intro p e s vm0 m args below meth c T locs C X eT N O Hd
  obtain ⟨e1, -, H3, H4⟩ := Hd
  have e1 : vm0 = s.vm := e1
  subst e1
  have hD : ∀ x ∈ D, x < h.size := fun x hx => (H4 x hx).1
  have C' : Ctx p s m meth c Z own nm code ml ret := C
  have X' : Stand p l e R s m args below meth c T locs kc ks := X
  obtain ⟨v, vm₁, B, -, XB, P, S⟩ := X'.specialBack C'.1 (y := y) hi C'.2.2.2.2.1 (mvT C'.2.1 w1) (mvT C'.2.1 w2) (mvT C'.2.1 w3) hy (H.back (W := W) O (fun x hx => hD x (hD0 x hx)) C'.2.1 w3 w4 hf hl) (g := mkF m pc ls st) rfl (by rw [C'.2.2.2.1]; exact hls) (Steps.refl _) (a := b) (argsL := argsL) (rest := rest) (lenOf pd hn) hst (by show 2 * 0 + _ ≤ _; omega) (Jvm.hb C'.2.2.1 hd) (fun _ _ => ⟨rfl, eT, hc, hs⟩)
  exact goOn K C' H3.2.1 hD N XB P (fun t k => S.trans k)
end P


/-! the wide walk (w = true): constants of strings may come to be interned -/
section Wd
variable {l : Launch} {Z : State} {EL : List (String × Nat)} {n0 : Nat} {own nm : String} {code : ByteArray} {ml : Nat} {ret : Option FieldType} {R : Room} {Q : Option Value → Heap → List Addr → Prop} {D : List Addr} {h : Heap} {kc ks pc pc' : Nat} {ls : Array Slot} {st rest : List Value} {a0 : Array Value}
theorem Ctx.later {p : Program} {s : State} {vm0 vm1 : Vm} {n : Nat} {m : MethodId} {meth : Method} {c : Code} (C : Ctx p (s.setVm vm0) m meth c Z own nm code ml ret) (h1 : (s.setVm vm0).Since vm1 n) : Ctx p (s.setVm vm1) m meth c Z own nm code ml ret :=
  ⟨C.1, State.Warmed39.trans (t := s.setVm vm0) C.2.1 h1.1, C.2.2.1, C.2.2.2.1, by rw [show (s.setVm vm1).vm = vm1 from rfl, h1.1.alike.findClass]; exact C.2.2.2.2.1, C.2.2.2.2.2⟩
theorem Con.backW {p : Program} {e : Env} {s : State} {vm0 : Vm} {args : Array Value} {below : List Frame} {y : MethodName} {bytes : ByteArray} {maxL : Nat} {rt : Option FieldType} {rm : Room} {as' : Array Value} {D0 : List Addr} {Q' : Option Value → Heap → List Addr → Prop} {len W : Nat}
    (H : Con true l Z EL n0 y bytes maxL rt rm as' D0 h Q') (hO : Old Z n0 h) (hE : ∃ a0, EW Z a0 EL) (hC : CHv Z EL vm0 h) (hD : ∀ x ∈ D0, x < h.size ∧ Safe Z EL vm0 h x) (hZ : Z.Warmed39 vm0) (wc : (Cond.code y bytes maxL rt).before a0 Z = true) (wz : (Cond.initialized y.cls).before a0 Z = true) (hf : rm.frames + 1 ≤ R.frames) (hl : W + (maxL + 11) + rm.locals ≤ R.locals) :
    BackS l R p e below (s.setVm vm0) args y len W (fun A a => a = as' ∧ A.U.heap = h ∧ A.cells + rm.cells ≤ R.cells ∧ A.slots + rm.slots ≤ R.slots)
      (fun A _ v B => ∃ L D', Q' v B.U.heap D' ∧ Old Z n0 B.U.heap ∧ Fr n0 L ∧ CHr Z EL vm0 h B.U.vm B.U.heap ∧ (∀ x ∈ D', x < B.U.heap.size ∧ Safe Z EL B.U.vm B.U.heap x) ∧ B.locs = A.locs ++ L ∧ B.cells = A.cells + rm.cells ∧ B.slots = A.slots + rm.slots) := by
  obtain ⟨a1, hE1⟩ := id hE
  exact BackS.of_freeW (bytes := bytes) (maxL := maxL) (ret := rt) (E := fun _ first o t L k n => k = rm.cells ∧ n = rm.slots ∧ ∃ v D', o = .returned v ∧ Q' v t.heap D' ∧ Old Z n0 t.heap ∧ Fr n0 L ∧ CHr Z EL first.vm first.heap t.vm t.heap ∧ ∀ x ∈ D', x < t.heap.size ∧ Safe Z EL t.vm t.heap x) (H []) hf hl
    (fun m meth c A a Y hp => have hU : Z.Warmed39 A.U.vm := wtrans (s := s.setVm vm0) hZ Y.warmed
      ⟨by show (Cond.and _ .tt).before a A.U = true; rw [Cond.before_and, mv hU wc]; rfl, mv hU wc, mv hU wz, hp.2.2.1, hp.2.2.2⟩)
    (fun m meth c A a g mk Y hp => ⟨hp.1, wtrans (s := s.setVm vm0) hZ Y.warmed, hp.2.1, hO, hE, (CHv.at Y hZ hE1 hC).1, fun x hx => ⟨(hD x hx).1, (CHv.at Y hZ hE1 hC).safe (hD x hx).1 (hD x hx).2⟩⟩) (fun _ _ _ _ _ _ _ _ _ => trivial)
    (fun _ _ _ _ ⟨v, L, D', h1, h2, h3, h4, h5, h6⟩ => ⟨L, _, _, h6, rfl, rfl, v, D', h1, h2, h3, h4, h5.1, h5.2⟩)
    (fun m meth c A a g mk v t L k n Y hp _ _ ⟨e1, e2, v', D', e3, e4, e5, e6, e7, e8⟩ => by
      cases e3; subst e1 e2
      refine ⟨L, D', e4, e5, e6, (CHv.at Y hZ hE1 hC).trans ?_, e8, rfl, rfl, rfl⟩
      rw [← hp.2.1]; exact e7)
theorem goOnW {p : Program} {e : Env} {s : State} {vm0 : Vm} {m : MethodId} {args : Array Value} {below : List Frame} {meth : Method} {c : Code} {T : State} {locs : List Loc} {Q' : Option Value → Heap → List Addr → Prop} {kc' ks' : Nat}
    (K : ∀ v h' D', Q' v h' D' → h.size ≤ h'.size → Runs true l Z EL n0 own nm code ml ret R Q (D' ++ D) h' kc' ks' pc' ls (v.toList ++ rest))
    (C : Ctx p (s.setVm vm0) m meth c Z own nm code ml ret) (H : Hid true Z EL D s vm0 h) (N : Fr n0 locs) {v : Option Value} {B : Pt} (X : Stand p l e R ((s.setVm vm0).setVm B.U.vm) m args below meth c B.U B.locs B.cells B.slots)
    (hS : (s.setVm vm0).Since B.U.vm B.U.heap.size)
    (P : ∃ L D', Q' v B.U.heap D' ∧ Old Z n0 B.U.heap ∧ Fr n0 L ∧ CHr Z EL vm0 h B.U.vm B.U.heap ∧ (∀ x ∈ D', x < B.U.heap.size ∧ Safe Z EL B.U.vm B.U.heap x) ∧ B.locs = locs ++ L ∧ B.cells = kc' ∧ B.slots = ks')
    (S : Steps p.tables e below (T.setTop (mkF m pc ls st)) (B.U.setTop (mkF m pc' ls (v.toList ++ rest)))) :
    ∃ s₂ o, Steps p.tables e below (T.setTop (mkF m pc ls st)) s₂ ∧ s₂.status = .running ∧ Ended s₂ below o ∧ Done true Z EL n0 R Q s o s₂ := by
  obtain ⟨L, D', h1, h2, h3, h4, h5, h6, h7, h8⟩ := P
  obtain ⟨U, Ls, kk, nn⟩ := B
  dsimp only [Pt.U, Pt.locs, Pt.cells, Pt.slots] at *
  subst h6 h7 h8
  obtain ⟨H1, H2, H3, H4⟩ := H
  obtain ⟨k0, g1, g2⟩ : ∃ k0, s.Since vm0 k0 ∧ k0 ≤ h.size := H1
  have hsz : h.size ≤ U.heap.size := h4.2.1
  have C1 : Ctx p (s.setVm U.vm) m meth c Z own nm code ml ret := C.later hS
  have X1 : Stand p l e R (s.setVm U.vm) m args below meth c U (locs ++ L) kk nn := X
  have HN : Hid true Z EL (D' ++ D) s U.vm U.heap := ⟨⟨U.heap.size, g1.trans hS (Nat.le_trans g2 hsz), Nat.le_refl _⟩, H2, H3.trans h4, fun x hx => by
    rcases List.mem_append.mp hx with q | q
    · exact h5 x q
    · exact ⟨Nat.lt_of_lt_of_le (H4 x q).1 hsz, h4.safe (H4 x q).1 (H4 x q).2⟩⟩
  obtain ⟨s₂, o, S₂, r⟩ := K v U.heap D' h1 hsz p e s U.vm m args below meth c U _ C1 X1 rfl (N.app h3) h2 HN
  exact ⟨s₂, o, S.trans S₂, r⟩
theorem Runs.callSW {y : MethodName} {index : Nat} {bytes : ByteArray} {maxL : Nat} {rt : Option FieldType} {rm : Room} {argsL : List Value} {Q' : Option Value → Heap → List Addr → Prop} {W : Nat} {ps : List FieldType} {rr : Option FieldType}
    (hd : Ins code pc (.invokestatic index) 3 pc') (w1 : (Cond.methodLink own index y).before a0 Z = true) (w2 : (Cond.static y).before a0 Z = true) (w3 : (Cond.initialized y.cls).before a0 Z = true) (w4 : (Cond.code y bytes maxL rt).before a0 Z = true) (hy : y.cls ≠ "java/lang/invoke/MethodHandle" ∧ y.cls ≠ "java/lang/invoke/VarHandle")
    (pd : parseMethodDescriptor y.desc = some ⟨ps, rr⟩) (hn : argsL.length = ps.length) (hls : ls.size = ml) (hst : st = argsL.reverse ++ rest) (hW : (rest.map fun v => v.category).sum = W) (hf : rm.frames + 1 ≤ R.frames) (hl : W + (maxL + 11) + rm.locals ≤ R.locals) (hc : kc + rm.cells ≤ R.cells) (hs : ks + rm.slots ≤ R.slots)
    {D0 : List Addr} (hD0 : ∀ x ∈ D0, x ∈ D) (H : Con true l Z EL n0 y bytes maxL rt rm argsL.toArray D0 h Q')
    (K : ∀ v h' D', Q' v h' D' → h.size ≤ h'.size → Runs true l Z EL n0 own nm code ml ret R Q (D' ++ D) h' (kc + rm.cells) (ks + rm.slots) pc' ls (v.toList ++ rest)) : Runs true l Z EL n0 own nm code ml ret R Q D h kc ks pc ls st := by
  obtain ⟨hd, rfl⟩ := hd
  intro p e s vm0 m args below meth c T locs C X eT N O Hd
  obtain ⟨v, vm₁, B, -, XB, hS, -, P, S⟩ := callSS X C.1 (y := y) C.2.2.2.2.1 (mvT C.2.1 w1) (mvT C.2.1 w2) (mvT C.2.1 w3) (mvT C.2.1 w4) hy (H.backW (W := W) O Hd.2.1 Hd.2.2.1.1 (fun x hx => Hd.2.2.2 x (hD0 x hx)) C.2.1 w4 w3 hf hl) (g := mkF m pc ls st) rfl (by rw [C.2.2.2.1]; exact hls) (argsL := argsL) (rest := rest) (lenOf pd hn) hst (by show 2 * 0 + _ ≤ _; omega) (Jvm.hb C.2.2.1 hd) (fun _ _ => ⟨rfl, eT, hc, hs⟩)
  exact goOnW K C Hd N XB hS P S
theorem Runs.callVW {y z : MethodName} {index : Nat} {CC : String} {bytes : ByteArray} {maxL : Nat} {rt : Option FieldType} {rm : Room} {b : Addr} {argsL : List Value} {Q' : Option Value → Heap → List Addr → Prop} {W : Nat} {ps : List FieldType} {rr : Option FieldType}
    (hd : Ins code pc (.invokevirtual index) 3 pc') (w1 : (Cond.methodLink own index y).before a0 Z = true) (w2 : (Cond.declares y).before a0 Z = true) (nf : ∀ s : State, Z.Warmed39 s.vm → NotFace s y) (w3 : (Cond.selects CC y z).before a0 Z = true) (w4 : (Cond.instanceMethod z).before a0 Z = true) (w5 : (Cond.code z bytes maxL rt).before a0 Z = true) (w6 : (Cond.initialized z.cls).before a0 Z = true) (hy : y.cls ≠ "java/lang/invoke/MethodHandle" ∧ y.cls ≠ "java/lang/invoke/VarHandle")
    (E : Exa Z h b CC) (pd : parseMethodDescriptor y.desc = some ⟨ps, rr⟩) (hn : argsL.length = ps.length) (hls : ls.size = ml) (hst : st = argsL.reverse ++ .ref b :: rest) (hW : (rest.map fun v => v.category).sum = W) (hf : rm.frames + 1 ≤ R.frames) (hl : W + (maxL + 11) + rm.locals ≤ R.locals) (hc : kc + rm.cells ≤ R.cells) (hs : ks + rm.slots ≤ R.slots)
    {D0 : List Addr} (hD0 : ∀ x ∈ D0, x ∈ D) (H : Con true l Z EL n0 z bytes maxL rt rm (.ref b :: argsL).toArray D0 h Q')
    (K : ∀ v h' D', Q' v h' D' → h.size ≤ h'.size → Runs true l Z EL n0 own nm code ml ret R Q (D' ++ D) h' (kc + rm.cells) (ks + rm.slots) pc' ls (v.toList ++ rest)) : Runs true l Z EL n0 own nm code ml ret R Q D h kc ks pc ls st := by
  obtain ⟨hd, rfl⟩ := hd
  intro p e s vm0 m args below meth c T locs C X eT N O Hd
  obtain ⟨cB, kB, q1, -, q3⟩ := isOf C.2.1 eT E
  obtain ⟨v, vm₁, B, -, XB, hS, -, P, S⟩ := X.virtualBackS C.1 (y := y) (z := z) C.2.2.2.2.1 (mvT C.2.1 w1) (mvT C.2.1 w2) (nf _ C.2.1) (mvT C.2.1 w3) (mvT C.2.1 w4) hy (H.backW (W := W) O Hd.2.1 Hd.2.2.1.1 (fun x hx => Hd.2.2.2 x (hD0 x hx)) C.2.1 w5 w6 hf hl) q1 q3 (g := mkF m pc ls st) rfl (by rw [C.2.2.2.1]; exact hls) (Steps.refl _) (argsL := argsL) (rest := rest) (lenOf pd hn) hst (by show 2 * 0 + _ ≤ _; omega) (Jvm.hb C.2.2.1 hd) (fun _ _ => ⟨rfl, eT, hc, hs⟩)
  exact goOnW K C Hd N XB hS P S
theorem Runs.callCW {y : MethodName} {index : Nat} {bytes : ByteArray} {maxL : Nat} {rm : Room} {b : Addr} {argsL : List Value} {Q' : Option Value → Heap → List Addr → Prop} {W : Nat} {ps : List FieldType} {rr : Option FieldType}
    (hd : Ins code pc (.invokespecial index) 3 pc') (hi : y.name = "<init>") (w1 : (Cond.methodLink own index y).before a0 Z = true) (w2 : (Cond.instanceMethod y).before a0 Z = true) (w3 : (Cond.code y bytes maxL none).before a0 Z = true) (w4 : (Cond.initialized y.cls).before a0 Z = true) (hy : y.cls ≠ "java/lang/invoke/MethodHandle" ∧ y.cls ≠ "java/lang/invoke/VarHandle")
    (pd : parseMethodDescriptor y.desc = some ⟨ps, rr⟩) (hn : argsL.length = ps.length) (hls : ls.size = ml) (hst : st = argsL.reverse ++ .ref b :: rest) (hW : (rest.map fun v => v.category).sum = W) (hf : rm.frames + 1 ≤ R.frames) (hl : W + (maxL + 11) + rm.locals ≤ R.locals) (hc : kc + rm.cells ≤ R.cells) (hs : ks + rm.slots ≤ R.slots)
    {D0 : List Addr} (hD0 : ∀ x ∈ D0, x ∈ D) (H : Con true l Z EL n0 y bytes maxL none rm (.ref b :: argsL).toArray D0 h Q')
    (K : ∀ v h' D', Q' v h' D' → h.size ≤ h'.size → Runs true l Z EL n0 own nm code ml ret R Q (D' ++ D) h' (kc + rm.cells) (ks + rm.slots) pc' ls (v.toList ++ rest)) : Runs true l Z EL n0 own nm code ml ret R Q D h kc ks pc ls st := by
  obtain ⟨hd, rfl⟩ := hd
  intro p e s vm0 m args below meth c T locs C X eT N O Hd
  obtain ⟨v, vm₁, B, -, XB, hS, -, P, S⟩ := X.specialBackS C.1 (y := y) hi C.2.2.2.2.1 (mvT C.2.1 w1) (mvT C.2.1 w2) (mvT C.2.1 w3) hy (H.backW (W := W) O Hd.2.1 Hd.2.2.1.1 (fun x hx => Hd.2.2.2 x (hD0 x hx)) C.2.1 w3 w4 hf hl) (g := mkF m pc ls st) rfl (by rw [C.2.2.2.1]; exact hls) (Steps.refl _) (a := b) (argsL := argsL) (rest := rest) (lenOf pd hn) hst (by show 2 * 0 + _ ≤ _; omega) (Jvm.hb C.2.2.1 hd) (fun _ _ => ⟨rfl, eT, hc, hs⟩)
  exact goOnW K C Hd N XB hS P S
/-- ldc of a String constant: a String, no more is said -/
theorem Runs.ldcS {text : String} {index n : Nat} (hd : Ins code pc (.ldc index) 2 pc') (wl : (Cond.stringLink own index text).before a0 Z = true) (wS : ∀ a ∈ Bundle.stringAtoms, a.before a0 Z = true) (hEL : EW Z a0 EL) (hn : 4 * text.toList.length ≤ n) (hbig : n ≤ 536870912) (hc : kc + 2 ≤ R.cells) (hl : ks + (n + 4) ≤ R.slots)
    (K : ∀ h' a, Keep h h' [] → Runs true l Z EL n0 own nm code ml ret R Q D h' (kc + 2) (ks + (n + 4)) pc' ls (.ref a :: st)) : Runs true l Z EL n0 own nm code ml ret R Q D h kc ks pc ls st := by
  obtain ⟨hd, rfl⟩ := hd
  intro p e s vm0 m args below meth c T locs C X eT N O Hd
  obtain ⟨H1, H2, H3, H4⟩ := Hd
  obtain ⟨k0, g1, g2⟩ : ∃ k0, s.Since vm0 k0 ∧ k0 ≤ h.size := H1
  obtain ⟨a, T', h', k1, X', e', E', S1, hk1, W1, F1, C1, -, st1⟩ := ldcOH X C.1 C.2.1 C.2.2.2.2.1 wl wS eT g1 g2 hEL H3.1 (g := mkF m pc ls st) rfl (Jvm.hb C.2.2.1 hd) hn hbig hc hl
  subst e'
  obtain ⟨s₂, o, S, r⟩ := K _ a (keepE E') p e s T'.vm m args below meth c T' locs ⟨C.1, W1, C.2.2.1, C.2.2.2.1, F1, C.2.2.2.2.2⟩ X' rfl N (O.ext E') ⟨⟨k1, S1, hk1⟩, H2, H3.trans C1, fun x hx => ⟨Nat.lt_of_lt_of_le (H4 x hx).1 E'.1, C1.safe (H4 x hx).1 (H4 x hx).2⟩⟩
  exact ⟨s₂, o, st1 _ S, r⟩
/-- ldc of a String constant that is held: its text -/
theorem Runs.ldcT {text : String} {index n : Nat} {vs : List Value} {z : Int32} (hd : Ins code pc (.ldc index) 2 pc') (wl : (Cond.stringLink own index text).before a0 Z = true) (wS : ∀ a ∈ Bundle.stringAtoms, a.before a0 Z = true) (hEL : EW Z a0 EL) (hmem : (own, index) ∈ EL)
    (ht : (∀ c ∈ text.toList, c.toNat < 256) ∧ text.toList.map (fun c => Value.int (Jvm.Lit.byteI c.toNat.toUInt16)) = vs) (hz : ¬ z < 0) (hzl : z.toNatClampNeg = vs.length) (hn : 4 * text.toList.length ≤ n) (hbig : n ≤ 536870912) (hc : kc + 2 ≤ R.cells) (hl : ks + (n + 4) ≤ R.slots)
    (K : ∀ h' a b k, Keep h h' [] → Obj Z h' a "java/lang/String" [("java/lang/String", "value", "[B", .ref b), ("java/lang/String", "coder", "B", .int 0)] → Arv Z h' b k .byte z vs (.int 0) → (∀ x ∈ D, x ≠ a ∧ x ≠ b) → Runs true l Z EL n0 own nm code ml ret R Q D h' (kc + 2) (ks + (n + 4)) pc' ls (.ref a :: st)) : Runs true l Z EL n0 own nm code ml ret R Q D h kc ks pc ls st := by
  obtain ⟨hd, rfl⟩ := hd
  intro p e s vm0 m args below meth c T locs C X eT N O Hd
  obtain ⟨H1, H2, H3, H4⟩ := Hd
  obtain ⟨k0, g1, g2⟩ : ∃ k0, s.Since vm0 k0 ∧ k0 ≤ h.size := H1
  obtain ⟨a, T', h', k1, b, k, X', e', E', S1, hk1, W1, F1, x1, x2, x3, x4, -, -, C1, -, D1, st1⟩ := ldcCH X C.1 C.2.1 C.2.2.2.2.1 wl wS eT g1 g2 hEL hmem H3.1 ht hz hzl (g := mkF m pc ls st) rfl (Jvm.hb C.2.2.1 hd) hn hbig hc hl
  subst e'
  have hD : ∀ x ∈ D, x < T'.heap.size ∧ Safe Z EL T'.vm T'.heap x := fun x hx => ⟨Nat.lt_of_lt_of_le (H4 x hx).1 E'.1, C1.safe (H4 x hx).1 (H4 x hx).2⟩
  obtain ⟨s₂, o, S, r⟩ := K _ a b k (keepE E') ⟨x1, fun f hf => by simp only [List.mem_cons, List.not_mem_nil, or_false] at hf; rcases hf with rfl | rfl; exact x3; exact x2⟩ x4 (fun x hx => D1 x (hD x hx).2) p e s T'.vm m args below meth c T' locs ⟨C.1, W1, C.2.2.1, C.2.2.2.1, F1, C.2.2.2.2.2⟩ X' rfl N (O.ext E') ⟨⟨k1, S1, hk1⟩, H2, H3.trans C1, hD⟩
  exact ⟨s₂, o, st1 _ S, r⟩
end Wd


section W3
variable {w : Bool} {l : Launch} {Z : State} {EL : List (String × Nat)} {n0 : Nat} {own nm : String} {code : ByteArray} {ml : Nat} {ret : Option FieldType} {R : Room} {Q : Option Value → Heap → List Addr → Prop} {D : List Addr} {h h' : Heap} {kc ks pc pc' : Nat} {ls ls' : Array Slot} {st st' rest : List Value} {a0 : Array Value}
theorem Runs.instY {K : String} {index : Nat} {a : Addr} (hd : Ins code pc (.instanceof index) 3 pc') (wl : (Cond.classLink own index K).before a0 Z = true) (F : RoadKit.Ins Z h a K true) (k : Runs w l Z EL n0 own nm code ml ret R Q D h kc ks pc' ls (.int 1 :: rest)) : Runs w l Z EL n0 own nm code ml ret R Q D h kc ks pc ls (.ref a :: rest) := by
  obtain ⟨hd, rfl⟩ := hd
  exact k.warm fun p e s m args below meth c T locs C X eT O => RoadKit.instY X C.1 C.2.1 C.2.2.2.2.1 wl eT F (g := mkF m pc ls (.ref a :: rest)) rfl rfl (Jvm.hb C.2.2.1 hd)
theorem Runs.instN {K CC : String} {index : Nat} {a : Addr} (hd : Ins code pc (.instanceof index) 3 pc') (wl : (Cond.classLink own index K).before a0 Z = true) (E : Exa Z h a CC) (F : ∃ c t, Z.vm.findClass CC = some c ∧ Z.vm.findClass K = some t ∧ Z.vm.assignable c t = false) (k : Runs w l Z EL n0 own nm code ml ret R Q D h kc ks pc' ls (.int 0 :: rest)) : Runs w l Z EL n0 own nm code ml ret R Q D h kc ks pc ls (.ref a :: rest) := by
  obtain ⟨hd, rfl⟩ := hd
  exact k.warm fun p e s m args below meth c T locs C X eT O => RoadKit.instNo X C.1 C.2.1 C.2.2.2.2.1 wl eT E F (g := mkF m pc ls (.ref a :: rest)) rfl rfl (Jvm.hb C.2.2.1 hd)
theorem Runs.inst0 {index : Nat} (hd : Ins code pc (.instanceof index) 3 pc') (k : Runs w l Z EL n0 own nm code ml ret R Q D h kc ks pc' ls (.int 0 :: rest)) : Runs w l Z EL n0 own nm code ml ret R Q D h kc ks pc ls (.null :: rest) := by
  obtain ⟨hd, rfl⟩ := hd
  exact k.warm fun p e s m args below meth c T locs C X eT O => ⟨T, X, eT, fun t S => X.instanceofNull C.1 (g := mkF m pc ls (.null :: rest)) rfl rfl (Jvm.hb C.2.2.1 hd) t S⟩
theorem Runs.castY {K : String} {index : Nat} {a : Addr} (hd : Ins code pc (.checkcast index) 3 pc') (wl : (Cond.classLink own index K).before a0 Z = true) (F : RoadKit.Ins Z h a K true) (k : Runs w l Z EL n0 own nm code ml ret R Q D h kc ks pc' ls (.ref a :: rest)) : Runs w l Z EL n0 own nm code ml ret R Q D h kc ks pc ls (.ref a :: rest) := by
  obtain ⟨hd, rfl⟩ := hd
  exact k.warm fun p e s m args below meth c T locs C X eT O => RoadKit.castY X C.1 C.2.1 C.2.2.2.2.1 wl eT F (g := mkF m pc ls (.ref a :: rest)) rfl rfl (Jvm.hb C.2.2.1 hd)
/-- C is no K: C's superclass has none, and neither of them is K, which is a class that can be made -/
theorem notInst {C S K : String} {n : Nat} (wC : (Cond.superclass C S).before a0 Z = true) (wS : (Cond.noSuperclass S).before a0 Z = true) (wK : (Cond.instantiable K n).before a0 Z = true) (h1 : C ≠ K) (h2 : S ≠ K) : ∃ c t, Z.vm.findClass C = some c ∧ Z.vm.findClass K = some t ∧ Z.vm.assignable c t = false := by
  obtain ⟨cs, k0, f1, f2, f3, -, -⟩ := Cond.noSuperclass_spec wS
  obtain ⟨t, kt, g1, g2, g3, g4, -⟩ := Cond.instantiable_spec wK
  obtain ⟨c, h0⟩ := found_sup wC
  obtain ⟨p, k, kp, e1, e2, e3, e4, e5, -, e7⟩ := Cond.superclass_spec h0 wC
  cases f1.symm.trans e1
  have ne := ids_ne h0 g1 h1
  have ne2 := ids_ne f1 g1 h2
  have gi : kt.isInterface = false := by simp only [Bool.or_eq_false_iff] at g4; exact g4.1
  have key : ∀ fuel, Z.vm.isSubclassAux fuel c t = false := fun fuel => by
    cases fuel with
    | zero => rfl
    | succ f =>
      cases f with
      | zero => simp [Vm.isSubclassAux, ne, e2, e4]
      | succ f => simp [Vm.isSubclassAux, ne, e2, e4, ne2, f2, f3]
  refine ⟨c, t, h0, g1, ?_⟩
  show Z.vm.assignableAux (255 + 1) c t = false
  simp [Vm.assignableAux, ne, e2, g2, e5, g3, gi, Vm.isSubclass, key]
end W3

end Jvm.OwnW
namespace Jvm.Pilot.@@N@@
open Jvm Jvm.ClassFile Sem Op Lib Jvm.Free Jvm.Stand Jvm.LawKit Jvm.RoadKit Bundle Jvm.OwnW Jvm.Pilot.@@N@@.Jvm.D
abbrev Wds (Z : State) (a0 : Array Value) : Prop := ∀ d ∈ tables_1, d.before a0 Z = true
theorem w0 {Z : State} {a0 : Array Value} (hw : Wds Z a0) : (Jvm.Cond.classLink "com/example/collateral_debt_model/collateraldebtmodel/NamePairEqualsPinLaw" (12 : Nat) "com/example/collateral_debt_model/collateraldebtmodel/NamePair").before a0 Z = true := hw _ (List.mem_of_getElem? (i := 0) rfl)
theorem w1 {Z : State} {a0 : Array Value} (hw : Wds Z a0) : (Jvm.Cond.instantiable "com/example/collateral_debt_model/collateraldebtmodel/NamePair" (2 : Nat)).before a0 Z = true := hw _ (List.mem_of_getElem? (i := 1) rfl)
theorem w2 {Z : State} {a0 : Array Value} (hw : Wds Z a0) : (Jvm.Cond.initialized "com/example/collateral_debt_model/collateraldebtmodel/NamePair").before a0 Z = true := hw _ (List.mem_of_getElem? (i := 2) rfl)
theorem w3 {Z : State} {a0 : Array Value} (hw : Wds Z a0) : (Jvm.Cond.methodLink "com/example/collateral_debt_model/collateraldebtmodel/NamePairEqualsPinLaw" (14 : Nat) ({ cls := "com/example/collateral_debt_model/collateraldebtmodel/NamePairEqualsPinLaw", name := "mk", desc := "(I)Ljava/lang/String;" } : Jvm.MethodName)).before a0 Z = true := hw _ (List.mem_of_getElem? (i := 3) rfl)
theorem w4 {Z : State} {a0 : Array Value} (hw : Wds Z a0) : (Jvm.Cond.static ({ cls := "com/example/collateral_debt_model/collateraldebtmodel/NamePairEqualsPinLaw", name := "mk", desc := "(I)Ljava/lang/String;" } : Jvm.MethodName)).before a0 Z = true := hw _ (List.mem_of_getElem? (i := 4) rfl)
theorem w5 {Z : State} {a0 : Array Value} (hw : Wds Z a0) : (Jvm.Cond.initialized "com/example/collateral_debt_model/collateraldebtmodel/NamePairEqualsPinLaw").before a0 Z = true := hw _ (List.mem_of_getElem? (i := 5) rfl)
theorem w6 {Z : State} {a0 : Array Value} (hw : Wds Z a0) : (Jvm.Cond.code ({ cls := "com/example/collateral_debt_model/collateraldebtmodel/NamePairEqualsPinLaw", name := "mk", desc := "(I)Ljava/lang/String;" } : Jvm.MethodName) method_2_code (5 : Nat) (Option.some (Jvm.ClassFile.FieldType.object "java/lang/String"))).before a0 Z = true := hw _ (List.mem_of_getElem? (i := 6) rfl)
theorem w7 {Z : State} {a0 : Array Value} (hw : Wds Z a0) : (Jvm.Cond.classLink "com/example/collateral_debt_model/collateraldebtmodel/NamePairEqualsPinLaw" (7 : Nat) "java/lang/String").before a0 Z = true := hw _ (List.mem_of_getElem? (i := 7) rfl)
theorem w8 {Z : State} {a0 : Array Value} (hw : Wds Z a0) : (Jvm.Cond.instantiable "java/lang/String" (4 : Nat)).before a0 Z = true := hw _ (List.mem_of_getElem? (i := 8) rfl)
theorem w9 {Z : State} {a0 : Array Value} (hw : Wds Z a0) : (Jvm.Cond.initialized "java/lang/String").before a0 Z = true := hw _ (List.mem_of_getElem? (i := 9) rfl)
theorem w10 {Z : State} {a0 : Array Value} (hw : Wds Z a0) : (Jvm.Cond.arrayClass Jvm.ClassFile.FieldType.char).before a0 Z = true := hw _ (List.mem_of_getElem? (i := 10) rfl)
theorem w11 {Z : State} {a0 : Array Value} (hw : Wds Z a0) : (Jvm.Cond.methodLink "com/example/collateral_debt_model/collateraldebtmodel/NamePairEqualsPinLaw" (9 : Nat) ({ cls := "java/lang/String", name := "<init>", desc := "([C)V" } : Jvm.MethodName)).before a0 Z = true := hw _ (List.mem_of_getElem? (i := 11) rfl)
theorem w12 {Z : State} {a0 : Array Value} (hw : Wds Z a0) : (Jvm.Cond.instanceMethod ({ cls := "java/lang/String", name := "<init>", desc := "([C)V" } : Jvm.MethodName)).before a0 Z = true := hw _ (List.mem_of_getElem? (i := 12) rfl)
theorem w13 {Z : State} {a0 : Array Value} (hw : Wds Z a0) : (Jvm.Cond.code ({ cls := "java/lang/String", name := "<init>", desc := "([C)V" } : Jvm.MethodName) jdk_42_method_3_code (2 : Nat) (Option.none : Option Jvm.ClassFile.FieldType)).before a0 Z = true := hw _ (List.mem_of_getElem? (i := 13) rfl)
theorem w14 {Z : State} {a0 : Array Value} (hw : Wds Z a0) : (Jvm.Cond.methodLink "java/lang/String" (27 : Nat) ({ cls := "java/lang/String", name := "<init>", desc := "([CIILjava/lang/Void;)V" } : Jvm.MethodName)).before a0 Z = true := hw _ (List.mem_of_getElem? (i := 14) rfl)
theorem w15 {Z : State} {a0 : Array Value} (hw : Wds Z a0) : (Jvm.Cond.instanceMethod ({ cls := "java/lang/String", name := "<init>", desc := "([CIILjava/lang/Void;)V" } : Jvm.MethodName)).before a0 Z = true := hw _ (List.mem_of_getElem? (i := 15) rfl)
theorem w17 {Z : State} {a0 : Array Value} (hw : Wds Z a0) : (Jvm.Cond.code ({ cls := "java/lang/String", name := "<init>", desc := "([CIILjava/lang/Void;)V" } : Jvm.MethodName) jdk_42_method_149_code (6 : Nat) (Option.none : Option Jvm.ClassFile.FieldType)).before a0 Z = true := hw _ (List.mem_of_getElem? (i := 17) rfl)
theorem w18 {Z : State} {a0 : Array Value} (hw : Wds Z a0) : (Jvm.Cond.methodLink "java/lang/String" (1 : Nat) ({ cls := "java/lang/Object", name := "<init>", desc := "()V" } : Jvm.MethodName)).before a0 Z = true := hw _ (List.mem_of_getElem? (i := 18) rfl)
theorem w19 {Z : State} {a0 : Array Value} (hw : Wds Z a0) : (Jvm.Cond.instanceMethod ({ cls := "java/lang/Object", name := "<init>", desc := "()V" } : Jvm.MethodName)).before a0 Z = true := hw _ (List.mem_of_getElem? (i := 19) rfl)
theorem w20 {Z : State} {a0 : Array Value} (hw : Wds Z a0) : (Jvm.Cond.code ({ cls := "java/lang/Object", name := "<init>", desc := "()V" } : Jvm.MethodName) object_method_1_code (1 : Nat) (Option.none : Option Jvm.ClassFile.FieldType)).before a0 Z = true := hw _ (List.mem_of_getElem? (i := 20) rfl)
theorem w22 {Z : State} {a0 : Array Value} (hw : Wds Z a0) : (Jvm.Cond.arrayClass Jvm.ClassFile.FieldType.byte).before a0 Z = true := hw _ (List.mem_of_getElem? (i := 22) rfl)
theorem w23 {Z : State} {a0 : Array Value} (hw : Wds Z a0) : (Jvm.Cond.laysFinal "java/lang/String" "java/lang/String" "value" "[B").before a0 Z = true := hw _ (List.mem_of_getElem? (i := 23) rfl)
theorem w24 {Z : State} {a0 : Array Value} (hw : Wds Z a0) : (Jvm.Cond.laysFinal "java/lang/String" "java/lang/String" "coder" "B").before a0 Z = true := hw _ (List.mem_of_getElem? (i := 24) rfl)
theorem w25 {Z : State} {a0 : Array Value} (hw : Wds Z a0) : (Jvm.Cond.soleField "java/lang/String" "value").before a0 Z = true := hw _ (List.mem_of_getElem? (i := 25) rfl)
theorem w26 {Z : State} {a0 : Array Value} (hw : Wds Z a0) : (Jvm.Cond.soleField "java/lang/String" "coder").before a0 Z = true := hw _ (List.mem_of_getElem? (i := 26) rfl)
theorem w27 {Z : State} {a0 : Array Value} (hw : Wds Z a0) : (Jvm.Cond.fieldLink "java/lang/String" (9 : Nat) "java/lang/String" "value" "[B").before a0 Z = true := hw _ (List.mem_of_getElem? (i := 27) rfl)
theorem w28 {Z : State} {a0 : Array Value} (hw : Wds Z a0) : (Jvm.Cond.fieldLink "java/lang/String" (15 : Nat) "java/lang/String" "coder" "B").before a0 Z = true := hw _ (List.mem_of_getElem? (i := 28) rfl)
theorem w29 {Z : State} {a0 : Array Value} (hw : Wds Z a0) : (Jvm.Cond.fieldLink "java/lang/String" (38 : Nat) "java/lang/String" "COMPACT_STRINGS" "Z").before a0 Z = true := hw _ (List.mem_of_getElem? (i := 29) rfl)
theorem w30 {Z : State} {a0 : Array Value} (hw : Wds Z a0) : (Jvm.Cond.methodLink "java/lang/String" (177 : Nat) ({ cls := "java/lang/StringUTF16", name := "compress", desc := "([CII)[B" } : Jvm.MethodName)).before a0 Z = true := hw _ (List.mem_of_getElem? (i := 30) rfl)
theorem w31 {Z : State} {a0 : Array Value} (hw : Wds Z a0) : (Jvm.Cond.static ({ cls := "java/lang/StringUTF16", name := "compress", desc := "([CII)[B" } : Jvm.MethodName)).before a0 Z = true := hw _ (List.mem_of_getElem? (i := 31) rfl)
theorem w32 {Z : State} {a0 : Array Value} (hw : Wds Z a0) : (Jvm.Cond.initialized "java/lang/StringUTF16").before a0 Z = true := hw _ (List.mem_of_getElem? (i := 32) rfl)
theorem w33 {Z : State} {a0 : Array Value} (hw : Wds Z a0) : (Jvm.Cond.code ({ cls := "java/lang/StringUTF16", name := "compress", desc := "([CII)[B" } : Jvm.MethodName) jdk_52_method_16_code (6 : Nat) (Option.some (Jvm.ClassFile.FieldType.array Jvm.ClassFile.FieldType.byte))).before a0 Z = true := hw _ (List.mem_of_getElem? (i := 33) rfl)
theorem w34 {Z : State} {a0 : Array Value} (hw : Wds Z a0) : (Jvm.Cond.methodLink "java/lang/StringUTF16" (115 : Nat) ({ cls := "java/lang/StringUTF16", name := "compress", desc := "([CI[BII)I" } : Jvm.MethodName)).before a0 Z = true := hw _ (List.mem_of_getElem? (i := 34) rfl)
theorem w35 {Z : State} {a0 : Array Value} (hw : Wds Z a0) : (Jvm.Cond.static ({ cls := "java/lang/StringUTF16", name := "compress", desc := "([CI[BII)I" } : Jvm.MethodName)).before a0 Z = true := hw _ (List.mem_of_getElem? (i := 35) rfl)
theorem w36 {Z : State} {a0 : Array Value} (hw : Wds Z a0) : (Jvm.Cond.code ({ cls := "java/lang/StringUTF16", name := "compress", desc := "([CI[BII)I" } : Jvm.MethodName) jdk_52_method_21_code (7 : Nat) (Option.some Jvm.ClassFile.FieldType.int)).before a0 Z = true := hw _ (List.mem_of_getElem? (i := 36) rfl)
theorem w37 {Z : State} {a0 : Array Value} (hw : Wds Z a0) : (Jvm.Cond.methodLink "java/lang/String" (47 : Nat) ({ cls := "java/lang/StringUTF16", name := "coderFromArrayLen", desc := "([BI)B" } : Jvm.MethodName)).before a0 Z = true := hw _ (List.mem_of_getElem? (i := 37) rfl)
theorem w38 {Z : State} {a0 : Array Value} (hw : Wds Z a0) : (Jvm.Cond.static ({ cls := "java/lang/StringUTF16", name := "coderFromArrayLen", desc := "([BI)B" } : Jvm.MethodName)).before a0 Z = true := hw _ (List.mem_of_getElem? (i := 38) rfl)
theorem w39 {Z : State} {a0 : Array Value} (hw : Wds Z a0) : (Jvm.Cond.code ({ cls := "java/lang/StringUTF16", name := "coderFromArrayLen", desc := "([BI)B" } : Jvm.MethodName) jdk_52_method_15_code (2 : Nat) (Option.some Jvm.ClassFile.FieldType.byte)).before a0 Z = true := hw _ (List.mem_of_getElem? (i := 39) rfl)
theorem w40 {Z : State} {a0 : Array Value} (hw : Wds Z a0) : (Jvm.Cond.methodLink "com/example/collateral_debt_model/collateraldebtmodel/NamePairEqualsPinLaw" (20 : Nat) ({ cls := "com/example/collateral_debt_model/collateraldebtmodel/NamePair", name := "<init>", desc := "(Ljava/lang/String;Ljava/lang/String;)V" } : Jvm.MethodName)).before a0 Z = true := hw _ (List.mem_of_getElem? (i := 40) rfl)
theorem w41 {Z : State} {a0 : Array Value} (hw : Wds Z a0) : (Jvm.Cond.instanceMethod ({ cls := "com/example/collateral_debt_model/collateraldebtmodel/NamePair", name := "<init>", desc := "(Ljava/lang/String;Ljava/lang/String;)V" } : Jvm.MethodName)).before a0 Z = true := hw _ (List.mem_of_getElem? (i := 41) rfl)
theorem w42 {Z : State} {a0 : Array Value} (hw : Wds Z a0) : (Jvm.Cond.code ({ cls := "com/example/collateral_debt_model/collateraldebtmodel/NamePair", name := "<init>", desc := "(Ljava/lang/String;Ljava/lang/String;)V" } : Jvm.MethodName) prog_21_method_1_code (3 : Nat) (Option.none : Option Jvm.ClassFile.FieldType)).before a0 Z = true := hw _ (List.mem_of_getElem? (i := 42) rfl)
theorem w43 {Z : State} {a0 : Array Value} (hw : Wds Z a0) : (Jvm.Cond.methodLink "com/example/collateral_debt_model/collateraldebtmodel/NamePair" (1 : Nat) ({ cls := "java/lang/Object", name := "<init>", desc := "()V" } : Jvm.MethodName)).before a0 Z = true := hw _ (List.mem_of_getElem? (i := 43) rfl)
theorem w45 {Z : State} {a0 : Array Value} (hw : Wds Z a0) : (Jvm.Cond.methodLink "com/example/collateral_debt_model/collateraldebtmodel/NamePair" (9 : Nat) ({ cls := "java/util/Objects", name := "requireNonNull", desc := "(Ljava/lang/Object;Ljava/lang/String;)Ljava/lang/Object;" } : Jvm.MethodName)).before a0 Z = true := hw _ (List.mem_of_getElem? (i := 45) rfl)
theorem w46 {Z : State} {a0 : Array Value} (hw : Wds Z a0) : (Jvm.Cond.static ({ cls := "java/util/Objects", name := "requireNonNull", desc := "(Ljava/lang/Object;Ljava/lang/String;)Ljava/lang/Object;" } : Jvm.MethodName)).before a0 Z = true := hw _ (List.mem_of_getElem? (i := 46) rfl)
theorem w47 {Z : State} {a0 : Array Value} (hw : Wds Z a0) : (Jvm.Cond.initialized "java/util/Objects").before a0 Z = true := hw _ (List.mem_of_getElem? (i := 47) rfl)
theorem w48 {Z : State} {a0 : Array Value} (hw : Wds Z a0) : (Jvm.Cond.code ({ cls := "java/util/Objects", name := "requireNonNull", desc := "(Ljava/lang/Object;Ljava/lang/String;)Ljava/lang/Object;" } : Jvm.MethodName) jdk_31_method_11_code (2 : Nat) (Option.some (Jvm.ClassFile.FieldType.object "java/lang/Object"))).before a0 Z = true := hw _ (List.mem_of_getElem? (i := 48) rfl)
theorem w49 {Z : State} {a0 : Array Value} (hw : Wds Z a0) : (Jvm.Cond.classLink "com/example/collateral_debt_model/collateraldebtmodel/NamePair" (15 : Nat) "java/lang/String").before a0 Z = true := hw _ (List.mem_of_getElem? (i := 49) rfl)
theorem w50 {Z : State} {a0 : Array Value} (hw : Wds Z a0) : (Jvm.Cond.fieldLink "com/example/collateral_debt_model/collateraldebtmodel/NamePair" (17 : Nat) "com/example/collateral_debt_model/collateraldebtmodel/NamePair" "first" "Ljava/lang/String;").before a0 Z = true := hw _ (List.mem_of_getElem? (i := 50) rfl)
theorem w51 {Z : State} {a0 : Array Value} (hw : Wds Z a0) : (Jvm.Cond.laysFinal "com/example/collateral_debt_model/collateraldebtmodel/NamePair" "com/example/collateral_debt_model/collateraldebtmodel/NamePair" "first" "Ljava/lang/String;").before a0 Z = true := hw _ (List.mem_of_getElem? (i := 51) rfl)
theorem w53 {Z : State} {a0 : Array Value} (hw : Wds Z a0) : (Jvm.Cond.fieldLink "com/example/collateral_debt_model/collateraldebtmodel/NamePair" (25 : Nat) "com/example/collateral_debt_model/collateraldebtmodel/NamePair" "second" "Ljava/lang/String;").before a0 Z = true := hw _ (List.mem_of_getElem? (i := 53) rfl)
theorem w54 {Z : State} {a0 : Array Value} (hw : Wds Z a0) : (Jvm.Cond.laysFinal "com/example/collateral_debt_model/collateraldebtmodel/NamePair" "com/example/collateral_debt_model/collateraldebtmodel/NamePair" "second" "Ljava/lang/String;").before a0 Z = true := hw _ (List.mem_of_getElem? (i := 54) rfl)
theorem w55 {Z : State} {a0 : Array Value} (hw : Wds Z a0) : (Jvm.Cond.methodLink "com/example/collateral_debt_model/collateraldebtmodel/NamePairEqualsPinLaw" (27 : Nat) ({ cls := "com/example/collateral_debt_model/collateraldebtmodel/NamePairEqualsPinLaw", name := "same", desc := "(II)Z" } : Jvm.MethodName)).before a0 Z = true := hw _ (List.mem_of_getElem? (i := 55) rfl)
theorem w56 {Z : State} {a0 : Array Value} (hw : Wds Z a0) : (Jvm.Cond.static ({ cls := "com/example/collateral_debt_model/collateraldebtmodel/NamePairEqualsPinLaw", name := "same", desc := "(II)Z" } : Jvm.MethodName)).before a0 Z = true := hw _ (List.mem_of_getElem? (i := 56) rfl)
theorem w57 {Z : State} {a0 : Array Value} (hw : Wds Z a0) : (Jvm.Cond.code ({ cls := "com/example/collateral_debt_model/collateraldebtmodel/NamePairEqualsPinLaw", name := "same", desc := "(II)Z" } : Jvm.MethodName) method_3_code (4 : Nat) (Option.some Jvm.ClassFile.FieldType.boolean)).before a0 Z = true := hw _ (List.mem_of_getElem? (i := 57) rfl)
theorem w58 {Z : State} {a0 : Array Value} (hw : Wds Z a0) : (Jvm.Cond.methodLink "com/example/collateral_debt_model/collateraldebtmodel/NamePairEqualsPinLaw" (23 : Nat) ({ cls := "com/example/collateral_debt_model/collateraldebtmodel/NamePair", name := "equals", desc := "(Ljava/lang/Object;)Z" } : Jvm.MethodName)).before a0 Z = true := hw _ (List.mem_of_getElem? (i := 58) rfl)
theorem w59 {Z : State} {a0 : Array Value} (hw : Wds Z a0) : (Jvm.Cond.declares ({ cls := "com/example/collateral_debt_model/collateraldebtmodel/NamePair", name := "equals", desc := "(Ljava/lang/Object;)Z" } : Jvm.MethodName)).before a0 Z = true := hw _ (List.mem_of_getElem? (i := 59) rfl)
theorem w60 {Z : State} {a0 : Array Value} (hw : Wds Z a0) : (Jvm.Cond.instanceMethod ({ cls := "com/example/collateral_debt_model/collateraldebtmodel/NamePair", name := "equals", desc := "(Ljava/lang/Object;)Z" } : Jvm.MethodName)).before a0 Z = true := hw _ (List.mem_of_getElem? (i := 60) rfl)
theorem w61 {Z : State} {a0 : Array Value} (hw : Wds Z a0) : (Jvm.Cond.selects "com/example/collateral_debt_model/collateraldebtmodel/NamePair" ({ cls := "com/example/collateral_debt_model/collateraldebtmodel/NamePair", name := "equals", desc := "(Ljava/lang/Object;)Z" } : Jvm.MethodName) ({ cls := "com/example/collateral_debt_model/collateraldebtmodel/NamePair", name := "equals", desc := "(Ljava/lang/Object;)Z" } : Jvm.MethodName)).before a0 Z = true := hw _ (List.mem_of_getElem? (i := 61) rfl)
theorem w62 {Z : State} {a0 : Array Value} (hw : Wds Z a0) : (Jvm.Cond.code ({ cls := "com/example/collateral_debt_model/collateraldebtmodel/NamePair", name := "equals", desc := "(Ljava/lang/Object;)Z" } : Jvm.MethodName) prog_21_method_5_code (3 : Nat) (Option.some Jvm.ClassFile.FieldType.boolean)).before a0 Z = true := hw _ (List.mem_of_getElem? (i := 62) rfl)
theorem w63 {Z : State} {a0 : Array Value} (hw : Wds Z a0) : (Jvm.Cond.classLink "com/example/collateral_debt_model/collateraldebtmodel/NamePair" (18 : Nat) "com/example/collateral_debt_model/collateraldebtmodel/NamePair").before a0 Z = true := hw _ (List.mem_of_getElem? (i := 63) rfl)
theorem w65 {Z : State} {a0 : Array Value} (hw : Wds Z a0) : (Jvm.Cond.methodLink "com/example/collateral_debt_model/collateraldebtmodel/NamePair" (32 : Nat) ({ cls := "java/lang/String", name := "equals", desc := "(Ljava/lang/Object;)Z" } : Jvm.MethodName)).before a0 Z = true := hw _ (List.mem_of_getElem? (i := 65) rfl)
theorem w66 {Z : State} {a0 : Array Value} (hw : Wds Z a0) : (Jvm.Cond.declares ({ cls := "java/lang/String", name := "equals", desc := "(Ljava/lang/Object;)Z" } : Jvm.MethodName)).before a0 Z = true := hw _ (List.mem_of_getElem? (i := 66) rfl)
theorem w67 {Z : State} {a0 : Array Value} (hw : Wds Z a0) : (Jvm.Cond.instanceMethod ({ cls := "java/lang/String", name := "equals", desc := "(Ljava/lang/Object;)Z" } : Jvm.MethodName)).before a0 Z = true := hw _ (List.mem_of_getElem? (i := 67) rfl)
theorem w68 {Z : State} {a0 : Array Value} (hw : Wds Z a0) : (Jvm.Cond.selects "java/lang/String" ({ cls := "java/lang/String", name := "equals", desc := "(Ljava/lang/Object;)Z" } : Jvm.MethodName) ({ cls := "java/lang/String", name := "equals", desc := "(Ljava/lang/Object;)Z" } : Jvm.MethodName)).before a0 Z = true := hw _ (List.mem_of_getElem? (i := 68) rfl)
theorem w69 {Z : State} {a0 : Array Value} (hw : Wds Z a0) : (Jvm.Cond.code ({ cls := "java/lang/String", name := "equals", desc := "(Ljava/lang/Object;)Z" } : Jvm.MethodName) jdk_42_method_66_code (3 : Nat) (Option.some Jvm.ClassFile.FieldType.boolean)).before a0 Z = true := hw _ (List.mem_of_getElem? (i := 69) rfl)
theorem w70 {Z : State} {a0 : Array Value} (hw : Wds Z a0) : (Jvm.Cond.classLink "java/lang/String" (10 : Nat) "java/lang/String").before a0 Z = true := hw _ (List.mem_of_getElem? (i := 70) rfl)
theorem w71 {Z : State} {a0 : Array Value} (hw : Wds Z a0) : (Jvm.Cond.methodLink "java/lang/String" (541 : Nat) ({ cls := "java/lang/StringLatin1", name := "equals", desc := "([B[B)Z" } : Jvm.MethodName)).before a0 Z = true := hw _ (List.mem_of_getElem? (i := 71) rfl)
theorem w72 {Z : State} {a0 : Array Value} (hw : Wds Z a0) : (Jvm.Cond.static ({ cls := "java/lang/StringLatin1", name := "equals", desc := "([B[B)Z" } : Jvm.MethodName)).before a0 Z = true := hw _ (List.mem_of_getElem? (i := 72) rfl)
theorem w73 {Z : State} {a0 : Array Value} (hw : Wds Z a0) : (Jvm.Cond.initialized "java/lang/StringLatin1").before a0 Z = true := hw _ (List.mem_of_getElem? (i := 73) rfl)
theorem w74 {Z : State} {a0 : Array Value} (hw : Wds Z a0) : (Jvm.Cond.code ({ cls := "java/lang/StringLatin1", name := "equals", desc := "([B[B)Z" } : Jvm.MethodName) jdk_43_method_13_code (3 : Nat) (Option.some Jvm.ClassFile.FieldType.boolean)).before a0 Z = true := hw _ (List.mem_of_getElem? (i := 74) rfl)
theorem w75 {Z : State} {a0 : Array Value} (hw : Wds Z a0) : (Jvm.Cond.superclass "java/lang/String" "java/lang/Object").before a0 Z = true := hw _ (List.mem_of_getElem? (i := 75) rfl)
theorem w76 {Z : State} {a0 : Array Value} (hw : Wds Z a0) : (Jvm.Cond.noSuperclass "java/lang/Object").before a0 Z = true := hw _ (List.mem_of_getElem? (i := 76) rfl)
theorem lay_0 {Z : State} {a0 : Array Value} (hw : Wds Z a0) : LayD Z a0 "java/lang/String" [("java/lang/String", "value", "[B", .null), ("java/lang/String", "coder", "B", (.int (0 : Int32)))] := ⟨fun f hf => by
  simp only [List.mem_cons, List.not_mem_nil, or_false] at hf
  rcases hf with rfl | rfl
  · exact ⟨Or.inr (w23 hw), (.array .byte), by decide, rfl⟩
  · exact ⟨Or.inr (w24 hw), .byte, by decide, rfl⟩, by decide⟩
theorem lay_1 {Z : State} {a0 : Array Value} (hw : Wds Z a0) : LayD Z a0 "com/example/collateral_debt_model/collateraldebtmodel/NamePair" [("com/example/collateral_debt_model/collateraldebtmodel/NamePair", "first", "Ljava/lang/String;", .null), ("com/example/collateral_debt_model/collateraldebtmodel/NamePair", "second", "Ljava/lang/String;", .null)] := ⟨fun f hf => by
  simp only [List.mem_cons, List.not_mem_nil, or_false] at hf
  rcases hf with rfl | rfl
  · exact ⟨Or.inr (w51 hw), (.object "java/lang/String"), by decide, rfl⟩
  · exact ⟨Or.inr (w54 hw), (.object "java/lang/String"), by decide, rfl⟩, by decide⟩
theorem i0_0 : Ins code 0 (.iload 4) 2 2 := ⟨at_0, rfl⟩
theorem i0_2 : Ins code 2 (.iconst 1) 1 3 := ⟨at_2, rfl⟩
theorem i0_3 : Ins code 3 (.iand) 1 4 := ⟨at_3, rfl⟩
theorem i0_4 : Ins code 4 (.ifCond .eq 7) 3 7 := ⟨at_4, rfl⟩
theorem i0_7 : Ins code 7 (.iload_n 0) 1 8 := ⟨at_7, rfl⟩
theorem i0_8 : Ins code 8 (.goto 4) 3 11 := ⟨at_8, rfl⟩
theorem i0_11 : Ins code 11 (.iload_n 2) 1 12 := ⟨at_11, rfl⟩
theorem i0_12 : Ins code 12 (.istore 5) 2 14 := ⟨at_12, rfl⟩
theorem i0_14 : Ins code 14 (.iload 4) 2 16 := ⟨at_14, rfl⟩
theorem i0_16 : Ins code 16 (.iconst 2) 1 17 := ⟨at_16, rfl⟩
theorem i0_17 : Ins code 17 (.iand) 1 18 := ⟨at_17, rfl⟩
theorem i0_18 : Ins code 18 (.ifCond .eq 7) 3 21 := ⟨at_18, rfl⟩
theorem i0_21 : Ins code 21 (.iload_n 1) 1 22 := ⟨at_21, rfl⟩
theorem i0_22 : Ins code 22 (.goto 4) 3 25 := ⟨at_22, rfl⟩
theorem i0_25 : Ins code 25 (.iload_n 3) 1 26 := ⟨at_25, rfl⟩
theorem i0_26 : Ins code 26 (.istore 6) 2 28 := ⟨at_26, rfl⟩
theorem i0_28 : Ins code 28 (.new 12) 3 31 := ⟨at_28, rfl⟩
theorem i0_31 : Ins code 31 (.dup) 1 32 := ⟨at_31, rfl⟩
theorem i0_32 : Ins code 32 (.iload_n 0) 1 33 := ⟨at_32, rfl⟩
theorem i0_33 : Ins code 33 (.invokestatic 14) 3 36 := ⟨at_33, rfl⟩
theorem i0_36 : Ins code 36 (.iload_n 1) 1 37 := ⟨at_36, rfl⟩
theorem i0_37 : Ins code 37 (.invokestatic 14) 3 40 := ⟨at_37, rfl⟩
theorem i0_40 : Ins code 40 (.invokespecial 20) 3 43 := ⟨at_40, rfl⟩
theorem i0_43 : Ins code 43 (.astore 7) 2 45 := ⟨at_43, rfl⟩
theorem i0_45 : Ins code 45 (.iload 4) 2 47 := ⟨at_45, rfl⟩
theorem i0_47 : Ins code 47 (.iconst 2) 1 48 := ⟨at_47, rfl⟩
theorem i0_48 : Ins code 48 (.iushr) 1 49 := ⟨at_48, rfl⟩
theorem i0_49 : Ins code 49 (.iconst 3) 1 50 := ⟨at_49, rfl⟩
theorem i0_50 : Ins code 50 (.iand) 1 51 := ⟨at_50, rfl⟩
theorem i0_51 : Ins code 51 (.istore 8) 2 53 := ⟨at_51, rfl⟩
theorem i0_53 : Ins code 53 (.iload 8) 2 55 := ⟨at_53, rfl⟩
theorem i0_55 : Ins code 55 (.iconst 2) 1 56 := ⟨at_55, rfl⟩
theorem i0_56 : Ins code 56 (.if_icmp .ne 18) 3 59 := ⟨at_56, rfl⟩
theorem i0_59 : Ins code 59 (.aload 7) 2 61 := ⟨at_59, rfl⟩
theorem i0_61 : Ins code 61 (.aconst_null) 1 62 := ⟨at_61, rfl⟩
theorem i0_62 : Ins code 62 (.invokevirtual 23) 3 65 := ⟨at_62, rfl⟩
theorem i0_65 : Ins code 65 (.ifCond .ne 7) 3 68 := ⟨at_65, rfl⟩
theorem i0_68 : Ins code 68 (.iconst 1) 1 69 := ⟨at_68, rfl⟩
theorem i0_69 : Ins code 69 (.goto 4) 3 72 := ⟨at_69, rfl⟩
theorem i0_73 : Ins code 73 (.ireturn) 1 74 := ⟨at_73, rfl⟩
theorem i0_74 : Ins code 74 (.iload 8) 2 76 := ⟨at_74, rfl⟩
theorem i0_76 : Ins code 76 (.iconst 3) 1 77 := ⟨at_76, rfl⟩
theorem i0_77 : Ins code 77 (.if_icmp .ne 25) 3 80 := ⟨at_77, rfl⟩
theorem i0_80 : Ins code 80 (.iload_n 0) 1 81 := ⟨at_80, rfl⟩
theorem i0_81 : Ins code 81 (.invokestatic 14) 3 84 := ⟨at_81, rfl⟩
theorem i0_84 : Ins code 84 (.astore 9) 2 86 := ⟨at_84, rfl⟩
theorem i0_86 : Ins code 86 (.aload 7) 2 88 := ⟨at_86, rfl⟩
theorem i0_88 : Ins code 88 (.aload 9) 2 90 := ⟨at_88, rfl⟩
theorem i0_90 : Ins code 90 (.invokevirtual 23) 3 93 := ⟨at_90, rfl⟩
theorem i0_93 : Ins code 93 (.ifCond .ne 7) 3 96 := ⟨at_93, rfl⟩
theorem i0_96 : Ins code 96 (.iconst 1) 1 97 := ⟨at_96, rfl⟩
theorem i0_97 : Ins code 97 (.goto 4) 3 100 := ⟨at_97, rfl⟩
theorem i0_101 : Ins code 101 (.ireturn) 1 102 := ⟨at_101, rfl⟩
theorem i0_102 : Ins code 102 (.new 12) 3 105 := ⟨at_102, rfl⟩
theorem i0_105 : Ins code 105 (.dup) 1 106 := ⟨at_105, rfl⟩
theorem i0_106 : Ins code 106 (.iload 5) 2 108 := ⟨at_106, rfl⟩
theorem i0_108 : Ins code 108 (.invokestatic 14) 3 111 := ⟨at_108, rfl⟩
theorem i0_111 : Ins code 111 (.iload 6) 2 113 := ⟨at_111, rfl⟩
theorem i0_113 : Ins code 113 (.invokestatic 14) 3 116 := ⟨at_113, rfl⟩
theorem i0_116 : Ins code 116 (.invokespecial 20) 3 119 := ⟨at_116, rfl⟩
theorem i0_119 : Ins code 119 (.astore 9) 2 121 := ⟨at_119, rfl⟩
theorem i0_121 : Ins code 121 (.iload_n 0) 1 122 := ⟨at_121, rfl⟩
theorem i0_122 : Ins code 122 (.iload 5) 2 124 := ⟨at_122, rfl⟩
theorem i0_124 : Ins code 124 (.invokestatic 27) 3 127 := ⟨at_124, rfl⟩
theorem i0_127 : Ins code 127 (.ifCond .eq 16) 3 130 := ⟨at_127, rfl⟩
theorem i0_130 : Ins code 130 (.iload_n 1) 1 131 := ⟨at_130, rfl⟩
theorem i0_131 : Ins code 131 (.iload 6) 2 133 := ⟨at_131, rfl⟩
theorem i0_133 : Ins code 133 (.invokestatic 27) 3 136 := ⟨at_133, rfl⟩
theorem i0_136 : Ins code 136 (.ifCond .eq 7) 3 139 := ⟨at_136, rfl⟩
theorem i0_139 : Ins code 139 (.iconst 1) 1 140 := ⟨at_139, rfl⟩
theorem i0_140 : Ins code 140 (.goto 4) 3 143 := ⟨at_140, rfl⟩
theorem i0_143 : Ins code 143 (.iconst 0) 1 144 := ⟨at_143, rfl⟩
theorem i0_144 : Ins code 144 (.istore 10) 2 146 := ⟨at_144, rfl⟩
theorem i0_146 : Ins code 146 (.aload 7) 2 148 := ⟨at_146, rfl⟩
theorem i0_148 : Ins code 148 (.aload 9) 2 150 := ⟨at_148, rfl⟩
theorem i0_150 : Ins code 150 (.invokevirtual 23) 3 153 := ⟨at_150, rfl⟩
theorem i0_153 : Ins code 153 (.iload 10) 2 155 := ⟨at_153, rfl⟩
theorem i0_155 : Ins code 155 (.if_icmp .ne 19) 3 158 := ⟨at_155, rfl⟩
theorem i0_158 : Ins code 158 (.aload 9) 2 160 := ⟨at_158, rfl⟩
theorem i0_160 : Ins code 160 (.aload 7) 2 162 := ⟨at_160, rfl⟩
theorem i0_162 : Ins code 162 (.invokevirtual 23) 3 165 := ⟨at_162, rfl⟩
theorem i0_165 : Ins code 165 (.iload 10) 2 167 := ⟨at_165, rfl⟩
theorem i0_167 : Ins code 167 (.if_icmp .ne 7) 3 170 := ⟨at_167, rfl⟩
theorem i0_170 : Ins code 170 (.iconst 1) 1 171 := ⟨at_170, rfl⟩
theorem i0_171 : Ins code 171 (.goto 4) 3 174 := ⟨at_171, rfl⟩
theorem i0_175 : Ins code 175 (.ireturn) 1 176 := ⟨at_175, rfl⟩
theorem i1_0 : Ins method_2_code 0 (.iload_n 0) 1 1 := ⟨by decide +kernel, rfl⟩
theorem i1_1 : Ins method_2_code 1 (.iconst 3) 1 2 := ⟨by decide +kernel, rfl⟩
theorem i1_2 : Ins method_2_code 2 (.iand) 1 3 := ⟨by decide +kernel, rfl⟩
theorem i1_3 : Ins method_2_code 3 (.istore_n 1) 1 4 := ⟨by decide +kernel, rfl⟩
theorem i1_4 : Ins method_2_code 4 (.iload_n 0) 1 5 := ⟨by decide +kernel, rfl⟩
theorem i1_5 : Ins method_2_code 5 (.iconst 2) 1 6 := ⟨by decide +kernel, rfl⟩
theorem i1_6 : Ins method_2_code 6 (.iushr) 1 7 := ⟨by decide +kernel, rfl⟩
theorem i1_7 : Ins method_2_code 7 (.sipush 255) 3 10 := ⟨by decide +kernel, rfl⟩
theorem i1_10 : Ins method_2_code 10 (.iand) 1 11 := ⟨by decide +kernel, rfl⟩
theorem i1_11 : Ins method_2_code 11 (.i2c) 1 12 := ⟨by decide +kernel, rfl⟩
theorem i1_12 : Ins method_2_code 12 (.istore_n 2) 1 13 := ⟨by decide +kernel, rfl⟩
theorem i1_13 : Ins method_2_code 13 (.iload_n 0) 1 14 := ⟨by decide +kernel, rfl⟩
theorem i1_14 : Ins method_2_code 14 (.bipush 10) 2 16 := ⟨by decide +kernel, rfl⟩
theorem i1_16 : Ins method_2_code 16 (.iushr) 1 17 := ⟨by decide +kernel, rfl⟩
theorem i1_17 : Ins method_2_code 17 (.sipush 255) 3 20 := ⟨by decide +kernel, rfl⟩
theorem i1_20 : Ins method_2_code 20 (.iand) 1 21 := ⟨by decide +kernel, rfl⟩
theorem i1_21 : Ins method_2_code 21 (.i2c) 1 22 := ⟨by decide +kernel, rfl⟩
theorem i1_22 : Ins method_2_code 22 (.istore_n 3) 1 23 := ⟨by decide +kernel, rfl⟩
theorem i1_23 : Ins method_2_code 23 (.iload_n 0) 1 24 := ⟨by decide +kernel, rfl⟩
theorem i1_24 : Ins method_2_code 24 (.bipush 18) 2 26 := ⟨by decide +kernel, rfl⟩
theorem i1_26 : Ins method_2_code 26 (.iushr) 1 27 := ⟨by decide +kernel, rfl⟩
theorem i1_27 : Ins method_2_code 27 (.sipush 255) 3 30 := ⟨by decide +kernel, rfl⟩
theorem i1_30 : Ins method_2_code 30 (.iand) 1 31 := ⟨by decide +kernel, rfl⟩
theorem i1_31 : Ins method_2_code 31 (.i2c) 1 32 := ⟨by decide +kernel, rfl⟩
theorem i1_32 : Ins method_2_code 32 (.istore 4) 2 34 := ⟨by decide +kernel, rfl⟩
theorem i1_34 : Ins method_2_code 34 (.iload_n 1) 1 35 := ⟨by decide +kernel, rfl⟩
theorem i1_35 : Ins method_2_code 35 (.ifCond .ne 14) 3 38 := ⟨by decide +kernel, rfl⟩
theorem i1_38 : Ins method_2_code 38 (.new 7) 3 41 := ⟨by decide +kernel, rfl⟩
theorem i1_41 : Ins method_2_code 41 (.dup) 1 42 := ⟨by decide +kernel, rfl⟩
theorem i1_42 : Ins method_2_code 42 (.iconst 0) 1 43 := ⟨by decide +kernel, rfl⟩
theorem i1_43 : Ins method_2_code 43 (.newarray .char) 2 45 := ⟨by decide +kernel, rfl⟩
theorem i1_45 : Ins method_2_code 45 (.invokespecial 9) 3 48 := ⟨by decide +kernel, rfl⟩
theorem i1_48 : Ins method_2_code 48 (.areturn) 1 49 := ⟨by decide +kernel, rfl⟩
theorem i1_49 : Ins method_2_code 49 (.iload_n 1) 1 50 := ⟨by decide +kernel, rfl⟩
theorem i1_50 : Ins method_2_code 50 (.iconst 1) 1 51 := ⟨by decide +kernel, rfl⟩
theorem i1_51 : Ins method_2_code 51 (.if_icmp .ne 18) 3 54 := ⟨by decide +kernel, rfl⟩
theorem i1_54 : Ins method_2_code 54 (.new 7) 3 57 := ⟨by decide +kernel, rfl⟩
theorem i1_57 : Ins method_2_code 57 (.dup) 1 58 := ⟨by decide +kernel, rfl⟩
theorem i1_58 : Ins method_2_code 58 (.iconst 1) 1 59 := ⟨by decide +kernel, rfl⟩
theorem i1_59 : Ins method_2_code 59 (.newarray .char) 2 61 := ⟨by decide +kernel, rfl⟩
theorem i1_61 : Ins method_2_code 61 (.dup) 1 62 := ⟨by decide +kernel, rfl⟩
theorem i1_62 : Ins method_2_code 62 (.iconst 0) 1 63 := ⟨by decide +kernel, rfl⟩
theorem i1_63 : Ins method_2_code 63 (.iload_n 2) 1 64 := ⟨by decide +kernel, rfl⟩
theorem i1_64 : Ins method_2_code 64 (.castore) 1 65 := ⟨by decide +kernel, rfl⟩
theorem i1_65 : Ins method_2_code 65 (.invokespecial 9) 3 68 := ⟨by decide +kernel, rfl⟩
theorem i1_68 : Ins method_2_code 68 (.areturn) 1 69 := ⟨by decide +kernel, rfl⟩
theorem i1_69 : Ins method_2_code 69 (.iload_n 1) 1 70 := ⟨by decide +kernel, rfl⟩
theorem i1_70 : Ins method_2_code 70 (.iconst 2) 1 71 := ⟨by decide +kernel, rfl⟩
theorem i1_71 : Ins method_2_code 71 (.if_icmp .ne 22) 3 74 := ⟨by decide +kernel, rfl⟩
theorem i1_74 : Ins method_2_code 74 (.new 7) 3 77 := ⟨by decide +kernel, rfl⟩
theorem i1_77 : Ins method_2_code 77 (.dup) 1 78 := ⟨by decide +kernel, rfl⟩
theorem i1_78 : Ins method_2_code 78 (.iconst 2) 1 79 := ⟨by decide +kernel, rfl⟩
theorem i1_79 : Ins method_2_code 79 (.newarray .char) 2 81 := ⟨by decide +kernel, rfl⟩
theorem i1_81 : Ins method_2_code 81 (.dup) 1 82 := ⟨by decide +kernel, rfl⟩
theorem i1_82 : Ins method_2_code 82 (.iconst 0) 1 83 := ⟨by decide +kernel, rfl⟩
theorem i1_83 : Ins method_2_code 83 (.iload_n 2) 1 84 := ⟨by decide +kernel, rfl⟩
theorem i1_84 : Ins method_2_code 84 (.castore) 1 85 := ⟨by decide +kernel, rfl⟩
theorem i1_85 : Ins method_2_code 85 (.dup) 1 86 := ⟨by decide +kernel, rfl⟩
theorem i1_86 : Ins method_2_code 86 (.iconst 1) 1 87 := ⟨by decide +kernel, rfl⟩
theorem i1_87 : Ins method_2_code 87 (.iload_n 3) 1 88 := ⟨by decide +kernel, rfl⟩
theorem i1_88 : Ins method_2_code 88 (.castore) 1 89 := ⟨by decide +kernel, rfl⟩
theorem i1_89 : Ins method_2_code 89 (.invokespecial 9) 3 92 := ⟨by decide +kernel, rfl⟩
theorem i1_92 : Ins method_2_code 92 (.areturn) 1 93 := ⟨by decide +kernel, rfl⟩
theorem i1_93 : Ins method_2_code 93 (.new 7) 3 96 := ⟨by decide +kernel, rfl⟩
theorem i1_96 : Ins method_2_code 96 (.dup) 1 97 := ⟨by decide +kernel, rfl⟩
theorem i1_97 : Ins method_2_code 97 (.iconst 3) 1 98 := ⟨by decide +kernel, rfl⟩
theorem i1_98 : Ins method_2_code 98 (.newarray .char) 2 100 := ⟨by decide +kernel, rfl⟩
theorem i1_100 : Ins method_2_code 100 (.dup) 1 101 := ⟨by decide +kernel, rfl⟩
theorem i1_101 : Ins method_2_code 101 (.iconst 0) 1 102 := ⟨by decide +kernel, rfl⟩
theorem i1_102 : Ins method_2_code 102 (.iload_n 2) 1 103 := ⟨by decide +kernel, rfl⟩
theorem i1_103 : Ins method_2_code 103 (.castore) 1 104 := ⟨by decide +kernel, rfl⟩
theorem i1_104 : Ins method_2_code 104 (.dup) 1 105 := ⟨by decide +kernel, rfl⟩
theorem i1_105 : Ins method_2_code 105 (.iconst 1) 1 106 := ⟨by decide +kernel, rfl⟩
theorem i1_106 : Ins method_2_code 106 (.iload_n 3) 1 107 := ⟨by decide +kernel, rfl⟩
theorem i1_107 : Ins method_2_code 107 (.castore) 1 108 := ⟨by decide +kernel, rfl⟩
theorem i1_108 : Ins method_2_code 108 (.dup) 1 109 := ⟨by decide +kernel, rfl⟩
theorem i1_109 : Ins method_2_code 109 (.iconst 2) 1 110 := ⟨by decide +kernel, rfl⟩
theorem i1_110 : Ins method_2_code 110 (.iload 4) 2 112 := ⟨by decide +kernel, rfl⟩
theorem i1_112 : Ins method_2_code 112 (.castore) 1 113 := ⟨by decide +kernel, rfl⟩
theorem i1_113 : Ins method_2_code 113 (.invokespecial 9) 3 116 := ⟨by decide +kernel, rfl⟩
theorem i1_116 : Ins method_2_code 116 (.areturn) 1 117 := ⟨by decide +kernel, rfl⟩
theorem i2_0 : Ins jdk_42_method_3_code 0 (.aload_n 0) 1 1 := ⟨by decide +kernel, rfl⟩
theorem i2_1 : Ins jdk_42_method_3_code 1 (.aload_n 1) 1 2 := ⟨by decide +kernel, rfl⟩
theorem i2_2 : Ins jdk_42_method_3_code 2 (.iconst 0) 1 3 := ⟨by decide +kernel, rfl⟩
theorem i2_3 : Ins jdk_42_method_3_code 3 (.aload_n 1) 1 4 := ⟨by decide +kernel, rfl⟩
theorem i2_4 : Ins jdk_42_method_3_code 4 (.arraylength) 1 5 := ⟨by decide +kernel, rfl⟩
theorem i2_5 : Ins jdk_42_method_3_code 5 (.aconst_null) 1 6 := ⟨by decide +kernel, rfl⟩
theorem i2_6 : Ins jdk_42_method_3_code 6 (.invokespecial 27) 3 9 := ⟨by decide +kernel, rfl⟩
theorem i2_9 : Ins jdk_42_method_3_code 9 (.return_) 1 10 := ⟨by decide +kernel, rfl⟩
theorem i3_0 : Ins jdk_42_method_149_code 0 (.aload_n 0) 1 1 := ⟨by decide +kernel, rfl⟩
theorem i3_1 : Ins jdk_42_method_149_code 1 (.invokespecial 1) 3 4 := ⟨by decide +kernel, rfl⟩
theorem i3_4 : Ins jdk_42_method_149_code 4 (.iload_n 3) 1 5 := ⟨by decide +kernel, rfl⟩
theorem i3_5 : Ins jdk_42_method_149_code 5 (.ifCond .ne 22) 3 8 := ⟨by decide +kernel, rfl⟩
theorem i3_8 : Ins jdk_42_method_149_code 8 (.aload_n 0) 1 9 := ⟨by decide +kernel, rfl⟩
theorem i3_9 : Ins jdk_42_method_149_code 9 (.ldc 7) 2 11 := ⟨by decide +kernel, rfl⟩
theorem i3_11 : Ins jdk_42_method_149_code 11 (.getfield 9) 3 14 := ⟨by decide +kernel, rfl⟩
theorem i3_14 : Ins jdk_42_method_149_code 14 (.putfield 9) 3 17 := ⟨by decide +kernel, rfl⟩
theorem i3_17 : Ins jdk_42_method_149_code 17 (.aload_n 0) 1 18 := ⟨by decide +kernel, rfl⟩
theorem i3_18 : Ins jdk_42_method_149_code 18 (.ldc 7) 2 20 := ⟨by decide +kernel, rfl⟩
theorem i3_20 : Ins jdk_42_method_149_code 20 (.getfield 15) 3 23 := ⟨by decide +kernel, rfl⟩
theorem i3_23 : Ins jdk_42_method_149_code 23 (.putfield 15) 3 26 := ⟨by decide +kernel, rfl⟩
theorem i3_26 : Ins jdk_42_method_149_code 26 (.return_) 1 27 := ⟨by decide +kernel, rfl⟩
theorem i3_27 : Ins jdk_42_method_149_code 27 (.getstatic 38) 3 30 := ⟨by decide +kernel, rfl⟩
theorem i3_30 : Ins jdk_42_method_149_code 30 (.ifCond .eq 28) 3 33 := ⟨by decide +kernel, rfl⟩
theorem i3_33 : Ins jdk_42_method_149_code 33 (.aload_n 1) 1 34 := ⟨by decide +kernel, rfl⟩
theorem i3_34 : Ins jdk_42_method_149_code 34 (.iload_n 2) 1 35 := ⟨by decide +kernel, rfl⟩
theorem i3_35 : Ins jdk_42_method_149_code 35 (.iload_n 3) 1 36 := ⟨by decide +kernel, rfl⟩
theorem i3_36 : Ins jdk_42_method_149_code 36 (.invokestatic 177) 3 39 := ⟨by decide +kernel, rfl⟩
theorem i3_39 : Ins jdk_42_method_149_code 39 (.astore 5) 2 41 := ⟨by decide +kernel, rfl⟩
theorem i3_41 : Ins jdk_42_method_149_code 41 (.aload_n 0) 1 42 := ⟨by decide +kernel, rfl⟩
theorem i3_42 : Ins jdk_42_method_149_code 42 (.aload 5) 2 44 := ⟨by decide +kernel, rfl⟩
theorem i3_44 : Ins jdk_42_method_149_code 44 (.iload_n 3) 1 45 := ⟨by decide +kernel, rfl⟩
theorem i3_45 : Ins jdk_42_method_149_code 45 (.invokestatic 47) 3 48 := ⟨by decide +kernel, rfl⟩
theorem i3_48 : Ins jdk_42_method_149_code 48 (.putfield 15) 3 51 := ⟨by decide +kernel, rfl⟩
theorem i3_51 : Ins jdk_42_method_149_code 51 (.aload_n 0) 1 52 := ⟨by decide +kernel, rfl⟩
theorem i3_52 : Ins jdk_42_method_149_code 52 (.aload 5) 2 54 := ⟨by decide +kernel, rfl⟩
theorem i3_54 : Ins jdk_42_method_149_code 54 (.putfield 9) 3 57 := ⟨by decide +kernel, rfl⟩
theorem i3_57 : Ins jdk_42_method_149_code 57 (.return_) 1 58 := ⟨by decide +kernel, rfl⟩
theorem i5_0 : Ins jdk_52_method_16_code 0 (.iload_n 2) 1 1 := ⟨by decide +kernel, rfl⟩
theorem i5_1 : Ins jdk_52_method_16_code 1 (.newarray .byte) 2 3 := ⟨by decide +kernel, rfl⟩
theorem i5_3 : Ins jdk_52_method_16_code 3 (.astore_n 3) 1 4 := ⟨by decide +kernel, rfl⟩
theorem i5_4 : Ins jdk_52_method_16_code 4 (.aload_n 0) 1 5 := ⟨by decide +kernel, rfl⟩
theorem i5_5 : Ins jdk_52_method_16_code 5 (.iload_n 1) 1 6 := ⟨by decide +kernel, rfl⟩
theorem i5_6 : Ins jdk_52_method_16_code 6 (.aload_n 3) 1 7 := ⟨by decide +kernel, rfl⟩
theorem i5_7 : Ins jdk_52_method_16_code 7 (.iconst 0) 1 8 := ⟨by decide +kernel, rfl⟩
theorem i5_8 : Ins jdk_52_method_16_code 8 (.iload_n 2) 1 9 := ⟨by decide +kernel, rfl⟩
theorem i5_9 : Ins jdk_52_method_16_code 9 (.invokestatic 115) 3 12 := ⟨by decide +kernel, rfl⟩
theorem i5_12 : Ins jdk_52_method_16_code 12 (.istore 4) 2 14 := ⟨by decide +kernel, rfl⟩
theorem i5_14 : Ins jdk_52_method_16_code 14 (.iload 4) 2 16 := ⟨by decide +kernel, rfl⟩
theorem i5_16 : Ins jdk_52_method_16_code 16 (.iload_n 2) 1 17 := ⟨by decide +kernel, rfl⟩
theorem i5_17 : Ins jdk_52_method_16_code 17 (.if_icmp .eq 40) 3 20 := ⟨by decide +kernel, rfl⟩
theorem i5_57 : Ins jdk_52_method_16_code 57 (.aload_n 3) 1 58 := ⟨by decide +kernel, rfl⟩
theorem i5_58 : Ins jdk_52_method_16_code 58 (.areturn) 1 59 := ⟨by decide +kernel, rfl⟩
theorem i6_0 : Ins jdk_52_method_21_code 0 (.iconst 0) 1 1 := ⟨by decide +kernel, rfl⟩
theorem i6_1 : Ins jdk_52_method_21_code 1 (.istore 5) 2 3 := ⟨by decide +kernel, rfl⟩
theorem i6_3 : Ins jdk_52_method_21_code 3 (.iload 5) 2 5 := ⟨by decide +kernel, rfl⟩
theorem i6_5 : Ins jdk_52_method_21_code 5 (.iload 4) 2 7 := ⟨by decide +kernel, rfl⟩
theorem i6_7 : Ins jdk_52_method_21_code 7 (.if_icmp .ge 37) 3 10 := ⟨by decide +kernel, rfl⟩
theorem i6_10 : Ins jdk_52_method_21_code 10 (.aload_n 0) 1 11 := ⟨by decide +kernel, rfl⟩
theorem i6_11 : Ins jdk_52_method_21_code 11 (.iload_n 1) 1 12 := ⟨by decide +kernel, rfl⟩
theorem i6_12 : Ins jdk_52_method_21_code 12 (.caload) 1 13 := ⟨by decide +kernel, rfl⟩
theorem i6_13 : Ins jdk_52_method_21_code 13 (.istore 6) 2 15 := ⟨by decide +kernel, rfl⟩
theorem i6_15 : Ins jdk_52_method_21_code 15 (.iload 6) 2 17 := ⟨by decide +kernel, rfl⟩
theorem i6_17 : Ins jdk_52_method_21_code 17 (.sipush 255) 3 20 := ⟨by decide +kernel, rfl⟩
theorem i6_20 : Ins jdk_52_method_21_code 20 (.if_icmp .le 6) 3 23 := ⟨by decide +kernel, rfl⟩
theorem i6_26 : Ins jdk_52_method_21_code 26 (.aload_n 2) 1 27 := ⟨by decide +kernel, rfl⟩
theorem i6_27 : Ins jdk_52_method_21_code 27 (.iload_n 3) 1 28 := ⟨by decide +kernel, rfl⟩
theorem i6_28 : Ins jdk_52_method_21_code 28 (.iload 6) 2 30 := ⟨by decide +kernel, rfl⟩
theorem i6_30 : Ins jdk_52_method_21_code 30 (.i2b) 1 31 := ⟨by decide +kernel, rfl⟩
theorem i6_31 : Ins jdk_52_method_21_code 31 (.bastore) 1 32 := ⟨by decide +kernel, rfl⟩
theorem i6_32 : Ins jdk_52_method_21_code 32 (.iinc 1 1) 3 35 := ⟨by decide +kernel, rfl⟩
theorem i6_35 : Ins jdk_52_method_21_code 35 (.iinc 3 1) 3 38 := ⟨by decide +kernel, rfl⟩
theorem i6_38 : Ins jdk_52_method_21_code 38 (.iinc 5 1) 3 41 := ⟨by decide +kernel, rfl⟩
theorem i6_41 : Ins jdk_52_method_21_code 41 (.goto (-38)) 3 44 := ⟨by decide +kernel, rfl⟩
theorem i6_44 : Ins jdk_52_method_21_code 44 (.iload 4) 2 46 := ⟨by decide +kernel, rfl⟩
theorem i6_46 : Ins jdk_52_method_21_code 46 (.ireturn) 1 47 := ⟨by decide +kernel, rfl⟩
theorem i7_0 : Ins jdk_52_method_15_code 0 (.iload_n 1) 1 1 := ⟨by decide +kernel, rfl⟩
theorem i7_1 : Ins jdk_52_method_15_code 1 (.aload_n 0) 1 2 := ⟨by decide +kernel, rfl⟩
theorem i7_2 : Ins jdk_52_method_15_code 2 (.arraylength) 1 3 := ⟨by decide +kernel, rfl⟩
theorem i7_3 : Ins jdk_52_method_15_code 3 (.isub) 1 4 := ⟨by decide +kernel, rfl⟩
theorem i7_4 : Ins jdk_52_method_15_code 4 (.bipush 31) 2 6 := ⟨by decide +kernel, rfl⟩
theorem i7_6 : Ins jdk_52_method_15_code 6 (.iushr) 1 7 := ⟨by decide +kernel, rfl⟩
theorem i7_7 : Ins jdk_52_method_15_code 7 (.i2b) 1 8 := ⟨by decide +kernel, rfl⟩
theorem i7_8 : Ins jdk_52_method_15_code 8 (.ireturn) 1 9 := ⟨by decide +kernel, rfl⟩
theorem i8_0 : Ins prog_21_method_1_code 0 (.aload_n 0) 1 1 := ⟨by decide +kernel, rfl⟩
theorem i8_1 : Ins prog_21_method_1_code 1 (.invokespecial 1) 3 4 := ⟨by decide +kernel, rfl⟩
theorem i8_4 : Ins prog_21_method_1_code 4 (.aload_n 0) 1 5 := ⟨by decide +kernel, rfl⟩
theorem i8_5 : Ins prog_21_method_1_code 5 (.aload_n 1) 1 6 := ⟨by decide +kernel, rfl⟩
theorem i8_6 : Ins prog_21_method_1_code 6 (.ldc 7) 2 8 := ⟨by decide +kernel, rfl⟩
theorem i8_8 : Ins prog_21_method_1_code 8 (.invokestatic 9) 3 11 := ⟨by decide +kernel, rfl⟩
theorem i8_11 : Ins prog_21_method_1_code 11 (.checkcast 15) 3 14 := ⟨by decide +kernel, rfl⟩
theorem i8_14 : Ins prog_21_method_1_code 14 (.putfield 17) 3 17 := ⟨by decide +kernel, rfl⟩
theorem i8_17 : Ins prog_21_method_1_code 17 (.aload_n 0) 1 18 := ⟨by decide +kernel, rfl⟩
theorem i8_18 : Ins prog_21_method_1_code 18 (.aload_n 2) 1 19 := ⟨by decide +kernel, rfl⟩
theorem i8_19 : Ins prog_21_method_1_code 19 (.ldc 23) 2 21 := ⟨by decide +kernel, rfl⟩
theorem i8_21 : Ins prog_21_method_1_code 21 (.invokestatic 9) 3 24 := ⟨by decide +kernel, rfl⟩
theorem i8_24 : Ins prog_21_method_1_code 24 (.checkcast 15) 3 27 := ⟨by decide +kernel, rfl⟩
theorem i8_27 : Ins prog_21_method_1_code 27 (.putfield 25) 3 30 := ⟨by decide +kernel, rfl⟩
theorem i8_30 : Ins prog_21_method_1_code 30 (.return_) 1 31 := ⟨by decide +kernel, rfl⟩
theorem i9_0 : Ins jdk_31_method_11_code 0 (.aload_n 0) 1 1 := ⟨by decide +kernel, rfl⟩
theorem i9_1 : Ins jdk_31_method_11_code 1 (.ifnonnull 12) 3 4 := ⟨by decide +kernel, rfl⟩
theorem i9_13 : Ins jdk_31_method_11_code 13 (.aload_n 0) 1 14 := ⟨by decide +kernel, rfl⟩
theorem i9_14 : Ins jdk_31_method_11_code 14 (.areturn) 1 15 := ⟨by decide +kernel, rfl⟩
theorem i10_0 : Ins method_3_code 0 (.iload_n 0) 1 1 := ⟨by decide +kernel, rfl⟩
theorem i10_1 : Ins method_3_code 1 (.iconst 3) 1 2 := ⟨by decide +kernel, rfl⟩
theorem i10_2 : Ins method_3_code 2 (.iand) 1 3 := ⟨by decide +kernel, rfl⟩
theorem i10_3 : Ins method_3_code 3 (.istore_n 2) 1 4 := ⟨by decide +kernel, rfl⟩
theorem i10_4 : Ins method_3_code 4 (.iload_n 1) 1 5 := ⟨by decide +kernel, rfl⟩
theorem i10_5 : Ins method_3_code 5 (.iconst 3) 1 6 := ⟨by decide +kernel, rfl⟩
theorem i10_6 : Ins method_3_code 6 (.iand) 1 7 := ⟨by decide +kernel, rfl⟩
theorem i10_7 : Ins method_3_code 7 (.istore_n 3) 1 8 := ⟨by decide +kernel, rfl⟩
theorem i10_8 : Ins method_3_code 8 (.iload_n 2) 1 9 := ⟨by decide +kernel, rfl⟩
theorem i10_9 : Ins method_3_code 9 (.iload_n 3) 1 10 := ⟨by decide +kernel, rfl⟩
theorem i10_10 : Ins method_3_code 10 (.if_icmp .eq 5) 3 13 := ⟨by decide +kernel, rfl⟩
theorem i10_13 : Ins method_3_code 13 (.iconst 0) 1 14 := ⟨by decide +kernel, rfl⟩
theorem i10_14 : Ins method_3_code 14 (.ireturn) 1 15 := ⟨by decide +kernel, rfl⟩
theorem i10_15 : Ins method_3_code 15 (.iload_n 2) 1 16 := ⟨by decide +kernel, rfl⟩
theorem i10_16 : Ins method_3_code 16 (.iconst 1) 1 17 := ⟨by decide +kernel, rfl⟩
theorem i10_17 : Ins method_3_code 17 (.if_icmp .lt 22) 3 20 := ⟨by decide +kernel, rfl⟩
theorem i10_20 : Ins method_3_code 20 (.iload_n 0) 1 21 := ⟨by decide +kernel, rfl⟩
theorem i10_21 : Ins method_3_code 21 (.iconst 2) 1 22 := ⟨by decide +kernel, rfl⟩
theorem i10_22 : Ins method_3_code 22 (.iushr) 1 23 := ⟨by decide +kernel, rfl⟩
theorem i10_23 : Ins method_3_code 23 (.sipush 255) 3 26 := ⟨by decide +kernel, rfl⟩
theorem i10_26 : Ins method_3_code 26 (.iand) 1 27 := ⟨by decide +kernel, rfl⟩
theorem i10_27 : Ins method_3_code 27 (.iload_n 1) 1 28 := ⟨by decide +kernel, rfl⟩
theorem i10_28 : Ins method_3_code 28 (.iconst 2) 1 29 := ⟨by decide +kernel, rfl⟩
theorem i10_29 : Ins method_3_code 29 (.iushr) 1 30 := ⟨by decide +kernel, rfl⟩
theorem i10_30 : Ins method_3_code 30 (.sipush 255) 3 33 := ⟨by decide +kernel, rfl⟩
theorem i10_33 : Ins method_3_code 33 (.iand) 1 34 := ⟨by decide +kernel, rfl⟩
theorem i10_34 : Ins method_3_code 34 (.if_icmp .eq 5) 3 37 := ⟨by decide +kernel, rfl⟩
theorem i10_37 : Ins method_3_code 37 (.iconst 0) 1 38 := ⟨by decide +kernel, rfl⟩
theorem i10_38 : Ins method_3_code 38 (.ireturn) 1 39 := ⟨by decide +kernel, rfl⟩
theorem i10_39 : Ins method_3_code 39 (.iload_n 2) 1 40 := ⟨by decide +kernel, rfl⟩
theorem i10_40 : Ins method_3_code 40 (.iconst 2) 1 41 := ⟨by decide +kernel, rfl⟩
theorem i10_41 : Ins method_3_code 41 (.if_icmp .lt 24) 3 44 := ⟨by decide +kernel, rfl⟩
theorem i10_44 : Ins method_3_code 44 (.iload_n 0) 1 45 := ⟨by decide +kernel, rfl⟩
theorem i10_45 : Ins method_3_code 45 (.bipush 10) 2 47 := ⟨by decide +kernel, rfl⟩
theorem i10_47 : Ins method_3_code 47 (.iushr) 1 48 := ⟨by decide +kernel, rfl⟩
theorem i10_48 : Ins method_3_code 48 (.sipush 255) 3 51 := ⟨by decide +kernel, rfl⟩
theorem i10_51 : Ins method_3_code 51 (.iand) 1 52 := ⟨by decide +kernel, rfl⟩
theorem i10_52 : Ins method_3_code 52 (.iload_n 1) 1 53 := ⟨by decide +kernel, rfl⟩
theorem i10_53 : Ins method_3_code 53 (.bipush 10) 2 55 := ⟨by decide +kernel, rfl⟩
theorem i10_55 : Ins method_3_code 55 (.iushr) 1 56 := ⟨by decide +kernel, rfl⟩
theorem i10_56 : Ins method_3_code 56 (.sipush 255) 3 59 := ⟨by decide +kernel, rfl⟩
theorem i10_59 : Ins method_3_code 59 (.iand) 1 60 := ⟨by decide +kernel, rfl⟩
theorem i10_60 : Ins method_3_code 60 (.if_icmp .eq 5) 3 63 := ⟨by decide +kernel, rfl⟩
theorem i10_63 : Ins method_3_code 63 (.iconst 0) 1 64 := ⟨by decide +kernel, rfl⟩
theorem i10_64 : Ins method_3_code 64 (.ireturn) 1 65 := ⟨by decide +kernel, rfl⟩
theorem i10_65 : Ins method_3_code 65 (.iload_n 2) 1 66 := ⟨by decide +kernel, rfl⟩
theorem i10_66 : Ins method_3_code 66 (.iconst 3) 1 67 := ⟨by decide +kernel, rfl⟩
theorem i10_67 : Ins method_3_code 67 (.if_icmp .lt 24) 3 70 := ⟨by decide +kernel, rfl⟩
theorem i10_70 : Ins method_3_code 70 (.iload_n 0) 1 71 := ⟨by decide +kernel, rfl⟩
theorem i10_71 : Ins method_3_code 71 (.bipush 18) 2 73 := ⟨by decide +kernel, rfl⟩
theorem i10_73 : Ins method_3_code 73 (.iushr) 1 74 := ⟨by decide +kernel, rfl⟩
theorem i10_74 : Ins method_3_code 74 (.sipush 255) 3 77 := ⟨by decide +kernel, rfl⟩
theorem i10_77 : Ins method_3_code 77 (.iand) 1 78 := ⟨by decide +kernel, rfl⟩
theorem i10_78 : Ins method_3_code 78 (.iload_n 1) 1 79 := ⟨by decide +kernel, rfl⟩
theorem i10_79 : Ins method_3_code 79 (.bipush 18) 2 81 := ⟨by decide +kernel, rfl⟩
theorem i10_81 : Ins method_3_code 81 (.iushr) 1 82 := ⟨by decide +kernel, rfl⟩
theorem i10_82 : Ins method_3_code 82 (.sipush 255) 3 85 := ⟨by decide +kernel, rfl⟩
theorem i10_85 : Ins method_3_code 85 (.iand) 1 86 := ⟨by decide +kernel, rfl⟩
theorem i10_86 : Ins method_3_code 86 (.if_icmp .eq 5) 3 89 := ⟨by decide +kernel, rfl⟩
theorem i10_89 : Ins method_3_code 89 (.iconst 0) 1 90 := ⟨by decide +kernel, rfl⟩
theorem i10_90 : Ins method_3_code 90 (.ireturn) 1 91 := ⟨by decide +kernel, rfl⟩
theorem i10_91 : Ins method_3_code 91 (.iconst 1) 1 92 := ⟨by decide +kernel, rfl⟩
theorem i10_92 : Ins method_3_code 92 (.ireturn) 1 93 := ⟨by decide +kernel, rfl⟩
theorem i11_0 : Ins prog_21_method_5_code 0 (.aload_n 1) 1 1 := ⟨by decide +kernel, rfl⟩
theorem i11_1 : Ins prog_21_method_5_code 1 (.instanceof 18) 3 4 := ⟨by decide +kernel, rfl⟩
theorem i11_4 : Ins prog_21_method_5_code 4 (.ifCond .eq 40) 3 7 := ⟨by decide +kernel, rfl⟩
theorem i11_7 : Ins prog_21_method_5_code 7 (.aload_n 1) 1 8 := ⟨by decide +kernel, rfl⟩
theorem i11_8 : Ins prog_21_method_5_code 8 (.checkcast 18) 3 11 := ⟨by decide +kernel, rfl⟩
theorem i11_11 : Ins prog_21_method_5_code 11 (.astore_n 2) 1 12 := ⟨by decide +kernel, rfl⟩
theorem i11_12 : Ins prog_21_method_5_code 12 (.aload_n 0) 1 13 := ⟨by decide +kernel, rfl⟩
theorem i11_13 : Ins prog_21_method_5_code 13 (.getfield 17) 3 16 := ⟨by decide +kernel, rfl⟩
theorem i11_16 : Ins prog_21_method_5_code 16 (.aload_n 2) 1 17 := ⟨by decide +kernel, rfl⟩
theorem i11_17 : Ins prog_21_method_5_code 17 (.getfield 17) 3 20 := ⟨by decide +kernel, rfl⟩
theorem i11_20 : Ins prog_21_method_5_code 20 (.invokevirtual 32) 3 23 := ⟨by decide +kernel, rfl⟩
theorem i11_23 : Ins prog_21_method_5_code 23 (.ifCond .eq 21) 3 26 := ⟨by decide +kernel, rfl⟩
theorem i11_26 : Ins prog_21_method_5_code 26 (.aload_n 0) 1 27 := ⟨by decide +kernel, rfl⟩
theorem i11_27 : Ins prog_21_method_5_code 27 (.getfield 25) 3 30 := ⟨by decide +kernel, rfl⟩
theorem i11_30 : Ins prog_21_method_5_code 30 (.aload_n 2) 1 31 := ⟨by decide +kernel, rfl⟩
theorem i11_31 : Ins prog_21_method_5_code 31 (.getfield 25) 3 34 := ⟨by decide +kernel, rfl⟩
theorem i11_34 : Ins prog_21_method_5_code 34 (.invokevirtual 32) 3 37 := ⟨by decide +kernel, rfl⟩
theorem i11_37 : Ins prog_21_method_5_code 37 (.ifCond .eq 7) 3 40 := ⟨by decide +kernel, rfl⟩
theorem i11_40 : Ins prog_21_method_5_code 40 (.iconst 1) 1 41 := ⟨by decide +kernel, rfl⟩
theorem i11_41 : Ins prog_21_method_5_code 41 (.goto 4) 3 44 := ⟨by decide +kernel, rfl⟩
theorem i11_44 : Ins prog_21_method_5_code 44 (.iconst 0) 1 45 := ⟨by decide +kernel, rfl⟩
theorem i11_45 : Ins prog_21_method_5_code 45 (.ireturn) 1 46 := ⟨by decide +kernel, rfl⟩
theorem i12_0 : Ins jdk_42_method_66_code 0 (.aload_n 0) 1 1 := ⟨by decide +kernel, rfl⟩
theorem i12_1 : Ins jdk_42_method_66_code 1 (.aload_n 1) 1 2 := ⟨by decide +kernel, rfl⟩
theorem i12_2 : Ins jdk_42_method_66_code 2 (.if_acmp .ne 5) 3 5 := ⟨by decide +kernel, rfl⟩
theorem i12_7 : Ins jdk_42_method_66_code 7 (.aload_n 1) 1 8 := ⟨by decide +kernel, rfl⟩
theorem i12_8 : Ins jdk_42_method_66_code 8 (.instanceof 10) 3 11 := ⟨by decide +kernel, rfl⟩
theorem i12_11 : Ins jdk_42_method_66_code 11 (.ifCond .eq 43) 3 14 := ⟨by decide +kernel, rfl⟩
theorem i12_14 : Ins jdk_42_method_66_code 14 (.aload_n 1) 1 15 := ⟨by decide +kernel, rfl⟩
theorem i12_15 : Ins jdk_42_method_66_code 15 (.checkcast 10) 3 18 := ⟨by decide +kernel, rfl⟩
theorem i12_18 : Ins jdk_42_method_66_code 18 (.astore_n 2) 1 19 := ⟨by decide +kernel, rfl⟩
theorem i12_19 : Ins jdk_42_method_66_code 19 (.getstatic 38) 3 22 := ⟨by decide +kernel, rfl⟩
theorem i12_22 : Ins jdk_42_method_66_code 22 (.ifCond .eq 14) 3 25 := ⟨by decide +kernel, rfl⟩
theorem i12_25 : Ins jdk_42_method_66_code 25 (.aload_n 0) 1 26 := ⟨by decide +kernel, rfl⟩
theorem i12_26 : Ins jdk_42_method_66_code 26 (.getfield 15) 3 29 := ⟨by decide +kernel, rfl⟩
theorem i12_29 : Ins jdk_42_method_66_code 29 (.aload_n 2) 1 30 := ⟨by decide +kernel, rfl⟩
theorem i12_30 : Ins jdk_42_method_66_code 30 (.getfield 15) 3 33 := ⟨by decide +kernel, rfl⟩
theorem i12_33 : Ins jdk_42_method_66_code 33 (.if_icmp .ne 21) 3 36 := ⟨by decide +kernel, rfl⟩
theorem i12_36 : Ins jdk_42_method_66_code 36 (.aload_n 0) 1 37 := ⟨by decide +kernel, rfl⟩
theorem i12_37 : Ins jdk_42_method_66_code 37 (.getfield 9) 3 40 := ⟨by decide +kernel, rfl⟩
theorem i12_40 : Ins jdk_42_method_66_code 40 (.aload_n 2) 1 41 := ⟨by decide +kernel, rfl⟩
theorem i12_41 : Ins jdk_42_method_66_code 41 (.getfield 9) 3 44 := ⟨by decide +kernel, rfl⟩
theorem i12_44 : Ins jdk_42_method_66_code 44 (.invokestatic 541) 3 47 := ⟨by decide +kernel, rfl⟩
theorem i12_47 : Ins jdk_42_method_66_code 47 (.ifCond .eq 7) 3 50 := ⟨by decide +kernel, rfl⟩
theorem i12_50 : Ins jdk_42_method_66_code 50 (.iconst 1) 1 51 := ⟨by decide +kernel, rfl⟩
theorem i12_51 : Ins jdk_42_method_66_code 51 (.goto 4) 3 54 := ⟨by decide +kernel, rfl⟩
theorem i12_54 : Ins jdk_42_method_66_code 54 (.iconst 0) 1 55 := ⟨by decide +kernel, rfl⟩
theorem i12_55 : Ins jdk_42_method_66_code 55 (.ireturn) 1 56 := ⟨by decide +kernel, rfl⟩
theorem i13_0 : Ins jdk_43_method_13_code 0 (.aload_n 0) 1 1 := ⟨by decide +kernel, rfl⟩
theorem i13_1 : Ins jdk_43_method_13_code 1 (.arraylength) 1 2 := ⟨by decide +kernel, rfl⟩
theorem i13_2 : Ins jdk_43_method_13_code 2 (.aload_n 1) 1 3 := ⟨by decide +kernel, rfl⟩
theorem i13_3 : Ins jdk_43_method_13_code 3 (.arraylength) 1 4 := ⟨by decide +kernel, rfl⟩
theorem i13_4 : Ins jdk_43_method_13_code 4 (.if_icmp .ne 30) 3 7 := ⟨by decide +kernel, rfl⟩
theorem i13_7 : Ins jdk_43_method_13_code 7 (.iconst 0) 1 8 := ⟨by decide +kernel, rfl⟩
theorem i13_8 : Ins jdk_43_method_13_code 8 (.istore_n 2) 1 9 := ⟨by decide +kernel, rfl⟩
theorem i13_9 : Ins jdk_43_method_13_code 9 (.iload_n 2) 1 10 := ⟨by decide +kernel, rfl⟩
theorem i13_10 : Ins jdk_43_method_13_code 10 (.aload_n 0) 1 11 := ⟨by decide +kernel, rfl⟩
theorem i13_11 : Ins jdk_43_method_13_code 11 (.arraylength) 1 12 := ⟨by decide +kernel, rfl⟩
theorem i13_12 : Ins jdk_43_method_13_code 12 (.if_icmp .ge 20) 3 15 := ⟨by decide +kernel, rfl⟩
theorem i13_15 : Ins jdk_43_method_13_code 15 (.aload_n 0) 1 16 := ⟨by decide +kernel, rfl⟩
theorem i13_16 : Ins jdk_43_method_13_code 16 (.iload_n 2) 1 17 := ⟨by decide +kernel, rfl⟩
theorem i13_17 : Ins jdk_43_method_13_code 17 (.baload) 1 18 := ⟨by decide +kernel, rfl⟩
theorem i13_18 : Ins jdk_43_method_13_code 18 (.aload_n 1) 1 19 := ⟨by decide +kernel, rfl⟩
theorem i13_19 : Ins jdk_43_method_13_code 19 (.iload_n 2) 1 20 := ⟨by decide +kernel, rfl⟩
theorem i13_20 : Ins jdk_43_method_13_code 20 (.baload) 1 21 := ⟨by decide +kernel, rfl⟩
theorem i13_21 : Ins jdk_43_method_13_code 21 (.if_icmp .eq 5) 3 24 := ⟨by decide +kernel, rfl⟩
theorem i13_24 : Ins jdk_43_method_13_code 24 (.iconst 0) 1 25 := ⟨by decide +kernel, rfl⟩
theorem i13_25 : Ins jdk_43_method_13_code 25 (.ireturn) 1 26 := ⟨by decide +kernel, rfl⟩
theorem i13_26 : Ins jdk_43_method_13_code 26 (.iinc 2 1) 3 29 := ⟨by decide +kernel, rfl⟩
theorem i13_29 : Ins jdk_43_method_13_code 29 (.goto (-20)) 3 32 := ⟨by decide +kernel, rfl⟩
theorem i13_32 : Ins jdk_43_method_13_code 32 (.iconst 1) 1 33 := ⟨by decide +kernel, rfl⟩
theorem i13_33 : Ins jdk_43_method_13_code 33 (.ireturn) 1 34 := ⟨by decide +kernel, rfl⟩
theorem i13_34 : Ins jdk_43_method_13_code 34 (.iconst 0) 1 35 := ⟨by decide +kernel, rfl⟩
theorem i13_35 : Ins jdk_43_method_13_code 35 (.ireturn) 1 36 := ⟨by decide +kernel, rfl⟩
theorem pd_0 : parseMethodDescriptor "([CIILjava/lang/Void;)V" = some ⟨[(.array .char), .int, .int, (.object "java/lang/Void")], none⟩ := by decide +kernel
theorem pd_1 : parseMethodDescriptor "([CI[BII)I" = some ⟨[(.array .char), .int, (.array .byte), .int, .int], some .int⟩ := by decide +kernel
theorem pd_2 : parseMethodDescriptor "([CII)[B" = some ⟨[(.array .char), .int, .int], some (.array .byte)⟩ := by decide +kernel
theorem pd_3 : parseMethodDescriptor "([BI)B" = some ⟨[(.array .byte), .int], some .byte⟩ := by decide +kernel
theorem pd_4 : parseMethodDescriptor "([C)V" = some ⟨[(.array .char)], none⟩ := by decide +kernel
theorem pd_5 : parseMethodDescriptor "(Ljava/lang/Object;Ljava/lang/String;)Ljava/lang/Object;" = some ⟨[(.object "java/lang/Object"), (.object "java/lang/String")], some (.object "java/lang/Object")⟩ := by decide +kernel
theorem pd_6 : parseMethodDescriptor "([B[B)Z" = some ⟨[(.array .byte), (.array .byte)], some .boolean⟩ := by decide +kernel
theorem pd_7 : parseMethodDescriptor "(Ljava/lang/Object;)Z" = some ⟨[(.object "java/lang/Object")], some .boolean⟩ := by decide +kernel
theorem pd_8 : parseMethodDescriptor "(I)Ljava/lang/String;" = some ⟨[.int], some (.object "java/lang/String")⟩ := by decide +kernel
theorem pd_9 : parseMethodDescriptor "(Ljava/lang/String;Ljava/lang/String;)V" = some ⟨[(.object "java/lang/String"), (.object "java/lang/String")], none⟩ := by decide +kernel
theorem pd_10 : parseMethodDescriptor "(II)Z" = some ⟨[.int, .int], some .boolean⟩ := by decide +kernel
theorem own_cc {x : Int32} (h : ¬ x < 0 ∧ ¬ (65535 : Int32) < x) : nar .char x = x := by
  have e1 : (0 : Int32).toInt = 0 := rfl
  have e2 : (65535 : Int32).toInt = 65535 := rfl
  rw [Int32.lt_iff_toInt_lt, Int32.lt_iff_toInt_lt] at h
  have := c_i2c x
  have e : nar .char x = x.toUInt32.toUInt16.toUInt32.toInt32 := rfl
  rw [e]
  apply Int32.toInt_inj.mp
  omega
theorem own_bb (b : Int32) : b.toInt8.toInt32.toInt8.toInt32 = b.toInt8.toInt32 := by simp
theorem own_m255 (x : Int32) : ¬ (x &&& 255) < 0 ∧ ¬ (255 : Int32) < (x &&& 255) := by
  have h : (x &&& 255).toInt = x.toInt % (2 ^ 8 : Nat) := c_mask x 255 8 (by decide) (by decide)
  have e1 : (0 : Int32).toInt = 0 := rfl
  have e2 : (255 : Int32).toInt = 255 := rfl
  rw [Int32.lt_iff_toInt_lt, Int32.lt_iff_toInt_lt]
  omega
theorem own_255 {x : Int32} (h : ¬ x < 0 ∧ ¬ (255 : Int32) < x) : ¬ x < 0 ∧ ¬ (65535 : Int32) < x := by
  have e1 : (0 : Int32).toInt = 0 := rfl
  have e2 : (65535 : Int32).toInt = 65535 := rfl
  have e3 : (255 : Int32).toInt = 255 := rfl
  rw [Int32.lt_iff_toInt_lt, Int32.lt_iff_toInt_lt] at h ⊢
  omega
theorem own_i2c {x : Int32} (h : ¬ x < 0 ∧ ¬ (255 : Int32) < x) : x.toUInt32.toUInt16.toUInt32.toInt32 = x := own_cc (own_255 h)
theorem own_eqI {args : Array Value} {s : State} {t u : Term} {x y : Int32} (ht : t.eval args s none [] s = some (.int x)) (hu : u.eval args s none [] s = some (.int y)) : (Jvm.Cond.eq t u).value args s none s [] = some (decide (x = y)) := by simp [Cond.value, ht, hu]

def own_b (c : Int32) : Value := .int ((Int32.toInt8 c).toInt32)
def Lat (cs : List Int32) : Prop := ∀ c ∈ cs, ¬ c < 0 ∧ ¬ (255 : Int32) < c
/-- the String b, its bytes in the array t, says the chars cs, all of Latin-1 -/
def Str (Z : State) (h : Heap) (b t : Addr) (k : ClassId) (cs : List Int32) : Prop := Obj Z h b "java/lang/String" [("java/lang/String", "value", "[B", .ref t), ("java/lang/String", "coder", "B", .int 0)] ∧ Arv Z h t k .byte (Int32.ofNat cs.length) (cs.map own_b) (.int 0) ∧ Lat cs ∧ cs.length < 1000000
theorem Str.keep {Z : State} {h h' : Heap} {b t : Addr} {k : ClassId} {cs : List Int32} {ws : List Addr} (S : Str Z h b t k cs) (K : Keep h h' ws) (q : b ∉ ws) (r : t ∉ ws) : Str Z h' b t k cs := ⟨S.1.keep K q, S.2.1.keep K r, S.2.2⟩
theorem own_n0 (n : Nat) (h : n < 2147483648) : (Int32.ofNat n).toInt = n := Int32.toInt_ofNat_small h
theorem own_nn {n : Nat} (h : n < 2147483648) : ¬ Int32.ofNat n < 0 := by rw [Int32.lt_iff_toInt_lt, own_n0 n h]; show ¬ (n : Int) < 0; omega
theorem own_lt {a b : Nat} (h : a < b) (hb : b < 2147483648) : Int32.ofNat a < Int32.ofNat b := by rw [Int32.lt_iff_toInt_lt, own_n0 a (by omega), own_n0 b hb]; omega
theorem own_nlt {a b : Nat} (h : b ≤ a) (hb : a < 2147483648) : ¬ Int32.ofNat a < Int32.ofNat b := by rw [Int32.lt_iff_toInt_lt, own_n0 a hb, own_n0 b (by omega)]; omega
theorem own_cl {n : Nat} (h : n < 2147483648) : (Int32.ofNat n).toNatClampNeg = n := by
  have := own_n0 n h
  simp only [Int32.toNatClampNeg, this]; rfl
theorem own_inj {a b : Nat} (ha : a < 2147483648) (hb : b < 2147483648) : Int32.ofNat a = Int32.ofNat b ↔ a = b := ⟨fun q => by have := congrArg Int32.toInt q; rw [own_n0 a ha, own_n0 b hb] at this; omega, fun q => by rw [q]⟩
theorem own_add {a b : Nat} (h : a + b < 2147483648) : Int32.ofNat a + Int32.ofNat b = Int32.ofNat (a + b) := by
  apply Int32.toInt_inj.mp
  rw [Int32.toInt_add, own_n0 a (by omega), own_n0 b (by omega), own_n0 _ h]
  rw [Int.bmod_eq_of_le (by omega) (by omega)]; omega
theorem own_b8 {c d : Int32} (hc : ¬ c < 0 ∧ ¬ (255 : Int32) < c) (hd : ¬ d < 0 ∧ ¬ (255 : Int32) < d) (h : (Int32.toInt8 c).toInt32 = (Int32.toInt8 d).toInt32) : c = d := by
  have e1 : (0 : Int32).toInt = 0 := rfl
  have e2 : (255 : Int32).toInt = 255 := rfl
  rw [Int32.lt_iff_toInt_lt, Int32.lt_iff_toInt_lt] at hc hd
  have h1 := c_i2b c
  have h2 := c_i2b d
  rw [h] at h1
  apply Int32.toInt_inj.mp
  omega
theorem own_bmap : ∀ {cs ds : List Int32}, Lat cs → Lat ds → (cs.map (fun c => (Int32.toInt8 c).toInt32) = ds.map (fun c => (Int32.toInt8 c).toInt32) ↔ cs = ds)
  | [], [], _, _ => by simp
  | [], d :: ds, _, _ => by simp
  | c :: cs, [], _, _ => by simp
  | c :: cs, d :: ds, hc, hd => by
    have ih := own_bmap (cs := cs) (ds := ds) (fun x hx => hc x (List.mem_cons_of_mem _ hx)) (fun x hx => hd x (List.mem_cons_of_mem _ hx))
    simp only [List.map_cons, List.cons.injEq, ih]
    exact and_congr_left fun _ => ⟨own_b8 (hc c (List.mem_cons_self ..)) (hd d (List.mem_cons_self ..)), fun q => by rw [q]⟩
theorem own_getb (xs : List Int32) (i : Nat) : (xs.map Value.int).getD i (.int 0) = .int (xs.getD i 0) := by
  simp only [List.getD_eq_getElem?_getD, List.getElem?_map]; cases xs[i]? <;> rfl
theorem own_mapb (cs : List Int32) : cs.map own_b = (cs.map fun c => (Int32.toInt8 c).toInt32).map Value.int := by simp [own_b, Function.comp_def]
theorem own_take {xs ys : List Int32} {i : Nat} (h : xs.take i = ys.take i) (e : xs.getD i 0 = ys.getD i 0) (h1 : i < xs.length) (h2 : i < ys.length) : xs.take (i + 1) = ys.take (i + 1) := by
  rw [List.take_succ_eq_append_getElem h1, List.take_succ_eq_append_getElem h2, h]
  congr 2
  simpa [List.getD_eq_getElem?_getD, h1, h2] using e
theorem own_all {xs ys : List Int32} (hl : xs.length = ys.length) {i : Nat} (hi : i = ys.length) (hp : xs.take i = ys.take i) : xs = ys := by
  subst hi; rw [List.take_length, ← hl, List.take_length] at hp; exact hp
theorem own_drop {xs ys : List Int32} {i : Nat} (e : ¬ xs.getD i 0 = ys.getD i 0) : ¬ xs = ys := fun q => e (by rw [q])
theorem own_sa {Z : State} {a0 : Array Value} (hw : Wds Z a0) : ∀ a ∈ Bundle.stringAtoms, a.before a0 Z = true := fun a ha => by
  simp only [Bundle.stringAtoms, List.mem_cons, List.not_mem_nil, or_false] at ha
  rcases ha with rfl | rfl | rfl | rfl | rfl | rfl | rfl
  · exact (w9 hw)
  · exact (w8 hw)
  · exact (w22 hw)
  · exact (w23 hw)
  · exact (w24 hw)
  · exact (w25 hw)
  · exact (w26 hw)
theorem own_EW {Z : State} {a0 : Array Value} (hw : Wds Z a0) : EW Z a0 [("java/lang/String", 7)] := (EW.cons (hw _ (List.mem_of_getElem? (i := 21) rfl)) (by decide) EW.nil)
theorem own_and3 (x : Int32) : x &&& 3 = 0 ∨ x &&& 3 = 1 ∨ x &&& 3 = 2 ∨ x &&& 3 = 3 := by
  have h : (x &&& 3).toInt = x.toInt % (2 ^ 2 : Nat) := c_mask x 3 2 (by decide) (by decide)
  have e : ∀ k : Int32, (x &&& 3).toInt = k.toInt → x &&& 3 = k := fun k q => Int32.toInt_inj.mp q
  have h0 : (0 : Int32).toInt = 0 := rfl
  have h1 : (1 : Int32).toInt = 1 := rfl
  have h2 : (2 : Int32).toInt = 2 := rfl
  have h3 : (3 : Int32).toInt = 3 := rfl
  have : (x &&& 3).toInt = 0 ∨ (x &&& 3).toInt = 1 ∨ (x &&& 3).toInt = 2 ∨ (x &&& 3).toInt = 3 := by omega
  rcases this with q | q | q | q
  · exact Or.inl (e 0 (q.trans h0.symm))
  · exact Or.inr (Or.inl (e 1 (q.trans h1.symm)))
  · exact Or.inr (Or.inr (Or.inl (e 2 (q.trans h2.symm))))
  · exact Or.inr (Or.inr (Or.inr (e 3 (q.trans h3.symm))))
def own_x0 (x : Int32) : Int32 := Jvm.Free.XT.ushr x 2 &&& 255
def own_x1 (x : Int32) : Int32 := Jvm.Free.XT.ushr x 10 &&& 255
def own_x2 (x : Int32) : Int32 := Jvm.Free.XT.ushr x 18 &&& 255
def own_cs (x : Int32) : List Int32 := if x &&& 3 = 0 then [] else if x &&& 3 = 1 then [own_x0 x] else if x &&& 3 = 2 then [own_x0 x, own_x1 x] else [own_x0 x, own_x1 x, own_x2 x]
theorem own_cs0 {x : Int32} (q : x &&& 3 = 0) : own_cs x = [] := if_pos q
theorem own_cs1 {x : Int32} (q : x &&& 3 = 1) : own_cs x = [own_x0 x] := by unfold own_cs; rw [q]; rfl
theorem own_cs2 {x : Int32} (q : x &&& 3 = 2) : own_cs x = [own_x0 x, own_x1 x] := by unfold own_cs; rw [q]; rfl
theorem own_cs3 {x : Int32} (q : x &&& 3 = 3) : own_cs x = [own_x0 x, own_x1 x, own_x2 x] := by unfold own_cs; rw [q]; rfl
theorem own_xr0 (x : Int32) : ¬ own_x0 x < 0 ∧ ¬ (255 : Int32) < own_x0 x := own_m255 _
theorem own_xr1 (x : Int32) : ¬ own_x1 x < 0 ∧ ¬ (255 : Int32) < own_x1 x := own_m255 _
theorem own_xr2 (x : Int32) : ¬ own_x2 x < 0 ∧ ¬ (255 : Int32) < own_x2 x := own_m255 _
theorem own_lat (x : Int32) : Lat (own_cs x) := fun c hc => by
  unfold own_cs at hc
  split at hc
  · cases hc
  · split at hc
    · simp only [List.mem_cons, List.not_mem_nil, or_false] at hc; rcases hc with rfl; exact own_xr0 x
    · split at hc
      · simp only [List.mem_cons, List.not_mem_nil, or_false] at hc; rcases hc with rfl | rfl; exact own_xr0 x; exact own_xr1 x
      · simp only [List.mem_cons, List.not_mem_nil, or_false] at hc; rcases hc with rfl | rfl | rfl; exact own_xr0 x; exact own_xr1 x; exact own_xr2 x
set_option maxRecDepth 65536 in
set_option maxHeartbeats 4000000 in
theorem own_si4_0 (l : Launch) (Z : State) (a0 : Array Value) (hw : Wds Z a0) (n0 : Nat) (a u : Addr) (h0 : Heap) (ga : n0 ≤ a) (O0 : Obj Z h0 a "java/lang/String" [("java/lang/String", "value", "[B", .null), ("java/lang/String", "coder", "B", (.int (0 : Int32)))]) : Con true l Z [("java/lang/String", 7)] n0 (⟨"java/lang/String", "<init>", "([CIILjava/lang/Void;)V"⟩ : MethodName) jdk_42_method_149_code 6 none ({ frames := 1, cells := 4, slots := 8, locals := 12 } : Room) #[(.ref a), (.ref u), (.int (0 : Int32)), (.int (0 : Int32)), .null] [a] h0 (fun v h D' => v = none ∧ ∃ t k, Keep h0 h [a] ∧ Obj Z h a "java/lang/String" [("java/lang/String", "value", "[B", (.ref t)), ("java/lang/String", "coder", "B", (.int (0 : Int32)))] ∧ Arv Z h t k .byte (0 : Int32) [] (.int 0) ∧ D' = []) := by
  refine Con.of_runs (ls := #[.val (.ref a), .val (.ref u), .val (.int (0 : Int32)), .val (.int (0 : Int32)), .val .null, .unset]) (by decide +kernel) (fun m => rfl) ?_
  refine Runs.aloadN i3_0 rfl rfl ?_
  refine Runs.initO (W := 0) i3_1 (w18 hw) (w19 hw) (w20 hw) rfl (by decide) rfl (by decide) ?_
  refine Runs.iloadN i3_4 rfl ?_
  refine Runs.ifN i3_5 (teq (by decide : (0 : Int32) = (0 : Int32))).2 ?_
  refine Runs.aloadN i3_8 rfl rfl ?_
  refine Runs.ldcT (vs := []) (z := (0 : Int32)) (n := 0) i3_9 (hw _ (List.mem_of_getElem? (i := 21) rfl)) (own_sa hw) (own_EW hw) (List.mem_of_getElem? (i := 0) rfl) ⟨by decide, by decide⟩ (by decide) (by decide) (by decide) (by decide) (by decide) (by decide) ?_
  intro h_1 s_2 t_3 k_4 K_5 O_6 A_7 dd_8
  show Runs true l Z [("java/lang/String", 7)] n0 _ _ _ _ _ _ _ [a] h_1 2 4 11 #[.val (.ref a), .val (.ref u), .val (.int (0 : Int32)), .val (.int (0 : Int32)), .val .null, .unset] [(.ref s_2), (.ref a)]
  refine Runs.getF i3_11 (host := "") (Or.inl (w27 hw)) Via.refl (O_6.fld (i := 0) rfl) ?_
  have O_9 := (O0.keep K_5 nin0)
  refine Runs.putF (i := 0) (ty := (.array .byte)) i3_14 (host := "") (Or.inl (w27 hw)) Via.refl O_9 rfl (lay_0 hw) rfl (Or.inr ⟨(w23 hw), rfl, rfl⟩) (w8 hw) (by decide) rfl rfl ga (Or.inl (List.mem_of_getElem? (i := 0) rfl)) ?_
  intro h_10 K_11 (O_12 : Obj Z h_10 a "java/lang/String" [("java/lang/String", "value", "[B", (.ref t_3)), ("java/lang/String", "coder", "B", (.int (0 : Int32)))])
  refine Runs.aloadN i3_17 rfl rfl ?_
  refine Runs.ldcT (vs := []) (z := (0 : Int32)) (n := 0) i3_18 (hw _ (List.mem_of_getElem? (i := 21) rfl)) (own_sa hw) (own_EW hw) (List.mem_of_getElem? (i := 0) rfl) ⟨by decide, by decide⟩ (by decide) (by decide) (by decide) (by decide) (by decide) (by decide) ?_
  intro h_13 s_14 t_15 k_16 K_17 O_18 A_19 dd_20
  show Runs true l Z [("java/lang/String", 7)] n0 _ _ _ _ _ _ _ [a] h_13 4 8 20 #[.val (.ref a), .val (.ref u), .val (.int (0 : Int32)), .val (.int (0 : Int32)), .val .null, .unset] [(.ref s_14), (.ref a)]
  refine Runs.getF i3_20 (host := "") (Or.inl (w28 hw)) Via.refl (O_18.fld (i := 1) rfl) ?_
  have O_21 := (O_12.keep K_17 nin0)
  refine Runs.putF (i := 1) (ty := .byte) i3_23 (host := "") (Or.inl (w28 hw)) Via.refl O_21 rfl (lay_0 hw) rfl (Or.inr ⟨(w24 hw), rfl, rfl⟩) (w8 hw) (by decide) rfl rfl ga (Or.inl (List.mem_of_getElem? (i := 0) rfl)) ?_
  intro h_22 K_23 (O_24 : Obj Z h_22 a "java/lang/String" [("java/lang/String", "value", "[B", (.ref t_3)), ("java/lang/String", "coder", "B", (.int (0 : Int32)))])
  have A_25 := (((A_7.keep K_11 (ninS (Ne.symm (dd_8 _ (List.mem_of_getElem? (i := 0) rfl)).2) nin0)).keep K_17 nin0).keep K_23 (ninS (Ne.symm (dd_8 _ (List.mem_of_getElem? (i := 0) rfl)).2) nin0))
  refine Runs.weak (D1 := []) (fun _ q => nomatch q) ?_
  exact Runs.retV i3_26 rfl (by decide) (by decide) ⟨rfl, t_3, k_4, (((((Keep.refl _ _).trans K_5 all0).trans K_11 (allS (Or.inl (List.mem_of_getElem? (i := 0) rfl)) all0)).trans K_17 all0).trans K_23 (allS (Or.inl (List.mem_of_getElem? (i := 0) rfl)) all0)), O_24, A_25, rfl⟩
set_option maxRecDepth 65536 in
set_option maxHeartbeats 4000000 in
theorem own_si_0 (l : Launch) (Z : State) (a0 : Array Value) (hw : Wds Z a0) (n0 : Nat) (a u : Addr) (ku : ClassId) (h0 : Heap) (ga : n0 ≤ a) (O0 : Obj Z h0 a "java/lang/String" [("java/lang/String", "value", "[B", .null), ("java/lang/String", "coder", "B", (.int (0 : Int32)))]) (U0 : Arv Z h0 u ku .char (0 : Int32) [] (.int 0)) : Con true l Z [("java/lang/String", 7)] n0 (⟨"java/lang/String", "<init>", "([C)V"⟩ : MethodName) jdk_42_method_3_code 2 none ({ frames := 2, cells := 4, slots := 8, locals := 29 } : Room) #[(.ref a), (.ref u)] [a] h0 (fun v h D' => v = none ∧ ∃ t k, Keep h0 h [a] ∧ Obj Z h a "java/lang/String" [("java/lang/String", "value", "[B", (.ref t)), ("java/lang/String", "coder", "B", (.int (0 : Int32)))] ∧ Arv Z h t k .byte (0 : Int32) [] (.int 0) ∧ D' = []) := by
  refine Con.of_runs (ls := #[.val (.ref a), .val (.ref u)]) (by decide +kernel) (fun m => rfl) ?_
  refine Runs.aloadN i2_0 rfl rfl ?_
  refine Runs.aloadN i2_1 rfl rfl ?_
  refine Runs.iconst (v := (0 : Int32)) i2_2 (by decide) ?_
  refine Runs.aloadN i2_3 rfl rfl ?_
  refine Runs.arrlen i2_4 U0 ?_
  refine Runs.aconstNull i2_5 ?_
  refine Runs.callCW (argsL := [(.ref u), (.int (0 : Int32)), (.int (0 : Int32)), .null]) (rest := []) (W := 0) i2_6 rfl (w14 hw) (w15 hw) (w17 hw) (w9 hw) (by decide) pd_0 rfl rfl rfl rfl (by decide) (by decide) (by decide) (by decide) (allS (List.mem_of_getElem? (i := 0) rfl) all0) (own_si4_0 l Z a0 hw n0 a u _ ga O0) ?_
  intro v h_6 D1 q hsz
  obtain ⟨rfl, t_1, k_2, K_3, O_4, A_5, rfl⟩ := q
  show Runs true l Z [("java/lang/String", 7)] n0 _ _ _ _ _ _ _ [a] h_6 4 8 9 #[.val (.ref a), .val (.ref u)] []
  refine Runs.weak (D1 := []) (fun _ q => nomatch q) ?_
  exact Runs.retV i2_9 rfl (by decide) (by decide) ⟨rfl, t_1, k_2, K_3, O_4, A_5, rfl⟩
set_option maxRecDepth 65536 in
set_option maxHeartbeats 4000000 in
theorem own_cpI1 (l : Launch) (Z : State) (a0 : Array Value) (hw : Wds Z a0) (n0 : Nat) (c0 : Int32) (hc0 : ¬ c0 < 0 ∧ ¬ (255 : Int32) < c0) (u t : Addr) (ku kt : ClassId) (hut : u ≠ t) (gt : n0 ≤ t) (h0 : Heap) (U0 : Arv Z h0 u ku .char (1 : Int32) [(.int c0)] (.int 0)) (T0 : Arv Z h0 t kt .byte (1 : Int32) [(.int (0 : Int32))] (.int 0)) : Con true l Z [("java/lang/String", 7)] n0 (⟨"java/lang/StringUTF16", "compress", "([CI[BII)I"⟩ : MethodName) jdk_52_method_21_code 7 (some .int) ({ frames := 0, cells := 0, slots := 0, locals := 0 } : Room) #[(.ref u), (.int (0 : Int32)), (.ref t), (.int (0 : Int32)), (.int (1 : Int32))] [t] h0 (fun v h D' => v = some (.int (1 : Int32)) ∧ Keep h0 h [t] ∧ Arv Z h t kt .byte (1 : Int32) [(.int ((Int32.toInt8 c0).toInt32))] (.int 0) ∧ D' = []) := by
  refine Con.of_runs (ls := #[.val (.ref u), .val (.int (0 : Int32)), .val (.ref t), .val (.int (0 : Int32)), .val (.int (1 : Int32)), .unset, .unset]) (by decide +kernel) (fun m => rfl) ?_
  refine Runs.iconst (v := (0 : Int32)) i6_0 (by decide) ?_
  refine Runs.istore (ls' := #[.val (.ref u), .val (.int (0 : Int32)), .val (.ref t), .val (.int (0 : Int32)), .val (.int (1 : Int32)), .val (.int (0 : Int32)), .unset]) i6_1 rfl ?_
  refine Runs.iload i6_3 rfl ?_
  refine Runs.iload i6_5 rfl ?_
  refine Runs.icN i6_7 (tlt (by decide : (0 : Int32) < (1 : Int32))).2.1 ?_
  refine Runs.aloadN i6_10 rfl rfl ?_
  refine Runs.iloadN i6_11 rfl ?_
  refine Runs.caload (v := (.int c0)) i6_12 U0 ⟨by decide, by decide⟩ rfl ?_
  refine Runs.istore (ls' := #[.val (.ref u), .val (.int (0 : Int32)), .val (.ref t), .val (.int (0 : Int32)), .val (.int (1 : Int32)), .val (.int (0 : Int32)), .val (.int c0)]) i6_13 rfl ?_
  refine Runs.iload i6_15 rfl ?_
  refine Runs.sipush (v := (255 : Int32)) i6_17 (by decide) ?_
  refine Runs.icY (t := 26) i6_20 (by decide) (flt hc0.2).2.2.2 ?_
  refine Runs.aloadN i6_26 rfl rfl ?_
  refine Runs.iloadN i6_27 rfl ?_
  refine Runs.iload i6_28 rfl ?_
  obtain ⟨x_1, hx_1⟩ : ∃ z : Int32, (Int32.toInt8 c0).toInt32 = z := ⟨_, rfl⟩
  refine Runs.i2b i6_30 hx_1 ?_
  refine Runs.bastore (i := 0) (y := ((Int32.toInt8 c0).toInt32)) i6_31 T0 ⟨by decide, by decide⟩ (by decide) (Nat.le_of_ble_eq_true rfl) (by rw [← hx_1]; exact own_bb _) gt (Or.inl (List.mem_of_getElem? (i := 0) rfl)) ?_
  intro h_2 K_3 (A_4 : Arv Z h_2 t kt .byte (1 : Int32) [(.int ((Int32.toInt8 c0).toInt32))] (.int 0))
  refine Runs.iinc (z := (1 : Int32)) (ls' := #[.val (.ref u), .val (.int (1 : Int32)), .val (.ref t), .val (.int (0 : Int32)), .val (.int (1 : Int32)), .val (.int (0 : Int32)), .val (.int c0)]) i6_32 rfl (by decide) rfl ?_
  refine Runs.iinc (z := (1 : Int32)) (ls' := #[.val (.ref u), .val (.int (1 : Int32)), .val (.ref t), .val (.int (1 : Int32)), .val (.int (1 : Int32)), .val (.int (0 : Int32)), .val (.int c0)]) i6_35 rfl (by decide) rfl ?_
  refine Runs.iinc (z := (1 : Int32)) (ls' := #[.val (.ref u), .val (.int (1 : Int32)), .val (.ref t), .val (.int (1 : Int32)), .val (.int (1 : Int32)), .val (.int (1 : Int32)), .val (.int c0)]) i6_38 rfl (by decide) rfl ?_
  refine Runs.goto (t := 3) i6_41 (by decide) ?_
  refine Runs.iload i6_3 rfl ?_
  refine Runs.iload i6_5 rfl ?_
  refine Runs.icY (t := 44) i6_7 (by decide) (flt (by decide : ¬ ((1 : Int32) < (1 : Int32)))).2.1 ?_
  refine Runs.iload i6_44 rfl ?_
  refine Runs.weak (D1 := []) (fun _ q => nomatch q) ?_
  exact Runs.retI (z := (1 : Int32)) i6_46 rfl (Or.inl rfl) rfl (by decide) (by decide) ⟨rfl, ((Keep.refl _ _).trans K_3 (allS (Or.inl (List.mem_of_getElem? (i := 0) rfl)) all0)), A_4, rfl⟩
set_option maxRecDepth 65536 in
set_option maxHeartbeats 4000000 in
theorem own_cp1 (l : Launch) (Z : State) (a0 : Array Value) (hw : Wds Z a0) (n0 : Nat) (c0 : Int32) (hc0 : ¬ c0 < 0 ∧ ¬ (255 : Int32) < c0) (u : Addr) (ku : ClassId) (h0 : Heap) (U0 : Arv Z h0 u ku .char (1 : Int32) [(.int c0)] (.int 0)) : Con true l Z [("java/lang/String", 7)] n0 (⟨"java/lang/StringUTF16", "compress", "([CII)[B"⟩ : MethodName) jdk_52_method_16_code 6 (some (.array .byte)) ({ frames := 1, cells := 1, slots := 1, locals := 18 } : Room) #[(.ref u), (.int (0 : Int32)), (.int (1 : Int32))] [] h0 (fun v h D' => ∃ b k, v = some (.ref b) ∧ h0.size ≤ b ∧ Keep h0 h [] ∧ Arv Z h b k .byte (1 : Int32) [(.int ((Int32.toInt8 c0).toInt32))] (.int 0) ∧ D' = [b]) := by
  refine Con.of_runs (ls := #[.val (.ref u), .val (.int (0 : Int32)), .val (.int (1 : Int32)), .unset, .unset, .unset]) (by decide +kernel) (fun m => rfl) ?_
  refine Runs.iloadN i5_0 rfl ?_
  refine Runs.newP (cap := 1) (ad := "[B") i5_1 (w22 hw) (by decide) (by decide) (by decide) (by decide) (by decide) rfl ?_
  intro h_1 b_2 k_3 g_6 ge_7 K_4 (A_5 : Arv Z h_1 b_2 k_3 .byte (1 : Int32) [] (.int (0 : Int32))) E_8
  have A_9 : Arv Z h_1 b_2 k_3 .byte (1 : Int32) [(.int (0 : Int32))] (.int (0 : Int32)) := A_5.pad (pad_rep [] (.int (0 : Int32)) 1)
  refine Runs.astoreN (ls' := #[.val (.ref u), .val (.int (0 : Int32)), .val (.int (1 : Int32)), .val (.ref b_2), .unset, .unset]) i5_3 rfl rfl ?_
  refine Runs.aloadN i5_4 rfl rfl ?_
  refine Runs.iloadN i5_5 rfl ?_
  refine Runs.aloadN i5_6 rfl rfl ?_
  refine Runs.iconst (v := (0 : Int32)) i5_7 (by decide) ?_
  refine Runs.iloadN i5_8 rfl ?_
  have A_10 := (U0.keep K_4 nin0)
  refine Runs.callSW (argsL := [(.ref u), (.int (0 : Int32)), (.ref b_2), (.int (0 : Int32)), (.int (1 : Int32))]) (rest := []) (W := 0) i5_9 (w34 hw) (w35 hw) (w32 hw) (w36 hw) (by decide) pd_1 rfl rfl rfl rfl (by decide) (by decide) (by decide) (by decide) (allS (List.mem_of_getElem? (i := 0) rfl) all0) (own_cpI1 l Z a0 hw n0 c0 hc0 u b_2 ku k_3 (Nat.ne_of_lt (Nat.lt_of_lt_of_le (Nat.lt_of_lt_of_le U0.lt (Nat.le_refl _)) g_6)) ge_7 _ A_10 A_9) ?_
  intro v h_13 D1 q hsz
  obtain ⟨rfl, K_11, A_12, rfl⟩ := q
  show Runs true l Z [("java/lang/String", 7)] n0 _ _ _ _ _ _ _ [b_2] h_13 1 1 12 #[.val (.ref u), .val (.int (0 : Int32)), .val (.int (1 : Int32)), .val (.ref b_2), .unset, .unset] [(.int (1 : Int32))]
  refine Runs.istore (ls' := #[.val (.ref u), .val (.int (0 : Int32)), .val (.int (1 : Int32)), .val (.ref b_2), .val (.int (1 : Int32)), .unset]) i5_12 rfl ?_
  refine Runs.iload i5_14 rfl ?_
  refine Runs.iloadN i5_16 rfl ?_
  refine Runs.icY (t := 57) i5_17 (by decide) (teq (by decide : (1 : Int32) = (1 : Int32))).1 ?_
  refine Runs.aloadN i5_57 rfl rfl ?_
  exact Runs.retA i5_58 rfl rfl rfl (by decide) (by decide) ⟨b_2, k_3, rfl, g_6, (((Keep.refl _ _).trans K_4 all0).trans K_11 (allS (Or.inr (Nat.le_trans (Nat.le_refl _) g_6)) all0)), A_12, rfl⟩
set_option maxRecDepth 65536 in
set_option maxHeartbeats 4000000 in
theorem own_cdl1_1 (l : Launch) (Z : State) (a0 : Array Value) (hw : Wds Z a0) (n0 : Nat) (t : Addr) (kt : ClassId) (vs : List Value) (d : Value) (h0 : Heap) (T0 : Arv Z h0 t kt .byte (1 : Int32) vs d) : Con true l Z [("java/lang/String", 7)] n0 (⟨"java/lang/StringUTF16", "coderFromArrayLen", "([BI)B"⟩ : MethodName) jdk_52_method_15_code 2 (some .byte) ({ frames := 0, cells := 0, slots := 0, locals := 0 } : Room) #[(.ref t), (.int (1 : Int32))] [] h0 (fun v h D' => v = some (.int (0 : Int32)) ∧ h0 = h ∧ D' = []) := by
  refine Con.of_runs (ls := #[.val (.ref t), .val (.int (1 : Int32))]) (by decide +kernel) (fun m => rfl) ?_
  refine Runs.iloadN i7_0 rfl ?_
  refine Runs.aloadN i7_1 rfl rfl ?_
  refine Runs.arrlen i7_2 T0 ?_
  refine Runs.isub (z := (0 : Int32)) i7_3 (by decide) ?_
  refine Runs.bipush (v := (31 : Int32)) i7_4 (by decide) ?_
  refine Runs.iushr (z := (0 : Int32)) i7_6 (by decide) ?_
  refine Runs.i2b (z := (0 : Int32)) i7_7 (by decide) ?_
  exact Runs.retI (z := (0 : Int32)) i7_8 rfl (Or.inr (Or.inr (Or.inl rfl))) (by decide) (by decide) (by decide) ⟨rfl, rfl, rfl⟩
set_option maxRecDepth 65536 in
set_option maxHeartbeats 4000000 in
theorem own_si4_1 (l : Launch) (Z : State) (a0 : Array Value) (hw : Wds Z a0) (n0 : Nat) (c0 : Int32) (hc0 : ¬ c0 < 0 ∧ ¬ (255 : Int32) < c0) (a u : Addr) (ku : ClassId) (hua : u ≠ a) (cpt : Int32) (h0 : Heap) (ga : n0 ≤ a) (O0 : Obj Z h0 a "java/lang/String" [("java/lang/String", "value", "[B", .null), ("java/lang/String", "coder", "B", (.int (0 : Int32)))]) (U0 : Arv Z h0 u ku .char (1 : Int32) [(.int c0)] (.int 0)) (S_C : Sta Z Z.heap "java/lang/String" "COMPACT_STRINGS" "Z" (.int cpt)) (hcpt : ¬ cpt = 0) : Con true l Z [("java/lang/String", 7)] n0 (⟨"java/lang/String", "<init>", "([CIILjava/lang/Void;)V"⟩ : MethodName) jdk_42_method_149_code 6 none ({ frames := 2, cells := 1, slots := 1, locals := 36 } : Room) #[(.ref a), (.ref u), (.int (0 : Int32)), (.int (1 : Int32)), .null] [a] h0 (fun v h D' => v = none ∧ ∃ t k, h0.size ≤ t ∧ Keep h0 h [a] ∧ Obj Z h a "java/lang/String" [("java/lang/String", "value", "[B", (.ref t)), ("java/lang/String", "coder", "B", (.int (0 : Int32)))] ∧ Arv Z h t k .byte (1 : Int32) [(.int ((Int32.toInt8 c0).toInt32))] (.int 0) ∧ D' = []) := by
  refine Con.of_runs (ls := #[.val (.ref a), .val (.ref u), .val (.int (0 : Int32)), .val (.int (1 : Int32)), .val .null, .unset]) (by decide +kernel) (fun m => rfl) ?_
  refine Runs.aloadN i3_0 rfl rfl ?_
  refine Runs.initO (W := 0) i3_1 (w18 hw) (w19 hw) (w20 hw) rfl (by decide) rfl (by decide) ?_
  refine Runs.iloadN i3_4 rfl ?_
  refine Runs.ifY (t := 27) i3_5 (by decide) (feq (by decide : ¬ ((1 : Int32) = (0 : Int32)))).2 ?_
  refine Runs.getS i3_27 (w29 hw) Via.refl S_C ?_
  refine Runs.ifN i3_30 (feq hcpt).1 ?_
  refine Runs.aloadN i3_33 rfl rfl ?_
  refine Runs.iloadN i3_34 rfl ?_
  refine Runs.iloadN i3_35 rfl ?_
  refine Runs.callSW (argsL := [(.ref u), (.int (0 : Int32)), (.int (1 : Int32))]) (rest := []) (W := 0) i3_36 (w30 hw) (w31 hw) (w32 hw) (w33 hw) (by decide) pd_2 rfl rfl rfl rfl (by decide) (by decide) (by decide) (by decide) all0 (own_cp1 l Z a0 hw n0 c0 hc0 u ku _ U0) ?_
  intro v h_6 D1 q hsz
  obtain ⟨b_1, k_2, rfl, g_3, K_4, A_5, rfl⟩ := q
  show Runs true l Z [("java/lang/String", 7)] n0 _ _ _ _ _ _ _ [b_1, a] h_6 1 1 39 #[.val (.ref a), .val (.ref u), .val (.int (0 : Int32)), .val (.int (1 : Int32)), .val .null, .unset] [(.ref b_1)]
  refine Runs.astore (ls' := #[.val (.ref a), .val (.ref u), .val (.int (0 : Int32)), .val (.int (1 : Int32)), .val .null, .val (.ref b_1)]) i3_39 rfl rfl ?_
  refine Runs.aloadN i3_41 rfl rfl ?_
  refine Runs.aload i3_42 rfl rfl ?_
  refine Runs.iloadN i3_44 rfl ?_
  refine Runs.callSW (argsL := [(.ref b_1), (.int (1 : Int32))]) (rest := [(.ref a)]) (W := 1) i3_45 (w37 hw) (w38 hw) (w32 hw) (w39 hw) (by decide) pd_3 rfl rfl rfl rfl (by decide) (by decide) (by decide) (by decide) all0 (own_cdl1_1 l Z a0 hw n0 b_1 _ _ _ _ A_5) ?_
  intro v h1 D1 q hsz
  obtain ⟨rfl, rfl, rfl⟩ := q
  show Runs true l Z [("java/lang/String", 7)] n0 _ _ _ _ _ _ _ [b_1, a] h_6 1 1 48 #[.val (.ref a), .val (.ref u), .val (.int (0 : Int32)), .val (.int (1 : Int32)), .val .null, .val (.ref b_1)] [(.int (0 : Int32)), (.ref a)]
  have O_7 := (O0.keep K_4 nin0)
  refine Runs.putF (i := 1) (ty := .byte) i3_48 (host := "") (Or.inl (w28 hw)) Via.refl O_7 rfl (lay_0 hw) rfl (Or.inr ⟨(w24 hw), rfl, rfl⟩) (w8 hw) (by decide) rfl rfl ga (Or.inl (List.mem_of_getElem? (i := 1) rfl)) ?_
  intro h_8 K_9 (O_10 : Obj Z h_8 a "java/lang/String" [("java/lang/String", "value", "[B", .null), ("java/lang/String", "coder", "B", (.int (0 : Int32)))])
  refine Runs.aloadN i3_51 rfl rfl ?_
  refine Runs.aload i3_52 rfl rfl ?_
  refine Runs.putF (i := 0) (ty := (.array .byte)) i3_54 (host := "") (Or.inl (w27 hw)) Via.refl O_10 rfl (lay_0 hw) rfl (Or.inr ⟨(w23 hw), rfl, rfl⟩) (w8 hw) (by decide) rfl rfl ga (Or.inl (List.mem_of_getElem? (i := 1) rfl)) ?_
  intro h_11 K_12 (O_13 : Obj Z h_11 a "java/lang/String" [("java/lang/String", "value", "[B", (.ref b_1)), ("java/lang/String", "coder", "B", (.int (0 : Int32)))])
  have A_14 := ((A_5.keep K_9 (ninS (Nat.ne_of_gt (Nat.lt_of_lt_of_le (Nat.lt_of_lt_of_le O0.lt (Nat.le_refl _)) g_3)) nin0)).keep K_12 (ninS (Nat.ne_of_gt (Nat.lt_of_lt_of_le (Nat.lt_of_lt_of_le O0.lt (Nat.le_refl _)) g_3)) nin0))
  refine Runs.weak (D1 := []) (fun _ q => nomatch q) ?_
  exact Runs.retV i3_57 rfl (by decide) (by decide) ⟨rfl, b_1, k_2, (Nat.le_trans (Nat.le_refl _) g_3), ((((Keep.refl _ _).trans K_4 all0).trans K_9 (allS (Or.inl (List.mem_of_getElem? (i := 0) rfl)) all0)).trans K_12 (allS (Or.inl (List.mem_of_getElem? (i := 0) rfl)) all0)), O_13, A_14, rfl⟩
set_option maxRecDepth 65536 in
set_option maxHeartbeats 4000000 in
theorem own_si_1 (l : Launch) (Z : State) (a0 : Array Value) (hw : Wds Z a0) (n0 : Nat) (c0 : Int32) (hc0 : ¬ c0 < 0 ∧ ¬ (255 : Int32) < c0) (a u : Addr) (ku : ClassId) (hua : u ≠ a) (cpt : Int32) (h0 : Heap) (ga : n0 ≤ a) (O0 : Obj Z h0 a "java/lang/String" [("java/lang/String", "value", "[B", .null), ("java/lang/String", "coder", "B", (.int (0 : Int32)))]) (U0 : Arv Z h0 u ku .char (1 : Int32) [(.int c0)] (.int 0)) (S_C : Sta Z Z.heap "java/lang/String" "COMPACT_STRINGS" "Z" (.int cpt)) (hcpt : ¬ cpt = 0) : Con true l Z [("java/lang/String", 7)] n0 (⟨"java/lang/String", "<init>", "([C)V"⟩ : MethodName) jdk_42_method_3_code 2 none ({ frames := 3, cells := 1, slots := 1, locals := 53 } : Room) #[(.ref a), (.ref u)] [a] h0 (fun v h D' => v = none ∧ ∃ t k, h0.size ≤ t ∧ Keep h0 h [a] ∧ Obj Z h a "java/lang/String" [("java/lang/String", "value", "[B", (.ref t)), ("java/lang/String", "coder", "B", (.int (0 : Int32)))] ∧ Arv Z h t k .byte (1 : Int32) [(.int ((Int32.toInt8 c0).toInt32))] (.int 0) ∧ D' = []) := by
  refine Con.of_runs (ls := #[.val (.ref a), .val (.ref u)]) (by decide +kernel) (fun m => rfl) ?_
  refine Runs.aloadN i2_0 rfl rfl ?_
  refine Runs.aloadN i2_1 rfl rfl ?_
  refine Runs.iconst (v := (0 : Int32)) i2_2 (by decide) ?_
  refine Runs.aloadN i2_3 rfl rfl ?_
  refine Runs.arrlen i2_4 U0 ?_
  refine Runs.aconstNull i2_5 ?_
  refine Runs.callCW (argsL := [(.ref u), (.int (0 : Int32)), (.int (1 : Int32)), .null]) (rest := []) (W := 0) i2_6 rfl (w14 hw) (w15 hw) (w17 hw) (w9 hw) (by decide) pd_0 rfl rfl rfl rfl (by decide) (by decide) (by decide) (by decide) (allS (List.mem_of_getElem? (i := 0) rfl) all0) (own_si4_1 l Z a0 hw n0 c0 hc0 a u ku hua cpt _ ga O0 U0 S_C hcpt) ?_
  intro v h_7 D1 q hsz
  obtain ⟨rfl, t_1, k_2, g_3, K_4, O_5, A_6, rfl⟩ := q
  show Runs true l Z [("java/lang/String", 7)] n0 _ _ _ _ _ _ _ [a] h_7 1 1 9 #[.val (.ref a), .val (.ref u)] []
  refine Runs.weak (D1 := []) (fun _ q => nomatch q) ?_
  exact Runs.retV i2_9 rfl (by decide) (by decide) ⟨rfl, t_1, k_2, g_3, K_4, O_5, A_6, rfl⟩
set_option maxRecDepth 65536 in
set_option maxHeartbeats 4000000 in
theorem own_cpI2 (l : Launch) (Z : State) (a0 : Array Value) (hw : Wds Z a0) (n0 : Nat) (c0 : Int32) (hc0 : ¬ c0 < 0 ∧ ¬ (255 : Int32) < c0) (c1 : Int32) (hc1 : ¬ c1 < 0 ∧ ¬ (255 : Int32) < c1) (u t : Addr) (ku kt : ClassId) (hut : u ≠ t) (gt : n0 ≤ t) (h0 : Heap) (U0 : Arv Z h0 u ku .char (2 : Int32) [(.int c0), (.int c1)] (.int 0)) (T0 : Arv Z h0 t kt .byte (2 : Int32) [(.int (0 : Int32)), (.int (0 : Int32))] (.int 0)) : Con true l Z [("java/lang/String", 7)] n0 (⟨"java/lang/StringUTF16", "compress", "([CI[BII)I"⟩ : MethodName) jdk_52_method_21_code 7 (some .int) ({ frames := 0, cells := 0, slots := 0, locals := 0 } : Room) #[(.ref u), (.int (0 : Int32)), (.ref t), (.int (0 : Int32)), (.int (2 : Int32))] [t] h0 (fun v h D' => v = some (.int (2 : Int32)) ∧ Keep h0 h [t] ∧ Arv Z h t kt .byte (2 : Int32) [(.int ((Int32.toInt8 c0).toInt32)), (.int ((Int32.toInt8 c1).toInt32))] (.int 0) ∧ D' = []) := by
  refine Con.of_runs (ls := #[.val (.ref u), .val (.int (0 : Int32)), .val (.ref t), .val (.int (0 : Int32)), .val (.int (2 : Int32)), .unset, .unset]) (by decide +kernel) (fun m => rfl) ?_
  refine Runs.iconst (v := (0 : Int32)) i6_0 (by decide) ?_
  refine Runs.istore (ls' := #[.val (.ref u), .val (.int (0 : Int32)), .val (.ref t), .val (.int (0 : Int32)), .val (.int (2 : Int32)), .val (.int (0 : Int32)), .unset]) i6_1 rfl ?_
  refine Runs.iload i6_3 rfl ?_
  refine Runs.iload i6_5 rfl ?_
  refine Runs.icN i6_7 (tlt (by decide : (0 : Int32) < (2 : Int32))).2.1 ?_
  refine Runs.aloadN i6_10 rfl rfl ?_
  refine Runs.iloadN i6_11 rfl ?_
  refine Runs.caload (v := (.int c0)) i6_12 U0 ⟨by decide, by decide⟩ rfl ?_
  refine Runs.istore (ls' := #[.val (.ref u), .val (.int (0 : Int32)), .val (.ref t), .val (.int (0 : Int32)), .val (.int (2 : Int32)), .val (.int (0 : Int32)), .val (.int c0)]) i6_13 rfl ?_
  refine Runs.iload i6_15 rfl ?_
  refine Runs.sipush (v := (255 : Int32)) i6_17 (by decide) ?_
  refine Runs.icY (t := 26) i6_20 (by decide) (flt hc0.2).2.2.2 ?_
  refine Runs.aloadN i6_26 rfl rfl ?_
  refine Runs.iloadN i6_27 rfl ?_
  refine Runs.iload i6_28 rfl ?_
  obtain ⟨x_1, hx_1⟩ : ∃ z : Int32, (Int32.toInt8 c0).toInt32 = z := ⟨_, rfl⟩
  refine Runs.i2b i6_30 hx_1 ?_
  refine Runs.bastore (i := 0) (y := ((Int32.toInt8 c0).toInt32)) i6_31 T0 ⟨by decide, by decide⟩ (by decide) (Nat.le_of_ble_eq_true rfl) (by rw [← hx_1]; exact own_bb _) gt (Or.inl (List.mem_of_getElem? (i := 0) rfl)) ?_
  intro h_2 K_3 (A_4 : Arv Z h_2 t kt .byte (2 : Int32) [(.int ((Int32.toInt8 c0).toInt32)), (.int (0 : Int32))] (.int 0))
  refine Runs.iinc (z := (1 : Int32)) (ls' := #[.val (.ref u), .val (.int (1 : Int32)), .val (.ref t), .val (.int (0 : Int32)), .val (.int (2 : Int32)), .val (.int (0 : Int32)), .val (.int c0)]) i6_32 rfl (by decide) rfl ?_
  refine Runs.iinc (z := (1 : Int32)) (ls' := #[.val (.ref u), .val (.int (1 : Int32)), .val (.ref t), .val (.int (1 : Int32)), .val (.int (2 : Int32)), .val (.int (0 : Int32)), .val (.int c0)]) i6_35 rfl (by decide) rfl ?_
  refine Runs.iinc (z := (1 : Int32)) (ls' := #[.val (.ref u), .val (.int (1 : Int32)), .val (.ref t), .val (.int (1 : Int32)), .val (.int (2 : Int32)), .val (.int (1 : Int32)), .val (.int c0)]) i6_38 rfl (by decide) rfl ?_
  refine Runs.goto (t := 3) i6_41 (by decide) ?_
  refine Runs.iload i6_3 rfl ?_
  refine Runs.iload i6_5 rfl ?_
  refine Runs.icN i6_7 (tlt (by decide : (1 : Int32) < (2 : Int32))).2.1 ?_
  refine Runs.aloadN i6_10 rfl rfl ?_
  refine Runs.iloadN i6_11 rfl ?_
  have A_5 := (U0.keep K_3 (ninS hut nin0))
  refine Runs.caload (v := (.int c1)) i6_12 A_5 ⟨by decide, by decide⟩ rfl ?_
  refine Runs.istore (ls' := #[.val (.ref u), .val (.int (1 : Int32)), .val (.ref t), .val (.int (1 : Int32)), .val (.int (2 : Int32)), .val (.int (1 : Int32)), .val (.int c1)]) i6_13 rfl ?_
  refine Runs.iload i6_15 rfl ?_
  refine Runs.sipush (v := (255 : Int32)) i6_17 (by decide) ?_
  refine Runs.icY (t := 26) i6_20 (by decide) (flt hc1.2).2.2.2 ?_
  refine Runs.aloadN i6_26 rfl rfl ?_
  refine Runs.iloadN i6_27 rfl ?_
  refine Runs.iload i6_28 rfl ?_
  obtain ⟨x_6, hx_6⟩ : ∃ z : Int32, (Int32.toInt8 c1).toInt32 = z := ⟨_, rfl⟩
  refine Runs.i2b i6_30 hx_6 ?_
  refine Runs.bastore (i := 1) (y := ((Int32.toInt8 c1).toInt32)) i6_31 A_4 ⟨by decide, by decide⟩ (by decide) (Nat.le_of_ble_eq_true rfl) (by rw [← hx_6]; exact own_bb _) gt (Or.inl (List.mem_of_getElem? (i := 0) rfl)) ?_
  intro h_7 K_8 (A_9 : Arv Z h_7 t kt .byte (2 : Int32) [(.int ((Int32.toInt8 c0).toInt32)), (.int ((Int32.toInt8 c1).toInt32))] (.int 0))
  refine Runs.iinc (z := (2 : Int32)) (ls' := #[.val (.ref u), .val (.int (2 : Int32)), .val (.ref t), .val (.int (1 : Int32)), .val (.int (2 : Int32)), .val (.int (1 : Int32)), .val (.int c1)]) i6_32 rfl (by decide) rfl ?_
  refine Runs.iinc (z := (2 : Int32)) (ls' := #[.val (.ref u), .val (.int (2 : Int32)), .val (.ref t), .val (.int (2 : Int32)), .val (.int (2 : Int32)), .val (.int (1 : Int32)), .val (.int c1)]) i6_35 rfl (by decide) rfl ?_
  refine Runs.iinc (z := (2 : Int32)) (ls' := #[.val (.ref u), .val (.int (2 : Int32)), .val (.ref t), .val (.int (2 : Int32)), .val (.int (2 : Int32)), .val (.int (2 : Int32)), .val (.int c1)]) i6_38 rfl (by decide) rfl ?_
  refine Runs.goto (t := 3) i6_41 (by decide) ?_
  refine Runs.iload i6_3 rfl ?_
  refine Runs.iload i6_5 rfl ?_
  refine Runs.icY (t := 44) i6_7 (by decide) (flt (by decide : ¬ ((2 : Int32) < (2 : Int32)))).2.1 ?_
  refine Runs.iload i6_44 rfl ?_
  refine Runs.weak (D1 := []) (fun _ q => nomatch q) ?_
  exact Runs.retI (z := (2 : Int32)) i6_46 rfl (Or.inl rfl) rfl (by decide) (by decide) ⟨rfl, (((Keep.refl _ _).trans K_3 (allS (Or.inl (List.mem_of_getElem? (i := 0) rfl)) all0)).trans K_8 (allS (Or.inl (List.mem_of_getElem? (i := 0) rfl)) all0)), A_9, rfl⟩
set_option maxRecDepth 65536 in
set_option maxHeartbeats 4000000 in
theorem own_cp2 (l : Launch) (Z : State) (a0 : Array Value) (hw : Wds Z a0) (n0 : Nat) (c0 : Int32) (hc0 : ¬ c0 < 0 ∧ ¬ (255 : Int32) < c0) (c1 : Int32) (hc1 : ¬ c1 < 0 ∧ ¬ (255 : Int32) < c1) (u : Addr) (ku : ClassId) (h0 : Heap) (U0 : Arv Z h0 u ku .char (2 : Int32) [(.int c0), (.int c1)] (.int 0)) : Con true l Z [("java/lang/String", 7)] n0 (⟨"java/lang/StringUTF16", "compress", "([CII)[B"⟩ : MethodName) jdk_52_method_16_code 6 (some (.array .byte)) ({ frames := 1, cells := 1, slots := 2, locals := 18 } : Room) #[(.ref u), (.int (0 : Int32)), (.int (2 : Int32))] [] h0 (fun v h D' => ∃ b k, v = some (.ref b) ∧ h0.size ≤ b ∧ Keep h0 h [] ∧ Arv Z h b k .byte (2 : Int32) [(.int ((Int32.toInt8 c0).toInt32)), (.int ((Int32.toInt8 c1).toInt32))] (.int 0) ∧ D' = [b]) := by
  refine Con.of_runs (ls := #[.val (.ref u), .val (.int (0 : Int32)), .val (.int (2 : Int32)), .unset, .unset, .unset]) (by decide +kernel) (fun m => rfl) ?_
  refine Runs.iloadN i5_0 rfl ?_
  refine Runs.newP (cap := 2) (ad := "[B") i5_1 (w22 hw) (by decide) (by decide) (by decide) (by decide) (by decide) rfl ?_
  intro h_1 b_2 k_3 g_6 ge_7 K_4 (A_5 : Arv Z h_1 b_2 k_3 .byte (2 : Int32) [] (.int (0 : Int32))) E_8
  have A_9 : Arv Z h_1 b_2 k_3 .byte (2 : Int32) [(.int (0 : Int32)), (.int (0 : Int32))] (.int (0 : Int32)) := A_5.pad (pad_rep [] (.int (0 : Int32)) 2)
  refine Runs.astoreN (ls' := #[.val (.ref u), .val (.int (0 : Int32)), .val (.int (2 : Int32)), .val (.ref b_2), .unset, .unset]) i5_3 rfl rfl ?_
  refine Runs.aloadN i5_4 rfl rfl ?_
  refine Runs.iloadN i5_5 rfl ?_
  refine Runs.aloadN i5_6 rfl rfl ?_
  refine Runs.iconst (v := (0 : Int32)) i5_7 (by decide) ?_
  refine Runs.iloadN i5_8 rfl ?_
  have A_10 := (U0.keep K_4 nin0)
  refine Runs.callSW (argsL := [(.ref u), (.int (0 : Int32)), (.ref b_2), (.int (0 : Int32)), (.int (2 : Int32))]) (rest := []) (W := 0) i5_9 (w34 hw) (w35 hw) (w32 hw) (w36 hw) (by decide) pd_1 rfl rfl rfl rfl (by decide) (by decide) (by decide) (by decide) (allS (List.mem_of_getElem? (i := 0) rfl) all0) (own_cpI2 l Z a0 hw n0 c0 hc0 c1 hc1 u b_2 ku k_3 (Nat.ne_of_lt (Nat.lt_of_lt_of_le (Nat.lt_of_lt_of_le U0.lt (Nat.le_refl _)) g_6)) ge_7 _ A_10 A_9) ?_
  intro v h_13 D1 q hsz
  obtain ⟨rfl, K_11, A_12, rfl⟩ := q
  show Runs true l Z [("java/lang/String", 7)] n0 _ _ _ _ _ _ _ [b_2] h_13 1 2 12 #[.val (.ref u), .val (.int (0 : Int32)), .val (.int (2 : Int32)), .val (.ref b_2), .unset, .unset] [(.int (2 : Int32))]
  refine Runs.istore (ls' := #[.val (.ref u), .val (.int (0 : Int32)), .val (.int (2 : Int32)), .val (.ref b_2), .val (.int (2 : Int32)), .unset]) i5_12 rfl ?_
  refine Runs.iload i5_14 rfl ?_
  refine Runs.iloadN i5_16 rfl ?_
  refine Runs.icY (t := 57) i5_17 (by decide) (teq (by decide : (2 : Int32) = (2 : Int32))).1 ?_
  refine Runs.aloadN i5_57 rfl rfl ?_
  exact Runs.retA i5_58 rfl rfl rfl (by decide) (by decide) ⟨b_2, k_3, rfl, g_6, (((Keep.refl _ _).trans K_4 all0).trans K_11 (allS (Or.inr (Nat.le_trans (Nat.le_refl _) g_6)) all0)), A_12, rfl⟩
set_option maxRecDepth 65536 in
set_option maxHeartbeats 4000000 in
theorem own_cdl2_2 (l : Launch) (Z : State) (a0 : Array Value) (hw : Wds Z a0) (n0 : Nat) (t : Addr) (kt : ClassId) (vs : List Value) (d : Value) (h0 : Heap) (T0 : Arv Z h0 t kt .byte (2 : Int32) vs d) : Con true l Z [("java/lang/String", 7)] n0 (⟨"java/lang/StringUTF16", "coderFromArrayLen", "([BI)B"⟩ : MethodName) jdk_52_method_15_code 2 (some .byte) ({ frames := 0, cells := 0, slots := 0, locals := 0 } : Room) #[(.ref t), (.int (2 : Int32))] [] h0 (fun v h D' => v = some (.int (0 : Int32)) ∧ h0 = h ∧ D' = []) := by
  refine Con.of_runs (ls := #[.val (.ref t), .val (.int (2 : Int32))]) (by decide +kernel) (fun m => rfl) ?_
  refine Runs.iloadN i7_0 rfl ?_
  refine Runs.aloadN i7_1 rfl rfl ?_
  refine Runs.arrlen i7_2 T0 ?_
  refine Runs.isub (z := (0 : Int32)) i7_3 (by decide) ?_
  refine Runs.bipush (v := (31 : Int32)) i7_4 (by decide) ?_
  refine Runs.iushr (z := (0 : Int32)) i7_6 (by decide) ?_
  refine Runs.i2b (z := (0 : Int32)) i7_7 (by decide) ?_
  exact Runs.retI (z := (0 : Int32)) i7_8 rfl (Or.inr (Or.inr (Or.inl rfl))) (by decide) (by decide) (by decide) ⟨rfl, rfl, rfl⟩
set_option maxRecDepth 65536 in
set_option maxHeartbeats 4000000 in
theorem own_si4_2 (l : Launch) (Z : State) (a0 : Array Value) (hw : Wds Z a0) (n0 : Nat) (c0 : Int32) (hc0 : ¬ c0 < 0 ∧ ¬ (255 : Int32) < c0) (c1 : Int32) (hc1 : ¬ c1 < 0 ∧ ¬ (255 : Int32) < c1) (a u : Addr) (ku : ClassId) (hua : u ≠ a) (cpt : Int32) (h0 : Heap) (ga : n0 ≤ a) (O0 : Obj Z h0 a "java/lang/String" [("java/lang/String", "value", "[B", .null), ("java/lang/String", "coder", "B", (.int (0 : Int32)))]) (U0 : Arv Z h0 u ku .char (2 : Int32) [(.int c0), (.int c1)] (.int 0)) (S_C : Sta Z Z.heap "java/lang/String" "COMPACT_STRINGS" "Z" (.int cpt)) (hcpt : ¬ cpt = 0) : Con true l Z [("java/lang/String", 7)] n0 (⟨"java/lang/String", "<init>", "([CIILjava/lang/Void;)V"⟩ : MethodName) jdk_42_method_149_code 6 none ({ frames := 2, cells := 1, slots := 2, locals := 36 } : Room) #[(.ref a), (.ref u), (.int (0 : Int32)), (.int (2 : Int32)), .null] [a] h0 (fun v h D' => v = none ∧ ∃ t k, h0.size ≤ t ∧ Keep h0 h [a] ∧ Obj Z h a "java/lang/String" [("java/lang/String", "value", "[B", (.ref t)), ("java/lang/String", "coder", "B", (.int (0 : Int32)))] ∧ Arv Z h t k .byte (2 : Int32) [(.int ((Int32.toInt8 c0).toInt32)), (.int ((Int32.toInt8 c1).toInt32))] (.int 0) ∧ D' = []) := by
  refine Con.of_runs (ls := #[.val (.ref a), .val (.ref u), .val (.int (0 : Int32)), .val (.int (2 : Int32)), .val .null, .unset]) (by decide +kernel) (fun m => rfl) ?_
  refine Runs.aloadN i3_0 rfl rfl ?_
  refine Runs.initO (W := 0) i3_1 (w18 hw) (w19 hw) (w20 hw) rfl (by decide) rfl (by decide) ?_
  refine Runs.iloadN i3_4 rfl ?_
  refine Runs.ifY (t := 27) i3_5 (by decide) (feq (by decide : ¬ ((2 : Int32) = (0 : Int32)))).2 ?_
  refine Runs.getS i3_27 (w29 hw) Via.refl S_C ?_
  refine Runs.ifN i3_30 (feq hcpt).1 ?_
  refine Runs.aloadN i3_33 rfl rfl ?_
  refine Runs.iloadN i3_34 rfl ?_
  refine Runs.iloadN i3_35 rfl ?_
  refine Runs.callSW (argsL := [(.ref u), (.int (0 : Int32)), (.int (2 : Int32))]) (rest := []) (W := 0) i3_36 (w30 hw) (w31 hw) (w32 hw) (w33 hw) (by decide) pd_2 rfl rfl rfl rfl (by decide) (by decide) (by decide) (by decide) all0 (own_cp2 l Z a0 hw n0 c0 hc0 c1 hc1 u ku _ U0) ?_
  intro v h_6 D1 q hsz
  obtain ⟨b_1, k_2, rfl, g_3, K_4, A_5, rfl⟩ := q
  show Runs true l Z [("java/lang/String", 7)] n0 _ _ _ _ _ _ _ [b_1, a] h_6 1 2 39 #[.val (.ref a), .val (.ref u), .val (.int (0 : Int32)), .val (.int (2 : Int32)), .val .null, .unset] [(.ref b_1)]
  refine Runs.astore (ls' := #[.val (.ref a), .val (.ref u), .val (.int (0 : Int32)), .val (.int (2 : Int32)), .val .null, .val (.ref b_1)]) i3_39 rfl rfl ?_
  refine Runs.aloadN i3_41 rfl rfl ?_
  refine Runs.aload i3_42 rfl rfl ?_
  refine Runs.iloadN i3_44 rfl ?_
  refine Runs.callSW (argsL := [(.ref b_1), (.int (2 : Int32))]) (rest := [(.ref a)]) (W := 1) i3_45 (w37 hw) (w38 hw) (w32 hw) (w39 hw) (by decide) pd_3 rfl rfl rfl rfl (by decide) (by decide) (by decide) (by decide) all0 (own_cdl2_2 l Z a0 hw n0 b_1 _ _ _ _ A_5) ?_
  intro v h1 D1 q hsz
  obtain ⟨rfl, rfl, rfl⟩ := q
  show Runs true l Z [("java/lang/String", 7)] n0 _ _ _ _ _ _ _ [b_1, a] h_6 1 2 48 #[.val (.ref a), .val (.ref u), .val (.int (0 : Int32)), .val (.int (2 : Int32)), .val .null, .val (.ref b_1)] [(.int (0 : Int32)), (.ref a)]
  have O_7 := (O0.keep K_4 nin0)
  refine Runs.putF (i := 1) (ty := .byte) i3_48 (host := "") (Or.inl (w28 hw)) Via.refl O_7 rfl (lay_0 hw) rfl (Or.inr ⟨(w24 hw), rfl, rfl⟩) (w8 hw) (by decide) rfl rfl ga (Or.inl (List.mem_of_getElem? (i := 1) rfl)) ?_
  intro h_8 K_9 (O_10 : Obj Z h_8 a "java/lang/String" [("java/lang/String", "value", "[B", .null), ("java/lang/String", "coder", "B", (.int (0 : Int32)))])
  refine Runs.aloadN i3_51 rfl rfl ?_
  refine Runs.aload i3_52 rfl rfl ?_
  refine Runs.putF (i := 0) (ty := (.array .byte)) i3_54 (host := "") (Or.inl (w27 hw)) Via.refl O_10 rfl (lay_0 hw) rfl (Or.inr ⟨(w23 hw), rfl, rfl⟩) (w8 hw) (by decide) rfl rfl ga (Or.inl (List.mem_of_getElem? (i := 1) rfl)) ?_
  intro h_11 K_12 (O_13 : Obj Z h_11 a "java/lang/String" [("java/lang/String", "value", "[B", (.ref b_1)), ("java/lang/String", "coder", "B", (.int (0 : Int32)))])
  have A_14 := ((A_5.keep K_9 (ninS (Nat.ne_of_gt (Nat.lt_of_lt_of_le (Nat.lt_of_lt_of_le O0.lt (Nat.le_refl _)) g_3)) nin0)).keep K_12 (ninS (Nat.ne_of_gt (Nat.lt_of_lt_of_le (Nat.lt_of_lt_of_le O0.lt (Nat.le_refl _)) g_3)) nin0))
  refine Runs.weak (D1 := []) (fun _ q => nomatch q) ?_
  exact Runs.retV i3_57 rfl (by decide) (by decide) ⟨rfl, b_1, k_2, (Nat.le_trans (Nat.le_refl _) g_3), ((((Keep.refl _ _).trans K_4 all0).trans K_9 (allS (Or.inl (List.mem_of_getElem? (i := 0) rfl)) all0)).trans K_12 (allS (Or.inl (List.mem_of_getElem? (i := 0) rfl)) all0)), O_13, A_14, rfl⟩
set_option maxRecDepth 65536 in
set_option maxHeartbeats 4000000 in
theorem own_si_2 (l : Launch) (Z : State) (a0 : Array Value) (hw : Wds Z a0) (n0 : Nat) (c0 : Int32) (hc0 : ¬ c0 < 0 ∧ ¬ (255 : Int32) < c0) (c1 : Int32) (hc1 : ¬ c1 < 0 ∧ ¬ (255 : Int32) < c1) (a u : Addr) (ku : ClassId) (hua : u ≠ a) (cpt : Int32) (h0 : Heap) (ga : n0 ≤ a) (O0 : Obj Z h0 a "java/lang/String" [("java/lang/String", "value", "[B", .null), ("java/lang/String", "coder", "B", (.int (0 : Int32)))]) (U0 : Arv Z h0 u ku .char (2 : Int32) [(.int c0), (.int c1)] (.int 0)) (S_C : Sta Z Z.heap "java/lang/String" "COMPACT_STRINGS" "Z" (.int cpt)) (hcpt : ¬ cpt = 0) : Con true l Z [("java/lang/String", 7)] n0 (⟨"java/lang/String", "<init>", "([C)V"⟩ : MethodName) jdk_42_method_3_code 2 none ({ frames := 3, cells := 1, slots := 2, locals := 53 } : Room) #[(.ref a), (.ref u)] [a] h0 (fun v h D' => v = none ∧ ∃ t k, h0.size ≤ t ∧ Keep h0 h [a] ∧ Obj Z h a "java/lang/String" [("java/lang/String", "value", "[B", (.ref t)), ("java/lang/String", "coder", "B", (.int (0 : Int32)))] ∧ Arv Z h t k .byte (2 : Int32) [(.int ((Int32.toInt8 c0).toInt32)), (.int ((Int32.toInt8 c1).toInt32))] (.int 0) ∧ D' = []) := by
  refine Con.of_runs (ls := #[.val (.ref a), .val (.ref u)]) (by decide +kernel) (fun m => rfl) ?_
  refine Runs.aloadN i2_0 rfl rfl ?_
  refine Runs.aloadN i2_1 rfl rfl ?_
  refine Runs.iconst (v := (0 : Int32)) i2_2 (by decide) ?_
  refine Runs.aloadN i2_3 rfl rfl ?_
  refine Runs.arrlen i2_4 U0 ?_
  refine Runs.aconstNull i2_5 ?_
  refine Runs.callCW (argsL := [(.ref u), (.int (0 : Int32)), (.int (2 : Int32)), .null]) (rest := []) (W := 0) i2_6 rfl (w14 hw) (w15 hw) (w17 hw) (w9 hw) (by decide) pd_0 rfl rfl rfl rfl (by decide) (by decide) (by decide) (by decide) (allS (List.mem_of_getElem? (i := 0) rfl) all0) (own_si4_2 l Z a0 hw n0 c0 hc0 c1 hc1 a u ku hua cpt _ ga O0 U0 S_C hcpt) ?_
  intro v h_7 D1 q hsz
  obtain ⟨rfl, t_1, k_2, g_3, K_4, O_5, A_6, rfl⟩ := q
  show Runs true l Z [("java/lang/String", 7)] n0 _ _ _ _ _ _ _ [a] h_7 1 2 9 #[.val (.ref a), .val (.ref u)] []
  refine Runs.weak (D1 := []) (fun _ q => nomatch q) ?_
  exact Runs.retV i2_9 rfl (by decide) (by decide) ⟨rfl, t_1, k_2, g_3, K_4, O_5, A_6, rfl⟩
set_option maxRecDepth 65536 in
set_option maxHeartbeats 4000000 in
theorem own_cpI3 (l : Launch) (Z : State) (a0 : Array Value) (hw : Wds Z a0) (n0 : Nat) (c0 : Int32) (hc0 : ¬ c0 < 0 ∧ ¬ (255 : Int32) < c0) (c1 : Int32) (hc1 : ¬ c1 < 0 ∧ ¬ (255 : Int32) < c1) (c2 : Int32) (hc2 : ¬ c2 < 0 ∧ ¬ (255 : Int32) < c2) (u t : Addr) (ku kt : ClassId) (hut : u ≠ t) (gt : n0 ≤ t) (h0 : Heap) (U0 : Arv Z h0 u ku .char (3 : Int32) [(.int c0), (.int c1), (.int c2)] (.int 0)) (T0 : Arv Z h0 t kt .byte (3 : Int32) [(.int (0 : Int32)), (.int (0 : Int32)), (.int (0 : Int32))] (.int 0)) : Con true l Z [("java/lang/String", 7)] n0 (⟨"java/lang/StringUTF16", "compress", "([CI[BII)I"⟩ : MethodName) jdk_52_method_21_code 7 (some .int) ({ frames := 0, cells := 0, slots := 0, locals := 0 } : Room) #[(.ref u), (.int (0 : Int32)), (.ref t), (.int (0 : Int32)), (.int (3 : Int32))] [t] h0 (fun v h D' => v = some (.int (3 : Int32)) ∧ Keep h0 h [t] ∧ Arv Z h t kt .byte (3 : Int32) [(.int ((Int32.toInt8 c0).toInt32)), (.int ((Int32.toInt8 c1).toInt32)), (.int ((Int32.toInt8 c2).toInt32))] (.int 0) ∧ D' = []) := by
  refine Con.of_runs (ls := #[.val (.ref u), .val (.int (0 : Int32)), .val (.ref t), .val (.int (0 : Int32)), .val (.int (3 : Int32)), .unset, .unset]) (by decide +kernel) (fun m => rfl) ?_
  refine Runs.iconst (v := (0 : Int32)) i6_0 (by decide) ?_
  refine Runs.istore (ls' := #[.val (.ref u), .val (.int (0 : Int32)), .val (.ref t), .val (.int (0 : Int32)), .val (.int (3 : Int32)), .val (.int (0 : Int32)), .unset]) i6_1 rfl ?_
  refine Runs.iload i6_3 rfl ?_
  refine Runs.iload i6_5 rfl ?_
  refine Runs.icN i6_7 (tlt (by decide : (0 : Int32) < (3 : Int32))).2.1 ?_
  refine Runs.aloadN i6_10 rfl rfl ?_
  refine Runs.iloadN i6_11 rfl ?_
  refine Runs.caload (v := (.int c0)) i6_12 U0 ⟨by decide, by decide⟩ rfl ?_
  refine Runs.istore (ls' := #[.val (.ref u), .val (.int (0 : Int32)), .val (.ref t), .val (.int (0 : Int32)), .val (.int (3 : Int32)), .val (.int (0 : Int32)), .val (.int c0)]) i6_13 rfl ?_
  refine Runs.iload i6_15 rfl ?_
  refine Runs.sipush (v := (255 : Int32)) i6_17 (by decide) ?_
  refine Runs.icY (t := 26) i6_20 (by decide) (flt hc0.2).2.2.2 ?_
  refine Runs.aloadN i6_26 rfl rfl ?_
  refine Runs.iloadN i6_27 rfl ?_
  refine Runs.iload i6_28 rfl ?_
  obtain ⟨x_1, hx_1⟩ : ∃ z : Int32, (Int32.toInt8 c0).toInt32 = z := ⟨_, rfl⟩
  refine Runs.i2b i6_30 hx_1 ?_
  refine Runs.bastore (i := 0) (y := ((Int32.toInt8 c0).toInt32)) i6_31 T0 ⟨by decide, by decide⟩ (by decide) (Nat.le_of_ble_eq_true rfl) (by rw [← hx_1]; exact own_bb _) gt (Or.inl (List.mem_of_getElem? (i := 0) rfl)) ?_
  intro h_2 K_3 (A_4 : Arv Z h_2 t kt .byte (3 : Int32) [(.int ((Int32.toInt8 c0).toInt32)), (.int (0 : Int32)), (.int (0 : Int32))] (.int 0))
  refine Runs.iinc (z := (1 : Int32)) (ls' := #[.val (.ref u), .val (.int (1 : Int32)), .val (.ref t), .val (.int (0 : Int32)), .val (.int (3 : Int32)), .val (.int (0 : Int32)), .val (.int c0)]) i6_32 rfl (by decide) rfl ?_
  refine Runs.iinc (z := (1 : Int32)) (ls' := #[.val (.ref u), .val (.int (1 : Int32)), .val (.ref t), .val (.int (1 : Int32)), .val (.int (3 : Int32)), .val (.int (0 : Int32)), .val (.int c0)]) i6_35 rfl (by decide) rfl ?_
  refine Runs.iinc (z := (1 : Int32)) (ls' := #[.val (.ref u), .val (.int (1 : Int32)), .val (.ref t), .val (.int (1 : Int32)), .val (.int (3 : Int32)), .val (.int (1 : Int32)), .val (.int c0)]) i6_38 rfl (by decide) rfl ?_
  refine Runs.goto (t := 3) i6_41 (by decide) ?_
  refine Runs.iload i6_3 rfl ?_
  refine Runs.iload i6_5 rfl ?_
  refine Runs.icN i6_7 (tlt (by decide : (1 : Int32) < (3 : Int32))).2.1 ?_
  refine Runs.aloadN i6_10 rfl rfl ?_
  refine Runs.iloadN i6_11 rfl ?_
  have A_5 := (U0.keep K_3 (ninS hut nin0))
  refine Runs.caload (v := (.int c1)) i6_12 A_5 ⟨by decide, by decide⟩ rfl ?_
  refine Runs.istore (ls' := #[.val (.ref u), .val (.int (1 : Int32)), .val (.ref t), .val (.int (1 : Int32)), .val (.int (3 : Int32)), .val (.int (1 : Int32)), .val (.int c1)]) i6_13 rfl ?_
  refine Runs.iload i6_15 rfl ?_
  refine Runs.sipush (v := (255 : Int32)) i6_17 (by decide) ?_
  refine Runs.icY (t := 26) i6_20 (by decide) (flt hc1.2).2.2.2 ?_
  refine Runs.aloadN i6_26 rfl rfl ?_
  refine Runs.iloadN i6_27 rfl ?_
  refine Runs.iload i6_28 rfl ?_
  obtain ⟨x_6, hx_6⟩ : ∃ z : Int32, (Int32.toInt8 c1).toInt32 = z := ⟨_, rfl⟩
  refine Runs.i2b i6_30 hx_6 ?_
  refine Runs.bastore (i := 1) (y := ((Int32.toInt8 c1).toInt32)) i6_31 A_4 ⟨by decide, by decide⟩ (by decide) (Nat.le_of_ble_eq_true rfl) (by rw [← hx_6]; exact own_bb _) gt (Or.inl (List.mem_of_getElem? (i := 0) rfl)) ?_
  intro h_7 K_8 (A_9 : Arv Z h_7 t kt .byte (3 : Int32) [(.int ((Int32.toInt8 c0).toInt32)), (.int ((Int32.toInt8 c1).toInt32)), (.int (0 : Int32))] (.int 0))
  refine Runs.iinc (z := (2 : Int32)) (ls' := #[.val (.ref u), .val (.int (2 : Int32)), .val (.ref t), .val (.int (1 : Int32)), .val (.int (3 : Int32)), .val (.int (1 : Int32)), .val (.int c1)]) i6_32 rfl (by decide) rfl ?_
  refine Runs.iinc (z := (2 : Int32)) (ls' := #[.val (.ref u), .val (.int (2 : Int32)), .val (.ref t), .val (.int (2 : Int32)), .val (.int (3 : Int32)), .val (.int (1 : Int32)), .val (.int c1)]) i6_35 rfl (by decide) rfl ?_
  refine Runs.iinc (z := (2 : Int32)) (ls' := #[.val (.ref u), .val (.int (2 : Int32)), .val (.ref t), .val (.int (2 : Int32)), .val (.int (3 : Int32)), .val (.int (2 : Int32)), .val (.int c1)]) i6_38 rfl (by decide) rfl ?_
  refine Runs.goto (t := 3) i6_41 (by decide) ?_
  refine Runs.iload i6_3 rfl ?_
  refine Runs.iload i6_5 rfl ?_
  refine Runs.icN i6_7 (tlt (by decide : (2 : Int32) < (3 : Int32))).2.1 ?_
  refine Runs.aloadN i6_10 rfl rfl ?_
  refine Runs.iloadN i6_11 rfl ?_
  have A_10 := (A_5.keep K_8 (ninS hut nin0))
  refine Runs.caload (v := (.int c2)) i6_12 A_10 ⟨by decide, by decide⟩ rfl ?_
  refine Runs.istore (ls' := #[.val (.ref u), .val (.int (2 : Int32)), .val (.ref t), .val (.int (2 : Int32)), .val (.int (3 : Int32)), .val (.int (2 : Int32)), .val (.int c2)]) i6_13 rfl ?_
  refine Runs.iload i6_15 rfl ?_
  refine Runs.sipush (v := (255 : Int32)) i6_17 (by decide) ?_
  refine Runs.icY (t := 26) i6_20 (by decide) (flt hc2.2).2.2.2 ?_
  refine Runs.aloadN i6_26 rfl rfl ?_
  refine Runs.iloadN i6_27 rfl ?_
  refine Runs.iload i6_28 rfl ?_
  obtain ⟨x_11, hx_11⟩ : ∃ z : Int32, (Int32.toInt8 c2).toInt32 = z := ⟨_, rfl⟩
  refine Runs.i2b i6_30 hx_11 ?_
  refine Runs.bastore (i := 2) (y := ((Int32.toInt8 c2).toInt32)) i6_31 A_9 ⟨by decide, by decide⟩ (by decide) (Nat.le_of_ble_eq_true rfl) (by rw [← hx_11]; exact own_bb _) gt (Or.inl (List.mem_of_getElem? (i := 0) rfl)) ?_
  intro h_12 K_13 (A_14 : Arv Z h_12 t kt .byte (3 : Int32) [(.int ((Int32.toInt8 c0).toInt32)), (.int ((Int32.toInt8 c1).toInt32)), (.int ((Int32.toInt8 c2).toInt32))] (.int 0))
  refine Runs.iinc (z := (3 : Int32)) (ls' := #[.val (.ref u), .val (.int (3 : Int32)), .val (.ref t), .val (.int (2 : Int32)), .val (.int (3 : Int32)), .val (.int (2 : Int32)), .val (.int c2)]) i6_32 rfl (by decide) rfl ?_
  refine Runs.iinc (z := (3 : Int32)) (ls' := #[.val (.ref u), .val (.int (3 : Int32)), .val (.ref t), .val (.int (3 : Int32)), .val (.int (3 : Int32)), .val (.int (2 : Int32)), .val (.int c2)]) i6_35 rfl (by decide) rfl ?_
  refine Runs.iinc (z := (3 : Int32)) (ls' := #[.val (.ref u), .val (.int (3 : Int32)), .val (.ref t), .val (.int (3 : Int32)), .val (.int (3 : Int32)), .val (.int (3 : Int32)), .val (.int c2)]) i6_38 rfl (by decide) rfl ?_
  refine Runs.goto (t := 3) i6_41 (by decide) ?_
  refine Runs.iload i6_3 rfl ?_
  refine Runs.iload i6_5 rfl ?_
  refine Runs.icY (t := 44) i6_7 (by decide) (flt (by decide : ¬ ((3 : Int32) < (3 : Int32)))).2.1 ?_
  refine Runs.iload i6_44 rfl ?_
  refine Runs.weak (D1 := []) (fun _ q => nomatch q) ?_
  exact Runs.retI (z := (3 : Int32)) i6_46 rfl (Or.inl rfl) rfl (by decide) (by decide) ⟨rfl, ((((Keep.refl _ _).trans K_3 (allS (Or.inl (List.mem_of_getElem? (i := 0) rfl)) all0)).trans K_8 (allS (Or.inl (List.mem_of_getElem? (i := 0) rfl)) all0)).trans K_13 (allS (Or.inl (List.mem_of_getElem? (i := 0) rfl)) all0)), A_14, rfl⟩
set_option maxRecDepth 65536 in
set_option maxHeartbeats 4000000 in
theorem own_cp3 (l : Launch) (Z : State) (a0 : Array Value) (hw : Wds Z a0) (n0 : Nat) (c0 : Int32) (hc0 : ¬ c0 < 0 ∧ ¬ (255 : Int32) < c0) (c1 : Int32) (hc1 : ¬ c1 < 0 ∧ ¬ (255 : Int32) < c1) (c2 : Int32) (hc2 : ¬ c2 < 0 ∧ ¬ (255 : Int32) < c2) (u : Addr) (ku : ClassId) (h0 : Heap) (U0 : Arv Z h0 u ku .char (3 : Int32) [(.int c0), (.int c1), (.int c2)] (.int 0)) : Con true l Z [("java/lang/String", 7)] n0 (⟨"java/lang/StringUTF16", "compress", "([CII)[B"⟩ : MethodName) jdk_52_method_16_code 6 (some (.array .byte)) ({ frames := 1, cells := 1, slots := 3, locals := 18 } : Room) #[(.ref u), (.int (0 : Int32)), (.int (3 : Int32))] [] h0 (fun v h D' => ∃ b k, v = some (.ref b) ∧ h0.size ≤ b ∧ Keep h0 h [] ∧ Arv Z h b k .byte (3 : Int32) [(.int ((Int32.toInt8 c0).toInt32)), (.int ((Int32.toInt8 c1).toInt32)), (.int ((Int32.toInt8 c2).toInt32))] (.int 0) ∧ D' = [b]) := by
  refine Con.of_runs (ls := #[.val (.ref u), .val (.int (0 : Int32)), .val (.int (3 : Int32)), .unset, .unset, .unset]) (by decide +kernel) (fun m => rfl) ?_
  refine Runs.iloadN i5_0 rfl ?_
  refine Runs.newP (cap := 3) (ad := "[B") i5_1 (w22 hw) (by decide) (by decide) (by decide) (by decide) (by decide) rfl ?_
  intro h_1 b_2 k_3 g_6 ge_7 K_4 (A_5 : Arv Z h_1 b_2 k_3 .byte (3 : Int32) [] (.int (0 : Int32))) E_8
  have A_9 : Arv Z h_1 b_2 k_3 .byte (3 : Int32) [(.int (0 : Int32)), (.int (0 : Int32)), (.int (0 : Int32))] (.int (0 : Int32)) := A_5.pad (pad_rep [] (.int (0 : Int32)) 3)
  refine Runs.astoreN (ls' := #[.val (.ref u), .val (.int (0 : Int32)), .val (.int (3 : Int32)), .val (.ref b_2), .unset, .unset]) i5_3 rfl rfl ?_
  refine Runs.aloadN i5_4 rfl rfl ?_
  refine Runs.iloadN i5_5 rfl ?_
  refine Runs.aloadN i5_6 rfl rfl ?_
  refine Runs.iconst (v := (0 : Int32)) i5_7 (by decide) ?_
  refine Runs.iloadN i5_8 rfl ?_
  have A_10 := (U0.keep K_4 nin0)
  refine Runs.callSW (argsL := [(.ref u), (.int (0 : Int32)), (.ref b_2), (.int (0 : Int32)), (.int (3 : Int32))]) (rest := []) (W := 0) i5_9 (w34 hw) (w35 hw) (w32 hw) (w36 hw) (by decide) pd_1 rfl rfl rfl rfl (by decide) (by decide) (by decide) (by decide) (allS (List.mem_of_getElem? (i := 0) rfl) all0) (own_cpI3 l Z a0 hw n0 c0 hc0 c1 hc1 c2 hc2 u b_2 ku k_3 (Nat.ne_of_lt (Nat.lt_of_lt_of_le (Nat.lt_of_lt_of_le U0.lt (Nat.le_refl _)) g_6)) ge_7 _ A_10 A_9) ?_
  intro v h_13 D1 q hsz
  obtain ⟨rfl, K_11, A_12, rfl⟩ := q
  show Runs true l Z [("java/lang/String", 7)] n0 _ _ _ _ _ _ _ [b_2] h_13 1 3 12 #[.val (.ref u), .val (.int (0 : Int32)), .val (.int (3 : Int32)), .val (.ref b_2), .unset, .unset] [(.int (3 : Int32))]
  refine Runs.istore (ls' := #[.val (.ref u), .val (.int (0 : Int32)), .val (.int (3 : Int32)), .val (.ref b_2), .val (.int (3 : Int32)), .unset]) i5_12 rfl ?_
  refine Runs.iload i5_14 rfl ?_
  refine Runs.iloadN i5_16 rfl ?_
  refine Runs.icY (t := 57) i5_17 (by decide) (teq (by decide : (3 : Int32) = (3 : Int32))).1 ?_
  refine Runs.aloadN i5_57 rfl rfl ?_
  exact Runs.retA i5_58 rfl rfl rfl (by decide) (by decide) ⟨b_2, k_3, rfl, g_6, (((Keep.refl _ _).trans K_4 all0).trans K_11 (allS (Or.inr (Nat.le_trans (Nat.le_refl _) g_6)) all0)), A_12, rfl⟩
set_option maxRecDepth 65536 in
set_option maxHeartbeats 4000000 in
theorem own_cdl3_3 (l : Launch) (Z : State) (a0 : Array Value) (hw : Wds Z a0) (n0 : Nat) (t : Addr) (kt : ClassId) (vs : List Value) (d : Value) (h0 : Heap) (T0 : Arv Z h0 t kt .byte (3 : Int32) vs d) : Con true l Z [("java/lang/String", 7)] n0 (⟨"java/lang/StringUTF16", "coderFromArrayLen", "([BI)B"⟩ : MethodName) jdk_52_method_15_code 2 (some .byte) ({ frames := 0, cells := 0, slots := 0, locals := 0 } : Room) #[(.ref t), (.int (3 : Int32))] [] h0 (fun v h D' => v = some (.int (0 : Int32)) ∧ h0 = h ∧ D' = []) := by
  refine Con.of_runs (ls := #[.val (.ref t), .val (.int (3 : Int32))]) (by decide +kernel) (fun m => rfl) ?_
  refine Runs.iloadN i7_0 rfl ?_
  refine Runs.aloadN i7_1 rfl rfl ?_
  refine Runs.arrlen i7_2 T0 ?_
  refine Runs.isub (z := (0 : Int32)) i7_3 (by decide) ?_
  refine Runs.bipush (v := (31 : Int32)) i7_4 (by decide) ?_
  refine Runs.iushr (z := (0 : Int32)) i7_6 (by decide) ?_
  refine Runs.i2b (z := (0 : Int32)) i7_7 (by decide) ?_
  exact Runs.retI (z := (0 : Int32)) i7_8 rfl (Or.inr (Or.inr (Or.inl rfl))) (by decide) (by decide) (by decide) ⟨rfl, rfl, rfl⟩
set_option maxRecDepth 65536 in
set_option maxHeartbeats 4000000 in
theorem own_si4_3 (l : Launch) (Z : State) (a0 : Array Value) (hw : Wds Z a0) (n0 : Nat) (c0 : Int32) (hc0 : ¬ c0 < 0 ∧ ¬ (255 : Int32) < c0) (c1 : Int32) (hc1 : ¬ c1 < 0 ∧ ¬ (255 : Int32) < c1) (c2 : Int32) (hc2 : ¬ c2 < 0 ∧ ¬ (255 : Int32) < c2) (a u : Addr) (ku : ClassId) (hua : u ≠ a) (cpt : Int32) (h0 : Heap) (ga : n0 ≤ a) (O0 : Obj Z h0 a "java/lang/String" [("java/lang/String", "value", "[B", .null), ("java/lang/String", "coder", "B", (.int (0 : Int32)))]) (U0 : Arv Z h0 u ku .char (3 : Int32) [(.int c0), (.int c1), (.int c2)] (.int 0)) (S_C : Sta Z Z.heap "java/lang/String" "COMPACT_STRINGS" "Z" (.int cpt)) (hcpt : ¬ cpt = 0) : Con true l Z [("java/lang/String", 7)] n0 (⟨"java/lang/String", "<init>", "([CIILjava/lang/Void;)V"⟩ : MethodName) jdk_42_method_149_code 6 none ({ frames := 2, cells := 1, slots := 3, locals := 36 } : Room) #[(.ref a), (.ref u), (.int (0 : Int32)), (.int (3 : Int32)), .null] [a] h0 (fun v h D' => v = none ∧ ∃ t k, h0.size ≤ t ∧ Keep h0 h [a] ∧ Obj Z h a "java/lang/String" [("java/lang/String", "value", "[B", (.ref t)), ("java/lang/String", "coder", "B", (.int (0 : Int32)))] ∧ Arv Z h t k .byte (3 : Int32) [(.int ((Int32.toInt8 c0).toInt32)), (.int ((Int32.toInt8 c1).toInt32)), (.int ((Int32.toInt8 c2).toInt32))] (.int 0) ∧ D' = []) := by
  refine Con.of_runs (ls := #[.val (.ref a), .val (.ref u), .val (.int (0 : Int32)), .val (.int (3 : Int32)), .val .null, .unset]) (by decide +kernel) (fun m => rfl) ?_
  refine Runs.aloadN i3_0 rfl rfl ?_
  refine Runs.initO (W := 0) i3_1 (w18 hw) (w19 hw) (w20 hw) rfl (by decide) rfl (by decide) ?_
  refine Runs.iloadN i3_4 rfl ?_
  refine Runs.ifY (t := 27) i3_5 (by decide) (feq (by decide : ¬ ((3 : Int32) = (0 : Int32)))).2 ?_
  refine Runs.getS i3_27 (w29 hw) Via.refl S_C ?_
  refine Runs.ifN i3_30 (feq hcpt).1 ?_
  refine Runs.aloadN i3_33 rfl rfl ?_
  refine Runs.iloadN i3_34 rfl ?_
  refine Runs.iloadN i3_35 rfl ?_
  refine Runs.callSW (argsL := [(.ref u), (.int (0 : Int32)), (.int (3 : Int32))]) (rest := []) (W := 0) i3_36 (w30 hw) (w31 hw) (w32 hw) (w33 hw) (by decide) pd_2 rfl rfl rfl rfl (by decide) (by decide) (by decide) (by decide) all0 (own_cp3 l Z a0 hw n0 c0 hc0 c1 hc1 c2 hc2 u ku _ U0) ?_
  intro v h_6 D1 q hsz
  obtain ⟨b_1, k_2, rfl, g_3, K_4, A_5, rfl⟩ := q
  show Runs true l Z [("java/lang/String", 7)] n0 _ _ _ _ _ _ _ [b_1, a] h_6 1 3 39 #[.val (.ref a), .val (.ref u), .val (.int (0 : Int32)), .val (.int (3 : Int32)), .val .null, .unset] [(.ref b_1)]
  refine Runs.astore (ls' := #[.val (.ref a), .val (.ref u), .val (.int (0 : Int32)), .val (.int (3 : Int32)), .val .null, .val (.ref b_1)]) i3_39 rfl rfl ?_
  refine Runs.aloadN i3_41 rfl rfl ?_
  refine Runs.aload i3_42 rfl rfl ?_
  refine Runs.iloadN i3_44 rfl ?_
  refine Runs.callSW (argsL := [(.ref b_1), (.int (3 : Int32))]) (rest := [(.ref a)]) (W := 1) i3_45 (w37 hw) (w38 hw) (w32 hw) (w39 hw) (by decide) pd_3 rfl rfl rfl rfl (by decide) (by decide) (by decide) (by decide) all0 (own_cdl3_3 l Z a0 hw n0 b_1 _ _ _ _ A_5) ?_
  intro v h1 D1 q hsz
  obtain ⟨rfl, rfl, rfl⟩ := q
  show Runs true l Z [("java/lang/String", 7)] n0 _ _ _ _ _ _ _ [b_1, a] h_6 1 3 48 #[.val (.ref a), .val (.ref u), .val (.int (0 : Int32)), .val (.int (3 : Int32)), .val .null, .val (.ref b_1)] [(.int (0 : Int32)), (.ref a)]
  have O_7 := (O0.keep K_4 nin0)
  refine Runs.putF (i := 1) (ty := .byte) i3_48 (host := "") (Or.inl (w28 hw)) Via.refl O_7 rfl (lay_0 hw) rfl (Or.inr ⟨(w24 hw), rfl, rfl⟩) (w8 hw) (by decide) rfl rfl ga (Or.inl (List.mem_of_getElem? (i := 1) rfl)) ?_
  intro h_8 K_9 (O_10 : Obj Z h_8 a "java/lang/String" [("java/lang/String", "value", "[B", .null), ("java/lang/String", "coder", "B", (.int (0 : Int32)))])
  refine Runs.aloadN i3_51 rfl rfl ?_
  refine Runs.aload i3_52 rfl rfl ?_
  refine Runs.putF (i := 0) (ty := (.array .byte)) i3_54 (host := "") (Or.inl (w27 hw)) Via.refl O_10 rfl (lay_0 hw) rfl (Or.inr ⟨(w23 hw), rfl, rfl⟩) (w8 hw) (by decide) rfl rfl ga (Or.inl (List.mem_of_getElem? (i := 1) rfl)) ?_
  intro h_11 K_12 (O_13 : Obj Z h_11 a "java/lang/String" [("java/lang/String", "value", "[B", (.ref b_1)), ("java/lang/String", "coder", "B", (.int (0 : Int32)))])
  have A_14 := ((A_5.keep K_9 (ninS (Nat.ne_of_gt (Nat.lt_of_lt_of_le (Nat.lt_of_lt_of_le O0.lt (Nat.le_refl _)) g_3)) nin0)).keep K_12 (ninS (Nat.ne_of_gt (Nat.lt_of_lt_of_le (Nat.lt_of_lt_of_le O0.lt (Nat.le_refl _)) g_3)) nin0))
  refine Runs.weak (D1 := []) (fun _ q => nomatch q) ?_
  exact Runs.retV i3_57 rfl (by decide) (by decide) ⟨rfl, b_1, k_2, (Nat.le_trans (Nat.le_refl _) g_3), ((((Keep.refl _ _).trans K_4 all0).trans K_9 (allS (Or.inl (List.mem_of_getElem? (i := 0) rfl)) all0)).trans K_12 (allS (Or.inl (List.mem_of_getElem? (i := 0) rfl)) all0)), O_13, A_14, rfl⟩
set_option maxRecDepth 65536 in
set_option maxHeartbeats 4000000 in
theorem own_si_3 (l : Launch) (Z : State) (a0 : Array Value) (hw : Wds Z a0) (n0 : Nat) (c0 : Int32) (hc0 : ¬ c0 < 0 ∧ ¬ (255 : Int32) < c0) (c1 : Int32) (hc1 : ¬ c1 < 0 ∧ ¬ (255 : Int32) < c1) (c2 : Int32) (hc2 : ¬ c2 < 0 ∧ ¬ (255 : Int32) < c2) (a u : Addr) (ku : ClassId) (hua : u ≠ a) (cpt : Int32) (h0 : Heap) (ga : n0 ≤ a) (O0 : Obj Z h0 a "java/lang/String" [("java/lang/String", "value", "[B", .null), ("java/lang/String", "coder", "B", (.int (0 : Int32)))]) (U0 : Arv Z h0 u ku .char (3 : Int32) [(.int c0), (.int c1), (.int c2)] (.int 0)) (S_C : Sta Z Z.heap "java/lang/String" "COMPACT_STRINGS" "Z" (.int cpt)) (hcpt : ¬ cpt = 0) : Con true l Z [("java/lang/String", 7)] n0 (⟨"java/lang/String", "<init>", "([C)V"⟩ : MethodName) jdk_42_method_3_code 2 none ({ frames := 3, cells := 1, slots := 3, locals := 53 } : Room) #[(.ref a), (.ref u)] [a] h0 (fun v h D' => v = none ∧ ∃ t k, h0.size ≤ t ∧ Keep h0 h [a] ∧ Obj Z h a "java/lang/String" [("java/lang/String", "value", "[B", (.ref t)), ("java/lang/String", "coder", "B", (.int (0 : Int32)))] ∧ Arv Z h t k .byte (3 : Int32) [(.int ((Int32.toInt8 c0).toInt32)), (.int ((Int32.toInt8 c1).toInt32)), (.int ((Int32.toInt8 c2).toInt32))] (.int 0) ∧ D' = []) := by
  refine Con.of_runs (ls := #[.val (.ref a), .val (.ref u)]) (by decide +kernel) (fun m => rfl) ?_
  refine Runs.aloadN i2_0 rfl rfl ?_
  refine Runs.aloadN i2_1 rfl rfl ?_
  refine Runs.iconst (v := (0 : Int32)) i2_2 (by decide) ?_
  refine Runs.aloadN i2_3 rfl rfl ?_
  refine Runs.arrlen i2_4 U0 ?_
  refine Runs.aconstNull i2_5 ?_
  refine Runs.callCW (argsL := [(.ref u), (.int (0 : Int32)), (.int (3 : Int32)), .null]) (rest := []) (W := 0) i2_6 rfl (w14 hw) (w15 hw) (w17 hw) (w9 hw) (by decide) pd_0 rfl rfl rfl rfl (by decide) (by decide) (by decide) (by decide) (allS (List.mem_of_getElem? (i := 0) rfl) all0) (own_si4_3 l Z a0 hw n0 c0 hc0 c1 hc1 c2 hc2 a u ku hua cpt _ ga O0 U0 S_C hcpt) ?_
  intro v h_7 D1 q hsz
  obtain ⟨rfl, t_1, k_2, g_3, K_4, O_5, A_6, rfl⟩ := q
  show Runs true l Z [("java/lang/String", 7)] n0 _ _ _ _ _ _ _ [a] h_7 1 3 9 #[.val (.ref a), .val (.ref u)] []
  refine Runs.weak (D1 := []) (fun _ q => nomatch q) ?_
  exact Runs.retV i2_9 rfl (by decide) (by decide) ⟨rfl, t_1, k_2, g_3, K_4, O_5, A_6, rfl⟩
set_option maxRecDepth 65536 in
set_option maxHeartbeats 4000000 in
theorem own_mk (l : Launch) (Z : State) (a0 : Array Value) (hw : Wds Z a0) (n0 : Nat) (p cpt : Int32) (h0 : Heap) (S_C : Sta Z Z.heap "java/lang/String" "COMPACT_STRINGS" "Z" (.int cpt)) (hcpt : ¬ cpt = 0) : Con true l Z [("java/lang/String", 7)] n0 (⟨"com/example/collateral_debt_model/collateraldebtmodel/NamePairEqualsPinLaw", "mk", "(I)Ljava/lang/String;"⟩ : MethodName) method_2_code 5 (some (.object "java/lang/String")) ({ frames := 4, cells := 6, slots := 12, locals := 67 } : Room) #[(.int p)] [] h0 (fun v h D' => ∃ b t k, v = some (.ref b) ∧ h0.size ≤ b ∧ Keep h0 h [] ∧ Str Z h b t k (own_cs p) ∧ D' = []) := by
  refine Con.of_runs (ls := #[.val (.int p), .unset, .unset, .unset, .unset]) (by decide +kernel) (fun m => rfl) ?_
  rcases own_and3 p with q3 | q3 | q3 | q3
  · refine Runs.iloadN i1_0 rfl ?_
    refine Runs.iconst (v := (3 : Int32)) i1_1 (by decide) ?_
    refine Runs.iand (z := (0 : Int32)) i1_2 q3 ?_
    refine Runs.istoreN (ls' := #[.val (.int p), .val (.int (0 : Int32)), .unset, .unset, .unset]) i1_3 rfl ?_
    refine Runs.iloadN i1_4 rfl ?_
    refine Runs.iconst (v := (2 : Int32)) i1_5 (by decide) ?_
    refine Runs.iushr (z := (Jvm.Free.XT.ushr p (2 : Int32))) i1_6 rfl ?_
    refine Runs.sipush (v := (255 : Int32)) i1_7 (by decide) ?_
    refine Runs.iand (z := (own_x0 p)) i1_10 rfl ?_
    refine Runs.i2c (z := (own_x0 p)) i1_11 (own_i2c (own_xr0 p)) ?_
    refine Runs.istoreN (ls' := #[.val (.int p), .val (.int (0 : Int32)), .val (.int (own_x0 p)), .unset, .unset]) i1_12 rfl ?_
    refine Runs.iloadN i1_13 rfl ?_
    refine Runs.bipush (v := (10 : Int32)) i1_14 (by decide) ?_
    refine Runs.iushr (z := (Jvm.Free.XT.ushr p (10 : Int32))) i1_16 rfl ?_
    refine Runs.sipush (v := (255 : Int32)) i1_17 (by decide) ?_
    refine Runs.iand (z := (own_x1 p)) i1_20 rfl ?_
    refine Runs.i2c (z := (own_x1 p)) i1_21 (own_i2c (own_xr1 p)) ?_
    refine Runs.istoreN (ls' := #[.val (.int p), .val (.int (0 : Int32)), .val (.int (own_x0 p)), .val (.int (own_x1 p)), .unset]) i1_22 rfl ?_
    refine Runs.iloadN i1_23 rfl ?_
    refine Runs.bipush (v := (18 : Int32)) i1_24 (by decide) ?_
    refine Runs.iushr (z := (Jvm.Free.XT.ushr p (18 : Int32))) i1_26 rfl ?_
    refine Runs.sipush (v := (255 : Int32)) i1_27 (by decide) ?_
    refine Runs.iand (z := (own_x2 p)) i1_30 rfl ?_
    refine Runs.i2c (z := (own_x2 p)) i1_31 (own_i2c (own_xr2 p)) ?_
    refine Runs.istore (ls' := #[.val (.int p), .val (.int (0 : Int32)), .val (.int (own_x0 p)), .val (.int (own_x1 p)), .val (.int (own_x2 p))]) i1_32 rfl ?_
    refine Runs.iloadN i1_34 rfl ?_
    refine Runs.ifN i1_35 (teq (by decide : (0 : Int32) = (0 : Int32))).2 ?_
    refine Runs.newO i1_38 (w7 hw) (w8 hw) (w9 hw) (lay_0 hw) (by decide) (by decide) ?_
    intro h_1 b_2 g_5 ge_6 K_3 (O_4 : Obj Z h_1 b_2 "java/lang/String" [("java/lang/String", "value", "[B", .null), ("java/lang/String", "coder", "B", (.int (0 : Int32)))]) U_7
    refine Runs.dup i1_41 rfl ?_
    refine Runs.iconst (v := (0 : Int32)) i1_42 (by decide) ?_
    refine Runs.newP (cap := 0) (ad := "[C") i1_43 (w10 hw) (by decide) (by decide) (by decide) (by decide) (by decide) rfl ?_
    intro h_8 b_9 k_10 g_13 ge_14 K_11 (A_12 : Arv Z h_8 b_9 k_10 .char (0 : Int32) [] (.int (0 : Int32))) E_15
    have O_16 := (O_4.keep K_11 nin0)
    refine Runs.callCW (argsL := [(.ref b_9)]) (rest := [(.ref b_2)]) (W := 1) i1_45 rfl (w11 hw) (w12 hw) (w13 hw) (w9 hw) (by decide) pd_4 rfl rfl rfl rfl (by decide) (by decide) (by decide) (by decide) (allS (List.mem_of_getElem? (i := 1) rfl) all0) (own_si_0 l Z a0 hw n0 b_2 b_9 k_10 _ ge_6 O_16 A_12) ?_
    intro v h_23 D1 q hsz
    obtain ⟨rfl, t_17, k_18, K_20, O_21, A_22, rfl⟩ := q
    show Runs true l Z [("java/lang/String", 7)] n0 _ _ _ _ _ _ _ [b_9, b_2] h_23 6 12 48 #[.val (.int p), .val (.int (0 : Int32)), .val (.int (own_x0 p)), .val (.int (own_x1 p)), .val (.int (own_x2 p))] [(.ref b_2)]
    refine Runs.weak (D1 := []) (fun _ q => nomatch q) ?_
    exact Runs.retA i1_48 rfl rfl rfl (by decide) (by decide) ⟨b_2, t_17, k_18, rfl, g_5, ((((Keep.refl _ _).trans K_3 all0).trans K_11 all0).trans K_20 (allS (Or.inr (Nat.le_trans (Nat.le_refl _) g_5)) all0)), ⟨O_21, by rw [own_cs0 q3]; exact A_22, own_lat p, by rw [own_cs0 q3]; simp⟩, rfl⟩
  · refine Runs.iloadN i1_0 rfl ?_
    refine Runs.iconst (v := (3 : Int32)) i1_1 (by decide) ?_
    refine Runs.iand (z := (1 : Int32)) i1_2 q3 ?_
    refine Runs.istoreN (ls' := #[.val (.int p), .val (.int (1 : Int32)), .unset, .unset, .unset]) i1_3 rfl ?_
    refine Runs.iloadN i1_4 rfl ?_
    refine Runs.iconst (v := (2 : Int32)) i1_5 (by decide) ?_
    refine Runs.iushr (z := (Jvm.Free.XT.ushr p (2 : Int32))) i1_6 rfl ?_
    refine Runs.sipush (v := (255 : Int32)) i1_7 (by decide) ?_
    refine Runs.iand (z := (own_x0 p)) i1_10 rfl ?_
    refine Runs.i2c (z := (own_x0 p)) i1_11 (own_i2c (own_xr0 p)) ?_
    refine Runs.istoreN (ls' := #[.val (.int p), .val (.int (1 : Int32)), .val (.int (own_x0 p)), .unset, .unset]) i1_12 rfl ?_
    refine Runs.iloadN i1_13 rfl ?_
    refine Runs.bipush (v := (10 : Int32)) i1_14 (by decide) ?_
    refine Runs.iushr (z := (Jvm.Free.XT.ushr p (10 : Int32))) i1_16 rfl ?_
    refine Runs.sipush (v := (255 : Int32)) i1_17 (by decide) ?_
    refine Runs.iand (z := (own_x1 p)) i1_20 rfl ?_
    refine Runs.i2c (z := (own_x1 p)) i1_21 (own_i2c (own_xr1 p)) ?_
    refine Runs.istoreN (ls' := #[.val (.int p), .val (.int (1 : Int32)), .val (.int (own_x0 p)), .val (.int (own_x1 p)), .unset]) i1_22 rfl ?_
    refine Runs.iloadN i1_23 rfl ?_
    refine Runs.bipush (v := (18 : Int32)) i1_24 (by decide) ?_
    refine Runs.iushr (z := (Jvm.Free.XT.ushr p (18 : Int32))) i1_26 rfl ?_
    refine Runs.sipush (v := (255 : Int32)) i1_27 (by decide) ?_
    refine Runs.iand (z := (own_x2 p)) i1_30 rfl ?_
    refine Runs.i2c (z := (own_x2 p)) i1_31 (own_i2c (own_xr2 p)) ?_
    refine Runs.istore (ls' := #[.val (.int p), .val (.int (1 : Int32)), .val (.int (own_x0 p)), .val (.int (own_x1 p)), .val (.int (own_x2 p))]) i1_32 rfl ?_
    refine Runs.iloadN i1_34 rfl ?_
    refine Runs.ifY (t := 49) i1_35 (by decide) (feq (by decide : ¬ ((1 : Int32) = (0 : Int32)))).2 ?_
    refine Runs.iloadN i1_49 rfl ?_
    refine Runs.iconst (v := (1 : Int32)) i1_50 (by decide) ?_
    refine Runs.icN i1_51 (teq (by decide : (1 : Int32) = (1 : Int32))).2 ?_
    refine Runs.newO i1_54 (w7 hw) (w8 hw) (w9 hw) (lay_0 hw) (by decide) (by decide) ?_
    intro h_1 b_2 g_5 ge_6 K_3 (O_4 : Obj Z h_1 b_2 "java/lang/String" [("java/lang/String", "value", "[B", .null), ("java/lang/String", "coder", "B", (.int (0 : Int32)))]) U_7
    refine Runs.dup i1_57 rfl ?_
    refine Runs.iconst (v := (1 : Int32)) i1_58 (by decide) ?_
    refine Runs.newP (cap := 1) (ad := "[C") i1_59 (w10 hw) (by decide) (by decide) (by decide) (by decide) (by decide) rfl ?_
    intro h_8 b_9 k_10 g_13 ge_14 K_11 (A_12 : Arv Z h_8 b_9 k_10 .char (1 : Int32) [] (.int (0 : Int32))) E_15
    have A_16 : Arv Z h_8 b_9 k_10 .char (1 : Int32) [(.int (0 : Int32))] (.int (0 : Int32)) := A_12.pad (pad_rep [] (.int (0 : Int32)) 1)
    refine Runs.dup i1_61 rfl ?_
    refine Runs.iconst (v := (0 : Int32)) i1_62 (by decide) ?_
    refine Runs.iloadN i1_63 rfl ?_
    refine Runs.castore (i := 0) (y := (own_x0 p)) i1_64 A_16 ⟨by decide, by decide⟩ (by decide) (Nat.le_of_ble_eq_true rfl) (own_cc (own_255 (own_xr0 p))) ge_14 (Or.inr (by decide)) ?_
    intro h_17 K_18 (A_19 : Arv Z h_17 b_9 k_10 .char (1 : Int32) [(.int (own_x0 p))] (.int (0 : Int32)))
    have O_20 := ((O_4.keep K_11 nin0).keep K_18 (ninS (Nat.ne_of_lt (Nat.lt_of_lt_of_le (Nat.lt_of_lt_of_le O_4.lt (Nat.le_refl _)) g_13)) nin0))
    refine Runs.callCW (argsL := [(.ref b_9)]) (rest := [(.ref b_2)]) (W := 1) i1_65 rfl (w11 hw) (w12 hw) (w13 hw) (w9 hw) (by decide) pd_4 rfl rfl rfl rfl (by decide) (by decide) (by decide) (by decide) (allS (List.mem_of_getElem? (i := 1) rfl) all0) (own_si_1 l Z a0 hw n0 (own_x0 p) (own_xr0 p) b_2 b_9 k_10 (Nat.ne_of_gt (Nat.lt_of_lt_of_le (Nat.lt_of_lt_of_le O_4.lt (Nat.le_refl _)) g_13)) cpt _ ge_6 O_20 A_19 S_C hcpt) ?_
    intro v h_27 D1 q hsz
    obtain ⟨rfl, t_21, k_22, g_23, K_24, O_25, A_26, rfl⟩ := q
    show Runs true l Z [("java/lang/String", 7)] n0 _ _ _ _ _ _ _ [b_9, b_2] h_27 3 6 68 #[.val (.int p), .val (.int (1 : Int32)), .val (.int (own_x0 p)), .val (.int (own_x1 p)), .val (.int (own_x2 p))] [(.ref b_2)]
    refine Runs.weak (D1 := []) (fun _ q => nomatch q) ?_
    exact Runs.retA i1_68 rfl rfl rfl (by decide) (by decide) ⟨b_2, t_21, k_22, rfl, g_5, (((((Keep.refl _ _).trans K_3 all0).trans K_11 all0).trans K_18 (allS (Or.inr (Nat.le_trans K_3.1 g_13)) all0)).trans K_24 (allS (Or.inr (Nat.le_trans (Nat.le_refl _) g_5)) all0)), ⟨O_25, by rw [own_cs1 q3]; exact A_26, own_lat p, by rw [own_cs1 q3]; simp⟩, rfl⟩
  · refine Runs.iloadN i1_0 rfl ?_
    refine Runs.iconst (v := (3 : Int32)) i1_1 (by decide) ?_
    refine Runs.iand (z := (2 : Int32)) i1_2 q3 ?_
    refine Runs.istoreN (ls' := #[.val (.int p), .val (.int (2 : Int32)), .unset, .unset, .unset]) i1_3 rfl ?_
    refine Runs.iloadN i1_4 rfl ?_
    refine Runs.iconst (v := (2 : Int32)) i1_5 (by decide) ?_
    refine Runs.iushr (z := (Jvm.Free.XT.ushr p (2 : Int32))) i1_6 rfl ?_
    refine Runs.sipush (v := (255 : Int32)) i1_7 (by decide) ?_
    refine Runs.iand (z := (own_x0 p)) i1_10 rfl ?_
    refine Runs.i2c (z := (own_x0 p)) i1_11 (own_i2c (own_xr0 p)) ?_
    refine Runs.istoreN (ls' := #[.val (.int p), .val (.int (2 : Int32)), .val (.int (own_x0 p)), .unset, .unset]) i1_12 rfl ?_
    refine Runs.iloadN i1_13 rfl ?_
    refine Runs.bipush (v := (10 : Int32)) i1_14 (by decide) ?_
    refine Runs.iushr (z := (Jvm.Free.XT.ushr p (10 : Int32))) i1_16 rfl ?_
    refine Runs.sipush (v := (255 : Int32)) i1_17 (by decide) ?_
    refine Runs.iand (z := (own_x1 p)) i1_20 rfl ?_
    refine Runs.i2c (z := (own_x1 p)) i1_21 (own_i2c (own_xr1 p)) ?_
    refine Runs.istoreN (ls' := #[.val (.int p), .val (.int (2 : Int32)), .val (.int (own_x0 p)), .val (.int (own_x1 p)), .unset]) i1_22 rfl ?_
    refine Runs.iloadN i1_23 rfl ?_
    refine Runs.bipush (v := (18 : Int32)) i1_24 (by decide) ?_
    refine Runs.iushr (z := (Jvm.Free.XT.ushr p (18 : Int32))) i1_26 rfl ?_
    refine Runs.sipush (v := (255 : Int32)) i1_27 (by decide) ?_
    refine Runs.iand (z := (own_x2 p)) i1_30 rfl ?_
    refine Runs.i2c (z := (own_x2 p)) i1_31 (own_i2c (own_xr2 p)) ?_
    refine Runs.istore (ls' := #[.val (.int p), .val (.int (2 : Int32)), .val (.int (own_x0 p)), .val (.int (own_x1 p)), .val (.int (own_x2 p))]) i1_32 rfl ?_
    refine Runs.iloadN i1_34 rfl ?_
    refine Runs.ifY (t := 49) i1_35 (by decide) (feq (by decide : ¬ ((2 : Int32) = (0 : Int32)))).2 ?_
    refine Runs.iloadN i1_49 rfl ?_
    refine Runs.iconst (v := (1 : Int32)) i1_50 (by decide) ?_
    refine Runs.icY (t := 69) i1_51 (by decide) (feq (by decide : ¬ ((2 : Int32) = (1 : Int32)))).2 ?_
    refine Runs.iloadN i1_69 rfl ?_
    refine Runs.iconst (v := (2 : Int32)) i1_70 (by decide) ?_
    refine Runs.icN i1_71 (teq (by decide : (2 : Int32) = (2 : Int32))).2 ?_
    refine Runs.newO i1_74 (w7 hw) (w8 hw) (w9 hw) (lay_0 hw) (by decide) (by decide) ?_
    intro h_1 b_2 g_5 ge_6 K_3 (O_4 : Obj Z h_1 b_2 "java/lang/String" [("java/lang/String", "value", "[B", .null), ("java/lang/String", "coder", "B", (.int (0 : Int32)))]) U_7
    refine Runs.dup i1_77 rfl ?_
    refine Runs.iconst (v := (2 : Int32)) i1_78 (by decide) ?_
    refine Runs.newP (cap := 2) (ad := "[C") i1_79 (w10 hw) (by decide) (by decide) (by decide) (by decide) (by decide) rfl ?_
    intro h_8 b_9 k_10 g_13 ge_14 K_11 (A_12 : Arv Z h_8 b_9 k_10 .char (2 : Int32) [] (.int (0 : Int32))) E_15
    have A_16 : Arv Z h_8 b_9 k_10 .char (2 : Int32) [(.int (0 : Int32)), (.int (0 : Int32))] (.int (0 : Int32)) := A_12.pad (pad_rep [] (.int (0 : Int32)) 2)
    refine Runs.dup i1_81 rfl ?_
    refine Runs.iconst (v := (0 : Int32)) i1_82 (by decide) ?_
    refine Runs.iloadN i1_83 rfl ?_
    refine Runs.castore (i := 0) (y := (own_x0 p)) i1_84 A_16 ⟨by decide, by decide⟩ (by decide) (Nat.le_of_ble_eq_true rfl) (own_cc (own_255 (own_xr0 p))) ge_14 (Or.inr (by decide)) ?_
    intro h_17 K_18 (A_19 : Arv Z h_17 b_9 k_10 .char (2 : Int32) [(.int (own_x0 p)), (.int (0 : Int32))] (.int (0 : Int32)))
    refine Runs.dup i1_85 rfl ?_
    refine Runs.iconst (v := (1 : Int32)) i1_86 (by decide) ?_
    refine Runs.iloadN i1_87 rfl ?_
    refine Runs.castore (i := 1) (y := (own_x1 p)) i1_88 A_19 ⟨by decide, by decide⟩ (by decide) (Nat.le_of_ble_eq_true rfl) (own_cc (own_255 (own_xr1 p))) ge_14 (Or.inr (by decide)) ?_
    intro h_20 K_21 (A_22 : Arv Z h_20 b_9 k_10 .char (2 : Int32) [(.int (own_x0 p)), (.int (own_x1 p))] (.int (0 : Int32)))
    have O_23 := (((O_4.keep K_11 nin0).keep K_18 (ninS (Nat.ne_of_lt (Nat.lt_of_lt_of_le (Nat.lt_of_lt_of_le O_4.lt (Nat.le_refl _)) g_13)) nin0)).keep K_21 (ninS (Nat.ne_of_lt (Nat.lt_of_lt_of_le (Nat.lt_of_lt_of_le O_4.lt (Nat.le_refl _)) g_13)) nin0))
    refine Runs.callCW (argsL := [(.ref b_9)]) (rest := [(.ref b_2)]) (W := 1) i1_89 rfl (w11 hw) (w12 hw) (w13 hw) (w9 hw) (by decide) pd_4 rfl rfl rfl rfl (by decide) (by decide) (by decide) (by decide) (allS (List.mem_of_getElem? (i := 1) rfl) all0) (own_si_2 l Z a0 hw n0 (own_x0 p) (own_xr0 p) (own_x1 p) (own_xr1 p) b_2 b_9 k_10 (Nat.ne_of_gt (Nat.lt_of_lt_of_le (Nat.lt_of_lt_of_le O_4.lt (Nat.le_refl _)) g_13)) cpt _ ge_6 O_23 A_22 S_C hcpt) ?_
    intro v h_30 D1 q hsz
    obtain ⟨rfl, t_24, k_25, g_26, K_27, O_28, A_29, rfl⟩ := q
    show Runs true l Z [("java/lang/String", 7)] n0 _ _ _ _ _ _ _ [b_9, b_2] h_30 3 8 92 #[.val (.int p), .val (.int (2 : Int32)), .val (.int (own_x0 p)), .val (.int (own_x1 p)), .val (.int (own_x2 p))] [(.ref b_2)]
    refine Runs.weak (D1 := []) (fun _ q => nomatch q) ?_
    exact Runs.retA i1_92 rfl rfl rfl (by decide) (by decide) ⟨b_2, t_24, k_25, rfl, g_5, ((((((Keep.refl _ _).trans K_3 all0).trans K_11 all0).trans K_18 (allS (Or.inr (Nat.le_trans K_3.1 g_13)) all0)).trans K_21 (allS (Or.inr (Nat.le_trans K_3.1 g_13)) all0)).trans K_27 (allS (Or.inr (Nat.le_trans (Nat.le_refl _) g_5)) all0)), ⟨O_28, by rw [own_cs2 q3]; exact A_29, own_lat p, by rw [own_cs2 q3]; simp⟩, rfl⟩
  · refine Runs.iloadN i1_0 rfl ?_
    refine Runs.iconst (v := (3 : Int32)) i1_1 (by decide) ?_
    refine Runs.iand (z := (3 : Int32)) i1_2 q3 ?_
    refine Runs.istoreN (ls' := #[.val (.int p), .val (.int (3 : Int32)), .unset, .unset, .unset]) i1_3 rfl ?_
    refine Runs.iloadN i1_4 rfl ?_
    refine Runs.iconst (v := (2 : Int32)) i1_5 (by decide) ?_
    refine Runs.iushr (z := (Jvm.Free.XT.ushr p (2 : Int32))) i1_6 rfl ?_
    refine Runs.sipush (v := (255 : Int32)) i1_7 (by decide) ?_
    refine Runs.iand (z := (own_x0 p)) i1_10 rfl ?_
    refine Runs.i2c (z := (own_x0 p)) i1_11 (own_i2c (own_xr0 p)) ?_
    refine Runs.istoreN (ls' := #[.val (.int p), .val (.int (3 : Int32)), .val (.int (own_x0 p)), .unset, .unset]) i1_12 rfl ?_
    refine Runs.iloadN i1_13 rfl ?_
    refine Runs.bipush (v := (10 : Int32)) i1_14 (by decide) ?_
    refine Runs.iushr (z := (Jvm.Free.XT.ushr p (10 : Int32))) i1_16 rfl ?_
    refine Runs.sipush (v := (255 : Int32)) i1_17 (by decide) ?_
    refine Runs.iand (z := (own_x1 p)) i1_20 rfl ?_
    refine Runs.i2c (z := (own_x1 p)) i1_21 (own_i2c (own_xr1 p)) ?_
    refine Runs.istoreN (ls' := #[.val (.int p), .val (.int (3 : Int32)), .val (.int (own_x0 p)), .val (.int (own_x1 p)), .unset]) i1_22 rfl ?_
    refine Runs.iloadN i1_23 rfl ?_
    refine Runs.bipush (v := (18 : Int32)) i1_24 (by decide) ?_
    refine Runs.iushr (z := (Jvm.Free.XT.ushr p (18 : Int32))) i1_26 rfl ?_
    refine Runs.sipush (v := (255 : Int32)) i1_27 (by decide) ?_
    refine Runs.iand (z := (own_x2 p)) i1_30 rfl ?_
    refine Runs.i2c (z := (own_x2 p)) i1_31 (own_i2c (own_xr2 p)) ?_
    refine Runs.istore (ls' := #[.val (.int p), .val (.int (3 : Int32)), .val (.int (own_x0 p)), .val (.int (own_x1 p)), .val (.int (own_x2 p))]) i1_32 rfl ?_
    refine Runs.iloadN i1_34 rfl ?_
    refine Runs.ifY (t := 49) i1_35 (by decide) (feq (by decide : ¬ ((3 : Int32) = (0 : Int32)))).2 ?_
    refine Runs.iloadN i1_49 rfl ?_
    refine Runs.iconst (v := (1 : Int32)) i1_50 (by decide) ?_
    refine Runs.icY (t := 69) i1_51 (by decide) (feq (by decide : ¬ ((3 : Int32) = (1 : Int32)))).2 ?_
    refine Runs.iloadN i1_69 rfl ?_
    refine Runs.iconst (v := (2 : Int32)) i1_70 (by decide) ?_
    refine Runs.icY (t := 93) i1_71 (by decide) (feq (by decide : ¬ ((3 : Int32) = (2 : Int32)))).2 ?_
    refine Runs.newO i1_93 (w7 hw) (w8 hw) (w9 hw) (lay_0 hw) (by decide) (by decide) ?_
    intro h_1 b_2 g_5 ge_6 K_3 (O_4 : Obj Z h_1 b_2 "java/lang/String" [("java/lang/String", "value", "[B", .null), ("java/lang/String", "coder", "B", (.int (0 : Int32)))]) U_7
    refine Runs.dup i1_96 rfl ?_
    refine Runs.iconst (v := (3 : Int32)) i1_97 (by decide) ?_
    refine Runs.newP (cap := 3) (ad := "[C") i1_98 (w10 hw) (by decide) (by decide) (by decide) (by decide) (by decide) rfl ?_
    intro h_8 b_9 k_10 g_13 ge_14 K_11 (A_12 : Arv Z h_8 b_9 k_10 .char (3 : Int32) [] (.int (0 : Int32))) E_15
    have A_16 : Arv Z h_8 b_9 k_10 .char (3 : Int32) [(.int (0 : Int32)), (.int (0 : Int32)), (.int (0 : Int32))] (.int (0 : Int32)) := A_12.pad (pad_rep [] (.int (0 : Int32)) 3)
    refine Runs.dup i1_100 rfl ?_
    refine Runs.iconst (v := (0 : Int32)) i1_101 (by decide) ?_
    refine Runs.iloadN i1_102 rfl ?_
    refine Runs.castore (i := 0) (y := (own_x0 p)) i1_103 A_16 ⟨by decide, by decide⟩ (by decide) (Nat.le_of_ble_eq_true rfl) (own_cc (own_255 (own_xr0 p))) ge_14 (Or.inr (by decide)) ?_
    intro h_17 K_18 (A_19 : Arv Z h_17 b_9 k_10 .char (3 : Int32) [(.int (own_x0 p)), (.int (0 : Int32)), (.int (0 : Int32))] (.int (0 : Int32)))
    refine Runs.dup i1_104 rfl ?_
    refine Runs.iconst (v := (1 : Int32)) i1_105 (by decide) ?_
    refine Runs.iloadN i1_106 rfl ?_
    refine Runs.castore (i := 1) (y := (own_x1 p)) i1_107 A_19 ⟨by decide, by decide⟩ (by decide) (Nat.le_of_ble_eq_true rfl) (own_cc (own_255 (own_xr1 p))) ge_14 (Or.inr (by decide)) ?_
    intro h_20 K_21 (A_22 : Arv Z h_20 b_9 k_10 .char (3 : Int32) [(.int (own_x0 p)), (.int (own_x1 p)), (.int (0 : Int32))] (.int (0 : Int32)))
    refine Runs.dup i1_108 rfl ?_
    refine Runs.iconst (v := (2 : Int32)) i1_109 (by decide) ?_
    refine Runs.iload i1_110 rfl ?_
    refine Runs.castore (i := 2) (y := (own_x2 p)) i1_112 A_22 ⟨by decide, by decide⟩ (by decide) (Nat.le_of_ble_eq_true rfl) (own_cc (own_255 (own_xr2 p))) ge_14 (Or.inr (by decide)) ?_
    intro h_23 K_24 (A_25 : Arv Z h_23 b_9 k_10 .char (3 : Int32) [(.int (own_x0 p)), (.int (own_x1 p)), (.int (own_x2 p))] (.int (0 : Int32)))
    have O_26 := ((((O_4.keep K_11 nin0).keep K_18 (ninS (Nat.ne_of_lt (Nat.lt_of_lt_of_le (Nat.lt_of_lt_of_le O_4.lt (Nat.le_refl _)) g_13)) nin0)).keep K_21 (ninS (Nat.ne_of_lt (Nat.lt_of_lt_of_le (Nat.lt_of_lt_of_le O_4.lt (Nat.le_refl _)) g_13)) nin0)).keep K_24 (ninS (Nat.ne_of_lt (Nat.lt_of_lt_of_le (Nat.lt_of_lt_of_le O_4.lt (Nat.le_refl _)) g_13)) nin0))
    refine Runs.callCW (argsL := [(.ref b_9)]) (rest := [(.ref b_2)]) (W := 1) i1_113 rfl (w11 hw) (w12 hw) (w13 hw) (w9 hw) (by decide) pd_4 rfl rfl rfl rfl (by decide) (by decide) (by decide) (by decide) (allS (List.mem_of_getElem? (i := 1) rfl) all0) (own_si_3 l Z a0 hw n0 (own_x0 p) (own_xr0 p) (own_x1 p) (own_xr1 p) (own_x2 p) (own_xr2 p) b_2 b_9 k_10 (Nat.ne_of_gt (Nat.lt_of_lt_of_le (Nat.lt_of_lt_of_le O_4.lt (Nat.le_refl _)) g_13)) cpt _ ge_6 O_26 A_25 S_C hcpt) ?_
    intro v h_33 D1 q hsz
    obtain ⟨rfl, t_27, k_28, g_29, K_30, O_31, A_32, rfl⟩ := q
    show Runs true l Z [("java/lang/String", 7)] n0 _ _ _ _ _ _ _ [b_9, b_2] h_33 3 10 116 #[.val (.int p), .val (.int (3 : Int32)), .val (.int (own_x0 p)), .val (.int (own_x1 p)), .val (.int (own_x2 p))] [(.ref b_2)]
    refine Runs.weak (D1 := []) (fun _ q => nomatch q) ?_
    exact Runs.retA i1_116 rfl rfl rfl (by decide) (by decide) ⟨b_2, t_27, k_28, rfl, g_5, (((((((Keep.refl _ _).trans K_3 all0).trans K_11 all0).trans K_18 (allS (Or.inr (Nat.le_trans K_3.1 g_13)) all0)).trans K_21 (allS (Or.inr (Nat.le_trans K_3.1 g_13)) all0)).trans K_24 (allS (Or.inr (Nat.le_trans K_3.1 g_13)) all0)).trans K_30 (allS (Or.inr (Nat.le_trans (Nat.le_refl _) g_5)) all0)), ⟨O_31, by rw [own_cs3 q3]; exact A_32, own_lat p, by rw [own_cs3 q3]; simp⟩, rfl⟩
set_option maxRecDepth 65536 in
set_option maxHeartbeats 4000000 in
theorem own_cQ (l : Launch) (Z : State) (a0 : Array Value) (hw : Wds Z a0) (n0 : Nat) (a b : Addr) (h0 : Heap) : Con true l Z [("java/lang/String", 7)] n0 (⟨"java/util/Objects", "requireNonNull", "(Ljava/lang/Object;Ljava/lang/String;)Ljava/lang/Object;"⟩ : MethodName) jdk_31_method_11_code 2 (some (.object "java/lang/Object")) ({ frames := 0, cells := 0, slots := 0, locals := 0 } : Room) #[(.ref a), (.ref b)] [] h0 (fun v h D' => v = some (.ref a) ∧ h0 = h ∧ D' = []) := by
  refine Con.of_runs (ls := #[.val (.ref a), .val (.ref b)]) (by decide +kernel) (fun m => rfl) ?_
  refine Runs.aloadN i9_0 rfl rfl ?_
  refine Runs.nnullY (t := 13) i9_1 (by decide) ?_
  refine Runs.aloadN i9_13 rfl rfl ?_
  exact Runs.retA i9_14 rfl rfl rfl (by decide) (by decide) ⟨rfl, rfl, rfl⟩
set_option maxRecDepth 65536 in
set_option maxHeartbeats 4000000 in
theorem own_ni (l : Launch) (Z : State) (a0 : Array Value) (hw : Wds Z a0) (n0 : Nat) (a s1 s2 : Addr) (h0 : Heap) (ga : n0 ≤ a) (m1 : s1 ≠ a) (m2 : s2 ≠ a) (O0 : Obj Z h0 a "com/example/collateral_debt_model/collateraldebtmodel/NamePair" [("com/example/collateral_debt_model/collateraldebtmodel/NamePair", "first", "Ljava/lang/String;", .null), ("com/example/collateral_debt_model/collateraldebtmodel/NamePair", "second", "Ljava/lang/String;", .null)]) (P1 : Obj Z h0 s1 "java/lang/String" []) (P2 : Obj Z h0 s2 "java/lang/String" []) : Con true l Z [("java/lang/String", 7)] n0 (⟨"com/example/collateral_debt_model/collateraldebtmodel/NamePair", "<init>", "(Ljava/lang/String;Ljava/lang/String;)V"⟩ : MethodName) prog_21_method_1_code 3 none ({ frames := 1, cells := 4, slots := 212, locals := 15 } : Room) #[(.ref a), (.ref s1), (.ref s2)] [] h0 (fun v h D' => v = none ∧ Keep h0 h [a] ∧ Obj Z h a "com/example/collateral_debt_model/collateraldebtmodel/NamePair" [("com/example/collateral_debt_model/collateraldebtmodel/NamePair", "first", "Ljava/lang/String;", (.ref s1)), ("com/example/collateral_debt_model/collateraldebtmodel/NamePair", "second", "Ljava/lang/String;", (.ref s2))] ∧ D' = []) := by
  refine Con.of_runs (ls := #[.val (.ref a), .val (.ref s1), .val (.ref s2)]) (by decide +kernel) (fun m => rfl) ?_
  refine Runs.aloadN i8_0 rfl rfl ?_
  refine Runs.initO (W := 0) i8_1 (w43 hw) (w19 hw) (w20 hw) rfl (by decide) rfl (by decide) ?_
  refine Runs.aloadN i8_4 rfl rfl ?_
  refine Runs.aloadN i8_5 rfl rfl ?_
  refine Runs.ldcS (n := 100) i8_6 (hw _ (List.mem_of_getElem? (i := 44) rfl)) (own_sa hw) (own_EW hw) (by decide) (by decide) (by decide) (by decide) ?_
  intro h_2 s_1 K_3
  show Runs true l Z [("java/lang/String", 7)] n0 _ _ _ _ _ _ _ [] h_2 2 104 8 #[.val (.ref a), .val (.ref s1), .val (.ref s2)] [(.ref s_1), (.ref s1), (.ref a)]
  refine Runs.callSW (argsL := [(.ref s1), (.ref s_1)]) (rest := [(.ref a)]) (W := 1) i8_8 (w45 hw) (w46 hw) (w47 hw) (w48 hw) (by decide) pd_5 rfl rfl rfl rfl (by decide) (by decide) (by decide) (by decide) all0 (own_cQ l Z a0 hw n0 s1 s_1 _) ?_
  intro v h1 D1 q hsz
  obtain ⟨rfl, rfl, rfl⟩ := q
  show Runs true l Z [("java/lang/String", 7)] n0 _ _ _ _ _ _ _ [] h_2 2 104 11 #[.val (.ref a), .val (.ref s1), .val (.ref s2)] [(.ref s1), (.ref a)]
  have O_4 := (P1.keep K_3 nin0)
  refine Runs.castY i8_11 (w49 hw) (Jvm.RoadKit.Ins.self O_4.1) ?_
  have O_5 := (O0.keep K_3 nin0)
  refine Runs.putF (i := 0) (ty := (.object "java/lang/String")) i8_14 (host := "") (Or.inl (w50 hw)) Via.refl O_5 rfl (lay_1 hw) rfl (Or.inr ⟨(w51 hw), rfl, rfl⟩) (w1 hw) (by decide) rfl rfl ga (Or.inr ⟨by decide, by decide⟩) ?_
  intro h_6 K_7 (O_8 : Obj Z h_6 a "com/example/collateral_debt_model/collateraldebtmodel/NamePair" [("com/example/collateral_debt_model/collateraldebtmodel/NamePair", "first", "Ljava/lang/String;", (.ref s1)), ("com/example/collateral_debt_model/collateraldebtmodel/NamePair", "second", "Ljava/lang/String;", .null)])
  refine Runs.aloadN i8_17 rfl rfl ?_
  refine Runs.aloadN i8_18 rfl rfl ?_
  refine Runs.ldcS (n := 104) i8_19 (hw _ (List.mem_of_getElem? (i := 52) rfl)) (own_sa hw) (own_EW hw) (by decide) (by decide) (by decide) (by decide) ?_
  intro h_10 s_9 K_11
  show Runs true l Z [("java/lang/String", 7)] n0 _ _ _ _ _ _ _ [] h_10 4 212 21 #[.val (.ref a), .val (.ref s1), .val (.ref s2)] [(.ref s_9), (.ref s2), (.ref a)]
  refine Runs.callSW (argsL := [(.ref s2), (.ref s_9)]) (rest := [(.ref a)]) (W := 1) i8_21 (w45 hw) (w46 hw) (w47 hw) (w48 hw) (by decide) pd_5 rfl rfl rfl rfl (by decide) (by decide) (by decide) (by decide) all0 (own_cQ l Z a0 hw n0 s2 s_9 _) ?_
  intro v h1 D1 q hsz
  obtain ⟨rfl, rfl, rfl⟩ := q
  show Runs true l Z [("java/lang/String", 7)] n0 _ _ _ _ _ _ _ [] h_10 4 212 24 #[.val (.ref a), .val (.ref s1), .val (.ref s2)] [(.ref s2), (.ref a)]
  have O_12 := (((P2.keep K_3 nin0).keep K_7 (ninS m2 nin0)).keep K_11 nin0)
  refine Runs.castY i8_24 (w49 hw) (Jvm.RoadKit.Ins.self O_12.1) ?_
  have O_13 := (O_8.keep K_11 nin0)
  refine Runs.putF (i := 1) (ty := (.object "java/lang/String")) i8_27 (host := "") (Or.inl (w53 hw)) Via.refl O_13 rfl (lay_1 hw) rfl (Or.inr ⟨(w54 hw), rfl, rfl⟩) (w1 hw) (by decide) rfl rfl ga (Or.inr ⟨by decide, by decide⟩) ?_
  intro h_14 K_15 (O_16 : Obj Z h_14 a "com/example/collateral_debt_model/collateraldebtmodel/NamePair" [("com/example/collateral_debt_model/collateraldebtmodel/NamePair", "first", "Ljava/lang/String;", (.ref s1)), ("com/example/collateral_debt_model/collateraldebtmodel/NamePair", "second", "Ljava/lang/String;", (.ref s2))])
  exact Runs.retV i8_30 rfl (by decide) (by decide) ⟨rfl, (((((Keep.refl _ _).trans K_3 all0).trans K_7 (allS (Or.inl (List.mem_of_getElem? (i := 0) rfl)) all0)).trans K_11 all0).trans K_15 (allS (Or.inl (List.mem_of_getElem? (i := 0) rfl)) all0)), O_16, rfl⟩
set_option maxRecDepth 65536 in
set_option maxHeartbeats 4000000 in
theorem own_sm (l : Launch) (Z : State) (a0 : Array Value) (hw : Wds Z a0) (n0 : Nat) (p q : Int32) (h0 : Heap) : Con true l Z [("java/lang/String", 7)] n0 (⟨"com/example/collateral_debt_model/collateraldebtmodel/NamePairEqualsPinLaw", "same", "(II)Z"⟩ : MethodName) method_3_code 4 (some .boolean) ({ frames := 0, cells := 0, slots := 0, locals := 0 } : Room) #[(.int p), (.int q)] [] h0 (fun v h D' => v = some (.int (if own_cs p = own_cs q then 1 else 0)) ∧ h0 = h ∧ D' = []) := by
  refine Con.of_runs (ls := #[.val (.int p), .val (.int q), .unset, .unset]) (by decide +kernel) (fun m => rfl) ?_
  rcases own_and3 p with q3 | q3 | q3 | q3
  · rcases own_and3 q with r3 | r3 | r3 | r3
    · refine Runs.iloadN i10_0 rfl ?_
      refine Runs.iconst (v := (3 : Int32)) i10_1 (by decide) ?_
      refine Runs.iand (z := (0 : Int32)) i10_2 q3 ?_
      refine Runs.istoreN (ls' := #[.val (.int p), .val (.int q), .val (.int (0 : Int32)), .unset]) i10_3 rfl ?_
      refine Runs.iloadN i10_4 rfl ?_
      refine Runs.iconst (v := (3 : Int32)) i10_5 (by decide) ?_
      refine Runs.iand (z := (0 : Int32)) i10_6 r3 ?_
      refine Runs.istoreN (ls' := #[.val (.int p), .val (.int q), .val (.int (0 : Int32)), .val (.int (0 : Int32))]) i10_7 rfl ?_
      refine Runs.iloadN i10_8 rfl ?_
      refine Runs.iloadN i10_9 rfl ?_
      refine Runs.icY (t := 15) i10_10 (by decide) (teq (by decide : (0 : Int32) = (0 : Int32))).1 ?_
      refine Runs.iloadN i10_15 rfl ?_
      refine Runs.iconst (v := (1 : Int32)) i10_16 (by decide) ?_
      refine Runs.icY (t := 39) i10_17 (by decide) (tlt (by decide : (0 : Int32) < (1 : Int32))).1 ?_
      refine Runs.iloadN i10_39 rfl ?_
      refine Runs.iconst (v := (2 : Int32)) i10_40 (by decide) ?_
      refine Runs.icY (t := 65) i10_41 (by decide) (tlt (by decide : (0 : Int32) < (2 : Int32))).1 ?_
      refine Runs.iloadN i10_65 rfl ?_
      refine Runs.iconst (v := (3 : Int32)) i10_66 (by decide) ?_
      refine Runs.icY (t := 91) i10_67 (by decide) (tlt (by decide : (0 : Int32) < (3 : Int32))).1 ?_
      refine Runs.iconst (v := (1 : Int32)) i10_91 (by decide) ?_
      exact Runs.retI (z := (1 : Int32)) i10_92 rfl (Or.inr (Or.inl rfl)) (by decide) (by decide) (by decide) ⟨by rw [own_cs0 q3, own_cs0 r3]; simp, rfl, rfl⟩
    · refine Runs.iloadN i10_0 rfl ?_
      refine Runs.iconst (v := (3 : Int32)) i10_1 (by decide) ?_
      refine Runs.iand (z := (0 : Int32)) i10_2 q3 ?_
      refine Runs.istoreN (ls' := #[.val (.int p), .val (.int q), .val (.int (0 : Int32)), .unset]) i10_3 rfl ?_
      refine Runs.iloadN i10_4 rfl ?_
      refine Runs.iconst (v := (3 : Int32)) i10_5 (by decide) ?_
      refine Runs.iand (z := (1 : Int32)) i10_6 r3 ?_
      refine Runs.istoreN (ls' := #[.val (.int p), .val (.int q), .val (.int (0 : Int32)), .val (.int (1 : Int32))]) i10_7 rfl ?_
      refine Runs.iloadN i10_8 rfl ?_
      refine Runs.iloadN i10_9 rfl ?_
      refine Runs.icN i10_10 (feq (by decide : ¬ ((0 : Int32) = (1 : Int32)))).1 ?_
      refine Runs.iconst (v := (0 : Int32)) i10_13 (by decide) ?_
      exact Runs.retI (z := (0 : Int32)) i10_14 rfl (Or.inr (Or.inl rfl)) (by decide) (by decide) (by decide) ⟨by rw [own_cs0 q3, own_cs1 r3]; simp, rfl, rfl⟩
    · refine Runs.iloadN i10_0 rfl ?_
      refine Runs.iconst (v := (3 : Int32)) i10_1 (by decide) ?_
      refine Runs.iand (z := (0 : Int32)) i10_2 q3 ?_
      refine Runs.istoreN (ls' := #[.val (.int p), .val (.int q), .val (.int (0 : Int32)), .unset]) i10_3 rfl ?_
      refine Runs.iloadN i10_4 rfl ?_
      refine Runs.iconst (v := (3 : Int32)) i10_5 (by decide) ?_
      refine Runs.iand (z := (2 : Int32)) i10_6 r3 ?_
      refine Runs.istoreN (ls' := #[.val (.int p), .val (.int q), .val (.int (0 : Int32)), .val (.int (2 : Int32))]) i10_7 rfl ?_
      refine Runs.iloadN i10_8 rfl ?_
      refine Runs.iloadN i10_9 rfl ?_
      refine Runs.icN i10_10 (feq (by decide : ¬ ((0 : Int32) = (2 : Int32)))).1 ?_
      refine Runs.iconst (v := (0 : Int32)) i10_13 (by decide) ?_
      exact Runs.retI (z := (0 : Int32)) i10_14 rfl (Or.inr (Or.inl rfl)) (by decide) (by decide) (by decide) ⟨by rw [own_cs0 q3, own_cs2 r3]; simp, rfl, rfl⟩
    · refine Runs.iloadN i10_0 rfl ?_
      refine Runs.iconst (v := (3 : Int32)) i10_1 (by decide) ?_
      refine Runs.iand (z := (0 : Int32)) i10_2 q3 ?_
      refine Runs.istoreN (ls' := #[.val (.int p), .val (.int q), .val (.int (0 : Int32)), .unset]) i10_3 rfl ?_
      refine Runs.iloadN i10_4 rfl ?_
      refine Runs.iconst (v := (3 : Int32)) i10_5 (by decide) ?_
      refine Runs.iand (z := (3 : Int32)) i10_6 r3 ?_
      refine Runs.istoreN (ls' := #[.val (.int p), .val (.int q), .val (.int (0 : Int32)), .val (.int (3 : Int32))]) i10_7 rfl ?_
      refine Runs.iloadN i10_8 rfl ?_
      refine Runs.iloadN i10_9 rfl ?_
      refine Runs.icN i10_10 (feq (by decide : ¬ ((0 : Int32) = (3 : Int32)))).1 ?_
      refine Runs.iconst (v := (0 : Int32)) i10_13 (by decide) ?_
      exact Runs.retI (z := (0 : Int32)) i10_14 rfl (Or.inr (Or.inl rfl)) (by decide) (by decide) (by decide) ⟨by rw [own_cs0 q3, own_cs3 r3]; simp, rfl, rfl⟩
  · rcases own_and3 q with r3 | r3 | r3 | r3
    · refine Runs.iloadN i10_0 rfl ?_
      refine Runs.iconst (v := (3 : Int32)) i10_1 (by decide) ?_
      refine Runs.iand (z := (1 : Int32)) i10_2 q3 ?_
      refine Runs.istoreN (ls' := #[.val (.int p), .val (.int q), .val (.int (1 : Int32)), .unset]) i10_3 rfl ?_
      refine Runs.iloadN i10_4 rfl ?_
      refine Runs.iconst (v := (3 : Int32)) i10_5 (by decide) ?_
      refine Runs.iand (z := (0 : Int32)) i10_6 r3 ?_
      refine Runs.istoreN (ls' := #[.val (.int p), .val (.int q), .val (.int (1 : Int32)), .val (.int (0 : Int32))]) i10_7 rfl ?_
      refine Runs.iloadN i10_8 rfl ?_
      refine Runs.iloadN i10_9 rfl ?_
      refine Runs.icN i10_10 (feq (by decide : ¬ ((1 : Int32) = (0 : Int32)))).1 ?_
      refine Runs.iconst (v := (0 : Int32)) i10_13 (by decide) ?_
      exact Runs.retI (z := (0 : Int32)) i10_14 rfl (Or.inr (Or.inl rfl)) (by decide) (by decide) (by decide) ⟨by rw [own_cs1 q3, own_cs0 r3]; simp, rfl, rfl⟩
    · refine Runs.iloadN i10_0 rfl ?_
      refine Runs.iconst (v := (3 : Int32)) i10_1 (by decide) ?_
      refine Runs.iand (z := (1 : Int32)) i10_2 q3 ?_
      refine Runs.istoreN (ls' := #[.val (.int p), .val (.int q), .val (.int (1 : Int32)), .unset]) i10_3 rfl ?_
      refine Runs.iloadN i10_4 rfl ?_
      refine Runs.iconst (v := (3 : Int32)) i10_5 (by decide) ?_
      refine Runs.iand (z := (1 : Int32)) i10_6 r3 ?_
      refine Runs.istoreN (ls' := #[.val (.int p), .val (.int q), .val (.int (1 : Int32)), .val (.int (1 : Int32))]) i10_7 rfl ?_
      refine Runs.iloadN i10_8 rfl ?_
      refine Runs.iloadN i10_9 rfl ?_
      refine Runs.icY (t := 15) i10_10 (by decide) (teq (by decide : (1 : Int32) = (1 : Int32))).1 ?_
      refine Runs.iloadN i10_15 rfl ?_
      refine Runs.iconst (v := (1 : Int32)) i10_16 (by decide) ?_
      refine Runs.icN i10_17 (flt (by decide : ¬ ((1 : Int32) < (1 : Int32)))).1 ?_
      refine Runs.iloadN i10_20 rfl ?_
      refine Runs.iconst (v := (2 : Int32)) i10_21 (by decide) ?_
      refine Runs.iushr (z := (Jvm.Free.XT.ushr p (2 : Int32))) i10_22 rfl ?_
      refine Runs.sipush (v := (255 : Int32)) i10_23 (by decide) ?_
      refine Runs.iand (z := (own_x0 p)) i10_26 rfl ?_
      refine Runs.iloadN i10_27 rfl ?_
      refine Runs.iconst (v := (2 : Int32)) i10_28 (by decide) ?_
      refine Runs.iushr (z := (Jvm.Free.XT.ushr q (2 : Int32))) i10_29 rfl ?_
      refine Runs.sipush (v := (255 : Int32)) i10_30 (by decide) ?_
      refine Runs.iand (z := (own_x0 q)) i10_33 rfl ?_
      by_cases hc34 : (own_x0 p) = (own_x0 q)
      · refine Runs.icY (t := 39) i10_34 (by decide) (teq hc34).1 ?_
        refine Runs.iloadN i10_39 rfl ?_
        refine Runs.iconst (v := (2 : Int32)) i10_40 (by decide) ?_
        refine Runs.icY (t := 65) i10_41 (by decide) (tlt (by decide : (1 : Int32) < (2 : Int32))).1 ?_
        refine Runs.iloadN i10_65 rfl ?_
        refine Runs.iconst (v := (3 : Int32)) i10_66 (by decide) ?_
        refine Runs.icY (t := 91) i10_67 (by decide) (tlt (by decide : (1 : Int32) < (3 : Int32))).1 ?_
        refine Runs.iconst (v := (1 : Int32)) i10_91 (by decide) ?_
        exact Runs.retI (z := (1 : Int32)) i10_92 rfl (Or.inr (Or.inl rfl)) (by decide) (by decide) (by decide) ⟨by rw [own_cs1 q3, own_cs1 r3]; simp [hc34], rfl, rfl⟩
      · refine Runs.icN i10_34 (feq hc34).1 ?_
        refine Runs.iconst (v := (0 : Int32)) i10_37 (by decide) ?_
        exact Runs.retI (z := (0 : Int32)) i10_38 rfl (Or.inr (Or.inl rfl)) (by decide) (by decide) (by decide) ⟨by rw [own_cs1 q3, own_cs1 r3]; simp [hc34], rfl, rfl⟩
    · refine Runs.iloadN i10_0 rfl ?_
      refine Runs.iconst (v := (3 : Int32)) i10_1 (by decide) ?_
      refine Runs.iand (z := (1 : Int32)) i10_2 q3 ?_
      refine Runs.istoreN (ls' := #[.val (.int p), .val (.int q), .val (.int (1 : Int32)), .unset]) i10_3 rfl ?_
      refine Runs.iloadN i10_4 rfl ?_
      refine Runs.iconst (v := (3 : Int32)) i10_5 (by decide) ?_
      refine Runs.iand (z := (2 : Int32)) i10_6 r3 ?_
      refine Runs.istoreN (ls' := #[.val (.int p), .val (.int q), .val (.int (1 : Int32)), .val (.int (2 : Int32))]) i10_7 rfl ?_
      refine Runs.iloadN i10_8 rfl ?_
      refine Runs.iloadN i10_9 rfl ?_
      refine Runs.icN i10_10 (feq (by decide : ¬ ((1 : Int32) = (2 : Int32)))).1 ?_
      refine Runs.iconst (v := (0 : Int32)) i10_13 (by decide) ?_
      exact Runs.retI (z := (0 : Int32)) i10_14 rfl (Or.inr (Or.inl rfl)) (by decide) (by decide) (by decide) ⟨by rw [own_cs1 q3, own_cs2 r3]; simp, rfl, rfl⟩
    · refine Runs.iloadN i10_0 rfl ?_
      refine Runs.iconst (v := (3 : Int32)) i10_1 (by decide) ?_
      refine Runs.iand (z := (1 : Int32)) i10_2 q3 ?_
      refine Runs.istoreN (ls' := #[.val (.int p), .val (.int q), .val (.int (1 : Int32)), .unset]) i10_3 rfl ?_
      refine Runs.iloadN i10_4 rfl ?_
      refine Runs.iconst (v := (3 : Int32)) i10_5 (by decide) ?_
      refine Runs.iand (z := (3 : Int32)) i10_6 r3 ?_
      refine Runs.istoreN (ls' := #[.val (.int p), .val (.int q), .val (.int (1 : Int32)), .val (.int (3 : Int32))]) i10_7 rfl ?_
      refine Runs.iloadN i10_8 rfl ?_
      refine Runs.iloadN i10_9 rfl ?_
      refine Runs.icN i10_10 (feq (by decide : ¬ ((1 : Int32) = (3 : Int32)))).1 ?_
      refine Runs.iconst (v := (0 : Int32)) i10_13 (by decide) ?_
      exact Runs.retI (z := (0 : Int32)) i10_14 rfl (Or.inr (Or.inl rfl)) (by decide) (by decide) (by decide) ⟨by rw [own_cs1 q3, own_cs3 r3]; simp, rfl, rfl⟩
  · rcases own_and3 q with r3 | r3 | r3 | r3
    · refine Runs.iloadN i10_0 rfl ?_
      refine Runs.iconst (v := (3 : Int32)) i10_1 (by decide) ?_
      refine Runs.iand (z := (2 : Int32)) i10_2 q3 ?_
      refine Runs.istoreN (ls' := #[.val (.int p), .val (.int q), .val (.int (2 : Int32)), .unset]) i10_3 rfl ?_
      refine Runs.iloadN i10_4 rfl ?_
      refine Runs.iconst (v := (3 : Int32)) i10_5 (by decide) ?_
      refine Runs.iand (z := (0 : Int32)) i10_6 r3 ?_
      refine Runs.istoreN (ls' := #[.val (.int p), .val (.int q), .val (.int (2 : Int32)), .val (.int (0 : Int32))]) i10_7 rfl ?_
      refine Runs.iloadN i10_8 rfl ?_
      refine Runs.iloadN i10_9 rfl ?_
      refine Runs.icN i10_10 (feq (by decide : ¬ ((2 : Int32) = (0 : Int32)))).1 ?_
      refine Runs.iconst (v := (0 : Int32)) i10_13 (by decide) ?_
      exact Runs.retI (z := (0 : Int32)) i10_14 rfl (Or.inr (Or.inl rfl)) (by decide) (by decide) (by decide) ⟨by rw [own_cs2 q3, own_cs0 r3]; simp, rfl, rfl⟩
    · refine Runs.iloadN i10_0 rfl ?_
      refine Runs.iconst (v := (3 : Int32)) i10_1 (by decide) ?_
      refine Runs.iand (z := (2 : Int32)) i10_2 q3 ?_
      refine Runs.istoreN (ls' := #[.val (.int p), .val (.int q), .val (.int (2 : Int32)), .unset]) i10_3 rfl ?_
      refine Runs.iloadN i10_4 rfl ?_
      refine Runs.iconst (v := (3 : Int32)) i10_5 (by decide) ?_
      refine Runs.iand (z := (1 : Int32)) i10_6 r3 ?_
      refine Runs.istoreN (ls' := #[.val (.int p), .val (.int q), .val (.int (2 : Int32)), .val (.int (1 : Int32))]) i10_7 rfl ?_
      refine Runs.iloadN i10_8 rfl ?_
      refine Runs.iloadN i10_9 rfl ?_
      refine Runs.icN i10_10 (feq (by decide : ¬ ((2 : Int32) = (1 : Int32)))).1 ?_
      refine Runs.iconst (v := (0 : Int32)) i10_13 (by decide) ?_
      exact Runs.retI (z := (0 : Int32)) i10_14 rfl (Or.inr (Or.inl rfl)) (by decide) (by decide) (by decide) ⟨by rw [own_cs2 q3, own_cs1 r3]; simp, rfl, rfl⟩
    · refine Runs.iloadN i10_0 rfl ?_
      refine Runs.iconst (v := (3 : Int32)) i10_1 (by decide) ?_
      refine Runs.iand (z := (2 : Int32)) i10_2 q3 ?_
      refine Runs.istoreN (ls' := #[.val (.int p), .val (.int q), .val (.int (2 : Int32)), .unset]) i10_3 rfl ?_
      refine Runs.iloadN i10_4 rfl ?_
      refine Runs.iconst (v := (3 : Int32)) i10_5 (by decide) ?_
      refine Runs.iand (z := (2 : Int32)) i10_6 r3 ?_
      refine Runs.istoreN (ls' := #[.val (.int p), .val (.int q), .val (.int (2 : Int32)), .val (.int (2 : Int32))]) i10_7 rfl ?_
      refine Runs.iloadN i10_8 rfl ?_
      refine Runs.iloadN i10_9 rfl ?_
      refine Runs.icY (t := 15) i10_10 (by decide) (teq (by decide : (2 : Int32) = (2 : Int32))).1 ?_
      refine Runs.iloadN i10_15 rfl ?_
      refine Runs.iconst (v := (1 : Int32)) i10_16 (by decide) ?_
      refine Runs.icN i10_17 (flt (by decide : ¬ ((2 : Int32) < (1 : Int32)))).1 ?_
      refine Runs.iloadN i10_20 rfl ?_
      refine Runs.iconst (v := (2 : Int32)) i10_21 (by decide) ?_
      refine Runs.iushr (z := (Jvm.Free.XT.ushr p (2 : Int32))) i10_22 rfl ?_
      refine Runs.sipush (v := (255 : Int32)) i10_23 (by decide) ?_
      refine Runs.iand (z := (own_x0 p)) i10_26 rfl ?_
      refine Runs.iloadN i10_27 rfl ?_
      refine Runs.iconst (v := (2 : Int32)) i10_28 (by decide) ?_
      refine Runs.iushr (z := (Jvm.Free.XT.ushr q (2 : Int32))) i10_29 rfl ?_
      refine Runs.sipush (v := (255 : Int32)) i10_30 (by decide) ?_
      refine Runs.iand (z := (own_x0 q)) i10_33 rfl ?_
      by_cases hc34 : (own_x0 p) = (own_x0 q)
      · refine Runs.icY (t := 39) i10_34 (by decide) (teq hc34).1 ?_
        refine Runs.iloadN i10_39 rfl ?_
        refine Runs.iconst (v := (2 : Int32)) i10_40 (by decide) ?_
        refine Runs.icN i10_41 (flt (by decide : ¬ ((2 : Int32) < (2 : Int32)))).1 ?_
        refine Runs.iloadN i10_44 rfl ?_
        refine Runs.bipush (v := (10 : Int32)) i10_45 (by decide) ?_
        refine Runs.iushr (z := (Jvm.Free.XT.ushr p (10 : Int32))) i10_47 rfl ?_
        refine Runs.sipush (v := (255 : Int32)) i10_48 (by decide) ?_
        refine Runs.iand (z := (own_x1 p)) i10_51 rfl ?_
        refine Runs.iloadN i10_52 rfl ?_
        refine Runs.bipush (v := (10 : Int32)) i10_53 (by decide) ?_
        refine Runs.iushr (z := (Jvm.Free.XT.ushr q (10 : Int32))) i10_55 rfl ?_
        refine Runs.sipush (v := (255 : Int32)) i10_56 (by decide) ?_
        refine Runs.iand (z := (own_x1 q)) i10_59 rfl ?_
        by_cases hc60 : (own_x1 p) = (own_x1 q)
        · refine Runs.icY (t := 65) i10_60 (by decide) (teq hc60).1 ?_
          refine Runs.iloadN i10_65 rfl ?_
          refine Runs.iconst (v := (3 : Int32)) i10_66 (by decide) ?_
          refine Runs.icY (t := 91) i10_67 (by decide) (tlt (by decide : (2 : Int32) < (3 : Int32))).1 ?_
          refine Runs.iconst (v := (1 : Int32)) i10_91 (by decide) ?_
          exact Runs.retI (z := (1 : Int32)) i10_92 rfl (Or.inr (Or.inl rfl)) (by decide) (by decide) (by decide) ⟨by rw [own_cs2 q3, own_cs2 r3]; simp [hc34, hc60], rfl, rfl⟩
        · refine Runs.icN i10_60 (feq hc60).1 ?_
          refine Runs.iconst (v := (0 : Int32)) i10_63 (by decide) ?_
          exact Runs.retI (z := (0 : Int32)) i10_64 rfl (Or.inr (Or.inl rfl)) (by decide) (by decide) (by decide) ⟨by rw [own_cs2 q3, own_cs2 r3]; simp [hc34, hc60], rfl, rfl⟩
      · refine Runs.icN i10_34 (feq hc34).1 ?_
        refine Runs.iconst (v := (0 : Int32)) i10_37 (by decide) ?_
        exact Runs.retI (z := (0 : Int32)) i10_38 rfl (Or.inr (Or.inl rfl)) (by decide) (by decide) (by decide) ⟨by rw [own_cs2 q3, own_cs2 r3]; simp [hc34], rfl, rfl⟩
    · refine Runs.iloadN i10_0 rfl ?_
      refine Runs.iconst (v := (3 : Int32)) i10_1 (by decide) ?_
      refine Runs.iand (z := (2 : Int32)) i10_2 q3 ?_
      refine Runs.istoreN (ls' := #[.val (.int p), .val (.int q), .val (.int (2 : Int32)), .unset]) i10_3 rfl ?_
      refine Runs.iloadN i10_4 rfl ?_
      refine Runs.iconst (v := (3 : Int32)) i10_5 (by decide) ?_
      refine Runs.iand (z := (3 : Int32)) i10_6 r3 ?_
      refine Runs.istoreN (ls' := #[.val (.int p), .val (.int q), .val (.int (2 : Int32)), .val (.int (3 : Int32))]) i10_7 rfl ?_
      refine Runs.iloadN i10_8 rfl ?_
      refine Runs.iloadN i10_9 rfl ?_
      refine Runs.icN i10_10 (feq (by decide : ¬ ((2 : Int32) = (3 : Int32)))).1 ?_
      refine Runs.iconst (v := (0 : Int32)) i10_13 (by decide) ?_
      exact Runs.retI (z := (0 : Int32)) i10_14 rfl (Or.inr (Or.inl rfl)) (by decide) (by decide) (by decide) ⟨by rw [own_cs2 q3, own_cs3 r3]; simp, rfl, rfl⟩
  · rcases own_and3 q with r3 | r3 | r3 | r3
    · refine Runs.iloadN i10_0 rfl ?_
      refine Runs.iconst (v := (3 : Int32)) i10_1 (by decide) ?_
      refine Runs.iand (z := (3 : Int32)) i10_2 q3 ?_
      refine Runs.istoreN (ls' := #[.val (.int p), .val (.int q), .val (.int (3 : Int32)), .unset]) i10_3 rfl ?_
      refine Runs.iloadN i10_4 rfl ?_
      refine Runs.iconst (v := (3 : Int32)) i10_5 (by decide) ?_
      refine Runs.iand (z := (0 : Int32)) i10_6 r3 ?_
      refine Runs.istoreN (ls' := #[.val (.int p), .val (.int q), .val (.int (3 : Int32)), .val (.int (0 : Int32))]) i10_7 rfl ?_
      refine Runs.iloadN i10_8 rfl ?_
      refine Runs.iloadN i10_9 rfl ?_
      refine Runs.icN i10_10 (feq (by decide : ¬ ((3 : Int32) = (0 : Int32)))).1 ?_
      refine Runs.iconst (v := (0 : Int32)) i10_13 (by decide) ?_
      exact Runs.retI (z := (0 : Int32)) i10_14 rfl (Or.inr (Or.inl rfl)) (by decide) (by decide) (by decide) ⟨by rw [own_cs3 q3, own_cs0 r3]; simp, rfl, rfl⟩
    · refine Runs.iloadN i10_0 rfl ?_
      refine Runs.iconst (v := (3 : Int32)) i10_1 (by decide) ?_
      refine Runs.iand (z := (3 : Int32)) i10_2 q3 ?_
      refine Runs.istoreN (ls' := #[.val (.int p), .val (.int q), .val (.int (3 : Int32)), .unset]) i10_3 rfl ?_
      refine Runs.iloadN i10_4 rfl ?_
      refine Runs.iconst (v := (3 : Int32)) i10_5 (by decide) ?_
      refine Runs.iand (z := (1 : Int32)) i10_6 r3 ?_
      refine Runs.istoreN (ls' := #[.val (.int p), .val (.int q), .val (.int (3 : Int32)), .val (.int (1 : Int32))]) i10_7 rfl ?_
      refine Runs.iloadN i10_8 rfl ?_
      refine Runs.iloadN i10_9 rfl ?_
      refine Runs.icN i10_10 (feq (by decide : ¬ ((3 : Int32) = (1 : Int32)))).1 ?_
      refine Runs.iconst (v := (0 : Int32)) i10_13 (by decide) ?_
      exact Runs.retI (z := (0 : Int32)) i10_14 rfl (Or.inr (Or.inl rfl)) (by decide) (by decide) (by decide) ⟨by rw [own_cs3 q3, own_cs1 r3]; simp, rfl, rfl⟩
    · refine Runs.iloadN i10_0 rfl ?_
      refine Runs.iconst (v := (3 : Int32)) i10_1 (by decide) ?_
      refine Runs.iand (z := (3 : Int32)) i10_2 q3 ?_
      refine Runs.istoreN (ls' := #[.val (.int p), .val (.int q), .val (.int (3 : Int32)), .unset]) i10_3 rfl ?_
      refine Runs.iloadN i10_4 rfl ?_
      refine Runs.iconst (v := (3 : Int32)) i10_5 (by decide) ?_
      refine Runs.iand (z := (2 : Int32)) i10_6 r3 ?_
      refine Runs.istoreN (ls' := #[.val (.int p), .val (.int q), .val (.int (3 : Int32)), .val (.int (2 : Int32))]) i10_7 rfl ?_
      refine Runs.iloadN i10_8 rfl ?_
      refine Runs.iloadN i10_9 rfl ?_
      refine Runs.icN i10_10 (feq (by decide : ¬ ((3 : Int32) = (2 : Int32)))).1 ?_
      refine Runs.iconst (v := (0 : Int32)) i10_13 (by decide) ?_
      exact Runs.retI (z := (0 : Int32)) i10_14 rfl (Or.inr (Or.inl rfl)) (by decide) (by decide) (by decide) ⟨by rw [own_cs3 q3, own_cs2 r3]; simp, rfl, rfl⟩
    · refine Runs.iloadN i10_0 rfl ?_
      refine Runs.iconst (v := (3 : Int32)) i10_1 (by decide) ?_
      refine Runs.iand (z := (3 : Int32)) i10_2 q3 ?_
      refine Runs.istoreN (ls' := #[.val (.int p), .val (.int q), .val (.int (3 : Int32)), .unset]) i10_3 rfl ?_
      refine Runs.iloadN i10_4 rfl ?_
      refine Runs.iconst (v := (3 : Int32)) i10_5 (by decide) ?_
      refine Runs.iand (z := (3 : Int32)) i10_6 r3 ?_
      refine Runs.istoreN (ls' := #[.val (.int p), .val (.int q), .val (.int (3 : Int32)), .val (.int (3 : Int32))]) i10_7 rfl ?_
      refine Runs.iloadN i10_8 rfl ?_
      refine Runs.iloadN i10_9 rfl ?_
      refine Runs.icY (t := 15) i10_10 (by decide) (teq (by decide : (3 : Int32) = (3 : Int32))).1 ?_
      refine Runs.iloadN i10_15 rfl ?_
      refine Runs.iconst (v := (1 : Int32)) i10_16 (by decide) ?_
      refine Runs.icN i10_17 (flt (by decide : ¬ ((3 : Int32) < (1 : Int32)))).1 ?_
      refine Runs.iloadN i10_20 rfl ?_
      refine Runs.iconst (v := (2 : Int32)) i10_21 (by decide) ?_
      refine Runs.iushr (z := (Jvm.Free.XT.ushr p (2 : Int32))) i10_22 rfl ?_
      refine Runs.sipush (v := (255 : Int32)) i10_23 (by decide) ?_
      refine Runs.iand (z := (own_x0 p)) i10_26 rfl ?_
      refine Runs.iloadN i10_27 rfl ?_
      refine Runs.iconst (v := (2 : Int32)) i10_28 (by decide) ?_
      refine Runs.iushr (z := (Jvm.Free.XT.ushr q (2 : Int32))) i10_29 rfl ?_
      refine Runs.sipush (v := (255 : Int32)) i10_30 (by decide) ?_
      refine Runs.iand (z := (own_x0 q)) i10_33 rfl ?_
      by_cases hc34 : (own_x0 p) = (own_x0 q)
      · refine Runs.icY (t := 39) i10_34 (by decide) (teq hc34).1 ?_
        refine Runs.iloadN i10_39 rfl ?_
        refine Runs.iconst (v := (2 : Int32)) i10_40 (by decide) ?_
        refine Runs.icN i10_41 (flt (by decide : ¬ ((3 : Int32) < (2 : Int32)))).1 ?_
        refine Runs.iloadN i10_44 rfl ?_
        refine Runs.bipush (v := (10 : Int32)) i10_45 (by decide) ?_
        refine Runs.iushr (z := (Jvm.Free.XT.ushr p (10 : Int32))) i10_47 rfl ?_
        refine Runs.sipush (v := (255 : Int32)) i10_48 (by decide) ?_
        refine Runs.iand (z := (own_x1 p)) i10_51 rfl ?_
        refine Runs.iloadN i10_52 rfl ?_
        refine Runs.bipush (v := (10 : Int32)) i10_53 (by decide) ?_
        refine Runs.iushr (z := (Jvm.Free.XT.ushr q (10 : Int32))) i10_55 rfl ?_
        refine Runs.sipush (v := (255 : Int32)) i10_56 (by decide) ?_
        refine Runs.iand (z := (own_x1 q)) i10_59 rfl ?_
        by_cases hc60 : (own_x1 p) = (own_x1 q)
        · refine Runs.icY (t := 65) i10_60 (by decide) (teq hc60).1 ?_
          refine Runs.iloadN i10_65 rfl ?_
          refine Runs.iconst (v := (3 : Int32)) i10_66 (by decide) ?_
          refine Runs.icN i10_67 (flt (by decide : ¬ ((3 : Int32) < (3 : Int32)))).1 ?_
          refine Runs.iloadN i10_70 rfl ?_
          refine Runs.bipush (v := (18 : Int32)) i10_71 (by decide) ?_
          refine Runs.iushr (z := (Jvm.Free.XT.ushr p (18 : Int32))) i10_73 rfl ?_
          refine Runs.sipush (v := (255 : Int32)) i10_74 (by decide) ?_
          refine Runs.iand (z := (own_x2 p)) i10_77 rfl ?_
          refine Runs.iloadN i10_78 rfl ?_
          refine Runs.bipush (v := (18 : Int32)) i10_79 (by decide) ?_
          refine Runs.iushr (z := (Jvm.Free.XT.ushr q (18 : Int32))) i10_81 rfl ?_
          refine Runs.sipush (v := (255 : Int32)) i10_82 (by decide) ?_
          refine Runs.iand (z := (own_x2 q)) i10_85 rfl ?_
          by_cases hc86 : (own_x2 p) = (own_x2 q)
          · refine Runs.icY (t := 91) i10_86 (by decide) (teq hc86).1 ?_
            refine Runs.iconst (v := (1 : Int32)) i10_91 (by decide) ?_
            exact Runs.retI (z := (1 : Int32)) i10_92 rfl (Or.inr (Or.inl rfl)) (by decide) (by decide) (by decide) ⟨by rw [own_cs3 q3, own_cs3 r3]; simp [hc34, hc60, hc86], rfl, rfl⟩
          · refine Runs.icN i10_86 (feq hc86).1 ?_
            refine Runs.iconst (v := (0 : Int32)) i10_89 (by decide) ?_
            exact Runs.retI (z := (0 : Int32)) i10_90 rfl (Or.inr (Or.inl rfl)) (by decide) (by decide) (by decide) ⟨by rw [own_cs3 q3, own_cs3 r3]; simp [hc34, hc60, hc86], rfl, rfl⟩
        · refine Runs.icN i10_60 (feq hc60).1 ?_
          refine Runs.iconst (v := (0 : Int32)) i10_63 (by decide) ?_
          exact Runs.retI (z := (0 : Int32)) i10_64 rfl (Or.inr (Or.inl rfl)) (by decide) (by decide) (by decide) ⟨by rw [own_cs3 q3, own_cs3 r3]; simp [hc34, hc60], rfl, rfl⟩
      · refine Runs.icN i10_34 (feq hc34).1 ?_
        refine Runs.iconst (v := (0 : Int32)) i10_37 (by decide) ?_
        exact Runs.retI (z := (0 : Int32)) i10_38 rfl (Or.inr (Or.inl rfl)) (by decide) (by decide) (by decide) ⟨by rw [own_cs3 q3, own_cs3 r3]; simp [hc34], rfl, rfl⟩
set_option maxRecDepth 65536 in
set_option maxHeartbeats 4000000 in
theorem own_eql (l : Launch) (Z : State) (a0 : Array Value) (hw : Wds Z a0) (n0 : Nat) (xs ys : List Int32) (hx : xs.length < 2147483647) (hy : ys.length < 2147483647) (t u : Addr) (k k2 : ClassId) (h0 : Heap) (X0 : Arv Z h0 t k .byte (Int32.ofNat xs.length) (xs.map Value.int) (.int 0)) (Y0 : Arv Z h0 u k2 .byte (Int32.ofNat ys.length) (ys.map Value.int) (.int 0)) (hl : xs.length = ys.length) (d : Nat) : ∀ i : Nat, d + i = ys.length → xs.take i = ys.take i → Runs true l Z [("java/lang/String", 7)] n0 "java/lang/StringLatin1" "equals" jdk_43_method_13_code 3 (some .boolean) ({ frames := 0, cells := 0, slots := 0, locals := 0 } : Room) (fun v h D' => v = some (.int (if xs = ys then 1 else 0)) ∧ h0 = h ∧ D' = []) [] h0 0 0 9 #[.val (.ref t), .val (.ref u), .val (.int (Int32.ofNat i))] [] := by
  induction d with
  | zero =>
    intro i hd hp
    refine Runs.iloadN i13_9 rfl ?_
    refine Runs.aloadN i13_10 rfl rfl ?_
    refine Runs.arrlen i13_11 X0 ?_
    refine Runs.icY (t := 32) i13_12 (by decide) (flt (own_nlt (by omega) (by omega))).2.1 ?_
    refine Runs.iconst (v := (1 : Int32)) i13_32 (by decide) ?_
    exact Runs.retI (z := (1 : Int32)) i13_33 rfl (Or.inr (Or.inl rfl)) (by decide) (by decide) (by decide) ⟨by rw [if_pos (own_all hl (by omega) hp)], rfl, rfl⟩
  | succ d ih =>
    intro i hd hp
    refine Runs.iloadN i13_9 rfl ?_
    refine Runs.aloadN i13_10 rfl rfl ?_
    refine Runs.arrlen i13_11 X0 ?_
    refine Runs.icN i13_12 (tlt (own_lt (by omega) (by omega))).2.1 ?_
    refine Runs.aloadN i13_15 rfl rfl ?_
    refine Runs.iloadN i13_16 rfl ?_
    refine Runs.baload (v := .int (xs.getD i 0)) i13_17 X0 ⟨own_nn (by omega), own_lt (by omega) (by omega)⟩ (by rw [own_cl (by omega)]; exact own_getb _ _) ?_
    refine Runs.aloadN i13_18 rfl rfl ?_
    refine Runs.iloadN i13_19 rfl ?_
    refine Runs.baload (v := .int (ys.getD i 0)) i13_20 Y0 ⟨own_nn (by omega), own_lt (by omega) (by omega)⟩ (by rw [own_cl (by omega)]; exact own_getb _ _) ?_
    by_cases hc21 : (xs.getD i 0) = (ys.getD i 0)
    · refine Runs.icY (t := 26) i13_21 (by decide) (teq hc21).1 ?_
      refine Runs.iinc (z := Int32.ofNat (i + 1)) (ls' := #[.val (.ref t), .val (.ref u), .val (.int (Int32.ofNat (i + 1)))]) i13_26 rfl (own_add (b := 1) (by omega)) rfl ?_
      refine Runs.goto (t := 9) i13_29 (by decide) ?_
      exact ih (i + 1) (by omega) (own_take hp hc21 (by omega) (by omega))
    · refine Runs.icN i13_21 (feq hc21).1 ?_
      refine Runs.iconst (v := (0 : Int32)) i13_24 (by decide) ?_
      exact Runs.retI (z := (0 : Int32)) i13_25 rfl (Or.inr (Or.inl rfl)) (by decide) (by decide) (by decide) ⟨by rw [if_neg (own_drop hc21)], rfl, rfl⟩
set_option maxRecDepth 65536 in
set_option maxHeartbeats 4000000 in
theorem own_eqB (l : Launch) (Z : State) (a0 : Array Value) (hw : Wds Z a0) (n0 : Nat) (xs ys : List Int32) (hx : xs.length < 2147483647) (hy : ys.length < 2147483647) (t u : Addr) (k k2 : ClassId) (h0 : Heap) (X0 : Arv Z h0 t k .byte (Int32.ofNat xs.length) (xs.map Value.int) (.int 0)) (Y0 : Arv Z h0 u k2 .byte (Int32.ofNat ys.length) (ys.map Value.int) (.int 0)) : Con true l Z [("java/lang/String", 7)] n0 (⟨"java/lang/StringLatin1", "equals", "([B[B)Z"⟩ : MethodName) jdk_43_method_13_code 3 (some .boolean) ({ frames := 0, cells := 0, slots := 0, locals := 0 } : Room) #[(.ref t), (.ref u)] [] h0 (fun v h D' => v = some (.int (if xs = ys then 1 else 0)) ∧ h0 = h ∧ D' = []) := by
  refine Con.of_runs (ls := #[.val (.ref t), .val (.ref u), .unset]) (by decide +kernel) (fun m => rfl) ?_
  refine Runs.aloadN i13_0 rfl rfl ?_
  refine Runs.arrlen i13_1 X0 ?_
  refine Runs.aloadN i13_2 rfl rfl ?_
  refine Runs.arrlen i13_3 Y0 ?_
  by_cases hc4 : (Int32.ofNat xs.length) = (Int32.ofNat ys.length)
  · refine Runs.icN i13_4 (teq hc4).2 ?_
    have hl : xs.length = ys.length := (own_inj (by omega) (by omega)).mp hc4
    refine Runs.iconst (v := (0 : Int32)) i13_7 (by decide) ?_
    refine Runs.istoreN (ls' := #[.val (.ref t), .val (.ref u), .val (.int (0 : Int32))]) i13_8 rfl ?_
    exact own_eql l Z a0 hw n0 xs ys hx hy t u k k2 h0 X0 Y0 hl ys.length 0 (by omega) rfl
  · refine Runs.icY (t := 34) i13_4 (by decide) (feq hc4).2 ?_
    refine Runs.iconst (v := (0 : Int32)) i13_34 (by decide) ?_
    exact Runs.retI (z := (0 : Int32)) i13_35 rfl (Or.inr (Or.inl rfl)) (by decide) (by decide) (by decide) ⟨by rw [if_neg (fun q => hc4 (by rw [q]))], rfl, rfl⟩
set_option maxRecDepth 65536 in
set_option maxHeartbeats 4000000 in
theorem own_eqS (l : Launch) (Z : State) (a0 : Array Value) (hw : Wds Z a0) (n0 : Nat) (a b t u : Addr) (k k2 : ClassId) (cs ds : List Int32) (cpt : Int32) (h0 : Heap) (hab : ¬ a = b) (S1 : Str Z h0 a t k cs) (S2 : Str Z h0 b u k2 ds) (S_C : Sta Z Z.heap "java/lang/String" "COMPACT_STRINGS" "Z" (.int cpt)) (hcpt : ¬ cpt = 0) : Con true l Z [("java/lang/String", 7)] n0 (⟨"java/lang/String", "equals", "(Ljava/lang/Object;)Z"⟩ : MethodName) jdk_42_method_66_code 3 (some .boolean) ({ frames := 1, cells := 0, slots := 0, locals := 14 } : Room) #[(.ref a), (.ref b)] [] h0 (fun v h D' => v = some (.int (if cs = ds then 1 else 0)) ∧ h0 = h ∧ D' = []) := by
  refine Con.of_runs (ls := #[.val (.ref a), .val (.ref b), .unset]) (by decide +kernel) (fun m => rfl) ?_
  refine Runs.aloadN i12_0 rfl rfl ?_
  refine Runs.aloadN i12_1 rfl rfl ?_
  refine Runs.acY (t := 7) i12_2 (by decide) rfl rfl (Jvm.Free.XT.aa_ne_t (fun q => hab (Value.ref.inj q))) ?_
  refine Runs.aloadN i12_7 rfl rfl ?_
  refine Runs.instY i12_8 (w70 hw) (Jvm.RoadKit.Ins.self S2.1.1) ?_
  refine Runs.ifN i12_11 (feq (by decide : ¬ ((1 : Int32) = (0 : Int32)))).1 ?_
  refine Runs.aloadN i12_14 rfl rfl ?_
  refine Runs.castY i12_15 (w70 hw) (Jvm.RoadKit.Ins.self S2.1.1) ?_
  refine Runs.astoreN (ls' := #[.val (.ref a), .val (.ref b), .val (.ref b)]) i12_18 rfl rfl ?_
  refine Runs.getS i12_19 (w29 hw) Via.refl S_C ?_
  refine Runs.ifN i12_22 (feq hcpt).1 ?_
  refine Runs.aloadN i12_25 rfl rfl ?_
  refine Runs.getF i12_26 (host := "") (Or.inl (w28 hw)) Via.refl (S1.1.fld (i := 1) rfl) ?_
  refine Runs.aloadN i12_29 rfl rfl ?_
  refine Runs.getF i12_30 (host := "") (Or.inl (w28 hw)) Via.refl (S2.1.fld (i := 1) rfl) ?_
  refine Runs.icN i12_33 (teq (by decide : (0 : Int32) = (0 : Int32))).2 ?_
  refine Runs.aloadN i12_36 rfl rfl ?_
  refine Runs.getF i12_37 (host := "") (Or.inl (w27 hw)) Via.refl (S1.1.fld (i := 0) rfl) ?_
  refine Runs.aloadN i12_40 rfl rfl ?_
  refine Runs.getF i12_41 (host := "") (Or.inl (w27 hw)) Via.refl (S2.1.fld (i := 0) rfl) ?_
  refine Runs.callSW (argsL := [(.ref t), (.ref u)]) (rest := []) (W := 0) i12_44 (w71 hw) (w72 hw) (w73 hw) (w74 hw) (by decide) pd_6 rfl rfl rfl rfl (by decide) (by decide) (by decide) (by decide) all0 (own_eqB l Z a0 hw n0 (cs.map fun c => (Int32.toInt8 c).toInt32) (ds.map fun c => (Int32.toInt8 c).toInt32) (by rw [List.length_map]; have := S1.2.2.2; omega) (by rw [List.length_map]; have := S2.2.2.2; omega) t u k k2 _ (by rw [List.length_map, ← own_mapb]; exact S1.2.1) (by rw [List.length_map, ← own_mapb]; exact S2.2.1)) ?_
  simp only [own_bmap S1.2.2.1 S2.2.2.1]
  intro v h1 D1 q hsz
  obtain ⟨rfl, rfl, rfl⟩ := q
  show Runs true l Z [("java/lang/String", 7)] n0 _ _ _ _ _ _ _ [] h0 0 0 47 #[.val (.ref a), .val (.ref b), .val (.ref b)] [(.int (if cs = ds then 1 else 0))]
  by_cases hq : cs = ds
  · rw [if_pos hq]
    refine Runs.ifN i12_47 (by decide) ?_
    refine Runs.iconst (v := (1 : Int32)) i12_50 (by decide) ?_
    refine Runs.goto (t := 55) i12_51 (by decide) ?_
    exact Runs.retI (z := (1 : Int32)) i12_55 rfl (Or.inr (Or.inl rfl)) (by decide) (by decide) (by decide) ⟨by simp [hq], rfl, rfl⟩
  · rw [if_neg hq]
    refine Runs.ifY (t := 54) i12_47 (by decide) (by decide) ?_
    refine Runs.iconst (v := (0 : Int32)) i12_54 (by decide) ?_
    exact Runs.retI (z := (0 : Int32)) i12_55 rfl (Or.inr (Or.inl rfl)) (by decide) (by decide) (by decide) ⟨by simp [hq], rfl, rfl⟩
set_option maxRecDepth 65536 in
set_option maxHeartbeats 4000000 in
theorem own_ne (l : Launch) (Z : State) (a0 : Array Value) (hw : Wds Z a0) (n0 : Nat) (a b s1 t1 s2 t2 s3 t3 s4 t4 : Addr) (k1 k2 k3 k4 : ClassId) (cs1 cs2 cs3 cs4 : List Int32) (cpt : Int32) (h0 : Heap) (A0 : Obj Z h0 a "com/example/collateral_debt_model/collateraldebtmodel/NamePair" [("com/example/collateral_debt_model/collateraldebtmodel/NamePair", "first", "Ljava/lang/String;", (.ref s1)), ("com/example/collateral_debt_model/collateraldebtmodel/NamePair", "second", "Ljava/lang/String;", (.ref s2))]) (B0 : Obj Z h0 b "com/example/collateral_debt_model/collateraldebtmodel/NamePair" [("com/example/collateral_debt_model/collateraldebtmodel/NamePair", "first", "Ljava/lang/String;", (.ref s3)), ("com/example/collateral_debt_model/collateraldebtmodel/NamePair", "second", "Ljava/lang/String;", (.ref s4))]) (S1 : Str Z h0 s1 t1 k1 cs1) (S2 : Str Z h0 s2 t2 k2 cs2) (S3 : Str Z h0 s3 t3 k3 cs3) (S4 : Str Z h0 s4 t4 k4 cs4) (n13 : ¬ s1 = s3) (n24 : ¬ s2 = s4) (S_C : Sta Z Z.heap "java/lang/String" "COMPACT_STRINGS" "Z" (.int cpt)) (hcpt : ¬ cpt = 0) : Con true l Z [("java/lang/String", 7)] n0 (⟨"com/example/collateral_debt_model/collateraldebtmodel/NamePair", "equals", "(Ljava/lang/Object;)Z"⟩ : MethodName) prog_21_method_5_code 3 (some .boolean) ({ frames := 2, cells := 0, slots := 0, locals := 28 } : Room) #[(.ref a), (.ref b)] [] h0 (fun v h D' => v = some (.int (if cs1 = cs3 ∧ cs2 = cs4 then 1 else 0)) ∧ h0 = h ∧ D' = []) := by
  refine Con.of_runs (ls := #[.val (.ref a), .val (.ref b), .unset]) (by decide +kernel) (fun m => rfl) ?_
  refine Runs.aloadN i11_0 rfl rfl ?_
  refine Runs.instY i11_1 (w63 hw) (Jvm.RoadKit.Ins.self B0.1) ?_
  refine Runs.ifN i11_4 (feq (by decide : ¬ ((1 : Int32) = (0 : Int32)))).1 ?_
  refine Runs.aloadN i11_7 rfl rfl ?_
  refine Runs.castY i11_8 (w63 hw) (Jvm.RoadKit.Ins.self B0.1) ?_
  refine Runs.astoreN (ls' := #[.val (.ref a), .val (.ref b), .val (.ref b)]) i11_11 rfl rfl ?_
  refine Runs.aloadN i11_12 rfl rfl ?_
  refine Runs.getF i11_13 (host := "") (Or.inl (w50 hw)) Via.refl (A0.fld (i := 0) rfl) ?_
  refine Runs.aloadN i11_16 rfl rfl ?_
  refine Runs.getF i11_17 (host := "") (Or.inl (w50 hw)) Via.refl (B0.fld (i := 0) rfl) ?_
  refine Runs.callVW (argsL := [(.ref s3)]) (rest := []) (W := 0) i11_20 (w65 hw) (w66 hw) (fun s hZ => notFace_of_selects (args := #[]) (mvT hZ (w68 hw))) (w68 hw) (w67 hw) (w69 hw) (w9 hw) (by decide) S1.1.1 pd_7 rfl rfl rfl rfl (by decide) (by decide) (by decide) (by decide) all0 (own_eqS l Z a0 hw n0 s1 s3 t1 t3 k1 k3 cs1 cs3 cpt _ n13 S1 S3 S_C hcpt) ?_
  by_cases hq_1 : cs1 = cs3
  · rw [if_pos hq_1]
    intro v h1 D1 q hsz
    obtain ⟨rfl, rfl, rfl⟩ := q
    show Runs true l Z [("java/lang/String", 7)] n0 _ _ _ _ _ _ _ [] h0 0 0 23 #[.val (.ref a), .val (.ref b), .val (.ref b)] [(.int (1 : Int32))]
    refine Runs.ifN i11_23 (feq (by decide : ¬ ((1 : Int32) = (0 : Int32)))).1 ?_
    refine Runs.aloadN i11_26 rfl rfl ?_
    refine Runs.getF i11_27 (host := "") (Or.inl (w53 hw)) Via.refl (A0.fld (i := 1) rfl) ?_
    refine Runs.aloadN i11_30 rfl rfl ?_
    refine Runs.getF i11_31 (host := "") (Or.inl (w53 hw)) Via.refl (B0.fld (i := 1) rfl) ?_
    refine Runs.callVW (argsL := [(.ref s4)]) (rest := []) (W := 0) i11_34 (w65 hw) (w66 hw) (fun s hZ => notFace_of_selects (args := #[]) (mvT hZ (w68 hw))) (w68 hw) (w67 hw) (w69 hw) (w9 hw) (by decide) S2.1.1 pd_7 rfl rfl rfl rfl (by decide) (by decide) (by decide) (by decide) all0 (own_eqS l Z a0 hw n0 s2 s4 t2 t4 k2 k4 cs2 cs4 cpt _ n24 S2 S4 S_C hcpt) ?_
    by_cases hq_2 : cs2 = cs4
    · rw [if_pos hq_2]
      intro v h1 D1 q hsz
      obtain ⟨rfl, rfl, rfl⟩ := q
      show Runs true l Z [("java/lang/String", 7)] n0 _ _ _ _ _ _ _ [] h0 0 0 37 #[.val (.ref a), .val (.ref b), .val (.ref b)] [(.int (1 : Int32))]
      refine Runs.ifN i11_37 (feq (by decide : ¬ ((1 : Int32) = (0 : Int32)))).1 ?_
      refine Runs.iconst (v := (1 : Int32)) i11_40 (by decide) ?_
      refine Runs.goto (t := 45) i11_41 (by decide) ?_
      exact Runs.retI (z := (1 : Int32)) i11_45 rfl (Or.inr (Or.inl rfl)) (by decide) (by decide) (by decide) ⟨by simp [hq_1, hq_2], rfl, rfl⟩
    · rw [if_neg hq_2]
      intro v h1 D1 q hsz
      obtain ⟨rfl, rfl, rfl⟩ := q
      show Runs true l Z [("java/lang/String", 7)] n0 _ _ _ _ _ _ _ [] h0 0 0 37 #[.val (.ref a), .val (.ref b), .val (.ref b)] [(.int (0 : Int32))]
      refine Runs.ifY (t := 44) i11_37 (by decide) (teq (by decide : (0 : Int32) = (0 : Int32))).1 ?_
      refine Runs.iconst (v := (0 : Int32)) i11_44 (by decide) ?_
      exact Runs.retI (z := (0 : Int32)) i11_45 rfl (Or.inr (Or.inl rfl)) (by decide) (by decide) (by decide) ⟨by simp [hq_1, hq_2], rfl, rfl⟩
  · rw [if_neg hq_1]
    intro v h1 D1 q hsz
    obtain ⟨rfl, rfl, rfl⟩ := q
    show Runs true l Z [("java/lang/String", 7)] n0 _ _ _ _ _ _ _ [] h0 0 0 23 #[.val (.ref a), .val (.ref b), .val (.ref b)] [(.int (0 : Int32))]
    refine Runs.ifY (t := 44) i11_23 (by decide) (teq (by decide : (0 : Int32) = (0 : Int32))).1 ?_
    refine Runs.iconst (v := (0 : Int32)) i11_44 (by decide) ?_
    exact Runs.retI (z := (0 : Int32)) i11_45 rfl (Or.inr (Or.inl rfl)) (by decide) (by decide) (by decide) ⟨by simp [hq_1], rfl, rfl⟩
set_option maxRecDepth 65536 in
set_option maxHeartbeats 4000000 in
theorem own_ne0 (l : Launch) (Z : State) (a0 : Array Value) (hw : Wds Z a0) (n0 : Nat) (a : Addr) (h0 : Heap) : Con true l Z [("java/lang/String", 7)] n0 (⟨"com/example/collateral_debt_model/collateraldebtmodel/NamePair", "equals", "(Ljava/lang/Object;)Z"⟩ : MethodName) prog_21_method_5_code 3 (some .boolean) ({ frames := 2, cells := 0, slots := 0, locals := 28 } : Room) #[(.ref a), .null] [] h0 (fun v h D' => v = some (.int 0) ∧ h0 = h ∧ D' = []) := by
  refine Con.of_runs (ls := #[.val (.ref a), .val .null, .unset]) (by decide +kernel) (fun m => rfl) ?_
  refine Runs.aloadN i11_0 rfl rfl ?_
  refine Runs.inst0 i11_1 ?_
  refine Runs.ifY (t := 44) i11_4 (by decide) (teq (by decide : (0 : Int32) = (0 : Int32))).1 ?_
  refine Runs.iconst (v := (0 : Int32)) i11_44 (by decide) ?_
  exact Runs.retI (z := (0 : Int32)) i11_45 rfl (Or.inr (Or.inl rfl)) (by decide) (by decide) (by decide) ⟨rfl, rfl, rfl⟩
set_option maxRecDepth 65536 in
set_option maxHeartbeats 4000000 in
theorem own_neS (l : Launch) (Z : State) (a0 : Array Value) (hw : Wds Z a0) (n0 : Nat) (a b : Addr) (h0 : Heap) (B0 : Obj Z h0 b "java/lang/String" []) : Con true l Z [("java/lang/String", 7)] n0 (⟨"com/example/collateral_debt_model/collateraldebtmodel/NamePair", "equals", "(Ljava/lang/Object;)Z"⟩ : MethodName) prog_21_method_5_code 3 (some .boolean) ({ frames := 2, cells := 0, slots := 0, locals := 28 } : Room) #[(.ref a), (.ref b)] [] h0 (fun v h D' => v = some (.int 0) ∧ h0 = h ∧ D' = []) := by
  refine Con.of_runs (ls := #[.val (.ref a), .val (.ref b), .unset]) (by decide +kernel) (fun m => rfl) ?_
  refine Runs.aloadN i11_0 rfl rfl ?_
  refine Runs.instN i11_1 (w63 hw) B0.1 (notInst (w75 hw) (w76 hw) (w1 hw) (by decide) (by decide)) ?_
  refine Runs.ifY (t := 44) i11_4 (by decide) (teq (by decide : (0 : Int32) = (0 : Int32))).1 ?_
  refine Runs.iconst (v := (0 : Int32)) i11_44 (by decide) ?_
  exact Runs.retI (z := (0 : Int32)) i11_45 rfl (Or.inr (Or.inl rfl)) (by decide) (by decide) (by decide) ⟨rfl, rfl, rfl⟩
set_option maxRecDepth 65536 in
set_option maxHeartbeats 4000000 in
theorem own_rest (l : Launch) (Z : State) (a0 : Array Value) (hw : Wds Z a0) (n0 : Nat) (p1 p2 p3 p4 p5 r2 s2 : Int32) (cpt : Int32) (S_C : Sta Z Z.heap "java/lang/String" "COMPACT_STRINGS" "Z" (.int cpt)) (hcpt : ¬ cpt = 0) : Runs true l Z [("java/lang/String", 7)] n0 x.cls x.name code maxLocals ret room_1 (fun v h D' => v = some (.int 1)) [] Z.heap 0 0 28 #[.val (.int p1), .val (.int p2), .val (.int p3), .val (.int p4), .val (.int p5), .val (.int r2), .val (.int s2), .unset, .unset, .unset, .unset] [] := by
  refine Runs.newO i0_28 (w0 hw) (w1 hw) (w2 hw) (lay_1 hw) (by decide) (by decide) ?_
  intro h_1 b_2 g_5 ge_6 K_3 (O_4 : Obj Z h_1 b_2 "com/example/collateral_debt_model/collateraldebtmodel/NamePair" [("com/example/collateral_debt_model/collateraldebtmodel/NamePair", "first", "Ljava/lang/String;", .null), ("com/example/collateral_debt_model/collateraldebtmodel/NamePair", "second", "Ljava/lang/String;", .null)]) U_7
  refine Runs.dup i0_31 rfl ?_
  refine Runs.iloadN i0_32 rfl ?_
  refine Runs.callSW (argsL := [(.int p1)]) (rest := [(.ref b_2), (.ref b_2)]) (W := 2) i0_33 (w3 hw) (w4 hw) (w5 hw) (w6 hw) (by decide) pd_8 rfl rfl rfl rfl (by decide) (by decide) (by decide) (by decide) all0 (own_mk l Z a0 hw n0 p1 cpt _ S_C hcpt) ?_
  intro v h_14 D1 q hsz
  obtain ⟨b_8, t_9, k_10, rfl, g_11, K_12, S_13, rfl⟩ := q
  show Runs true l Z [("java/lang/String", 7)] n0 _ _ _ _ _ _ _ [b_2] h_14 7 14 36 #[.val (.int p1), .val (.int p2), .val (.int p3), .val (.int p4), .val (.int p5), .val (.int r2), .val (.int s2), .unset, .unset, .unset, .unset] [(.ref b_8), (.ref b_2), (.ref b_2)]
  refine Runs.iloadN i0_36 rfl ?_
  refine Runs.callSW (argsL := [(.int p2)]) (rest := [(.ref b_8), (.ref b_2), (.ref b_2)]) (W := 3) i0_37 (w3 hw) (w4 hw) (w5 hw) (w6 hw) (by decide) pd_8 rfl rfl rfl rfl (by decide) (by decide) (by decide) (by decide) all0 (own_mk l Z a0 hw n0 p2 cpt _ S_C hcpt) ?_
  intro v h_21 D1 q hsz
  obtain ⟨b_15, t_16, k_17, rfl, g_18, K_19, S_20, rfl⟩ := q
  show Runs true l Z [("java/lang/String", 7)] n0 _ _ _ _ _ _ _ [b_2] h_21 13 26 40 #[.val (.int p1), .val (.int p2), .val (.int p3), .val (.int p4), .val (.int p5), .val (.int r2), .val (.int s2), .unset, .unset, .unset, .unset] [(.ref b_15), (.ref b_8), (.ref b_2), (.ref b_2)]
  have O_22 := ((O_4.keep K_12 nin0).keep K_19 nin0)
  have O_23 := (S_13.1.keep K_19 nin0)
  refine Runs.callCW (argsL := [(.ref b_8), (.ref b_15)]) (rest := [(.ref b_2)]) (W := 1) i0_40 rfl (w40 hw) (w41 hw) (w42 hw) (w2 hw) (by decide) pd_9 rfl rfl rfl rfl (by decide) (by decide) (by decide) (by decide) all0 (own_ni l Z a0 hw n0 b_2 b_8 b_15 _ ge_6 (Nat.ne_of_gt (Nat.lt_of_lt_of_le (Nat.lt_of_lt_of_le O_4.lt (Nat.le_refl _)) g_11)) (Nat.ne_of_gt (Nat.lt_of_lt_of_le (Nat.lt_of_lt_of_le O_4.lt K_12.1) g_18)) O_22 (O_23.sub (fun _ q => nomatch q)) (S_20.1.sub (fun _ q => nomatch q))) ?_
  intro v h_26 D1 q hsz
  obtain ⟨rfl, K_24, O_25, rfl⟩ := q
  show Runs true l Z [("java/lang/String", 7)] n0 _ _ _ _ _ _ _ [b_2] h_26 17 238 43 #[.val (.int p1), .val (.int p2), .val (.int p3), .val (.int p4), .val (.int p5), .val (.int r2), .val (.int s2), .unset, .unset, .unset, .unset] [(.ref b_2)]
  refine Runs.astore (ls' := #[.val (.int p1), .val (.int p2), .val (.int p3), .val (.int p4), .val (.int p5), .val (.int r2), .val (.int s2), .val (.ref b_2), .unset, .unset, .unset]) i0_43 rfl rfl ?_
  refine Runs.iload i0_45 rfl ?_
  refine Runs.iconst (v := (2 : Int32)) i0_47 (by decide) ?_
  obtain ⟨x_27, hx_27⟩ : ∃ z : Int32, Jvm.Free.XT.ushr p5 (2 : Int32) = z := ⟨_, rfl⟩
  refine Runs.iushr i0_48 hx_27 ?_
  refine Runs.iconst (v := (3 : Int32)) i0_49 (by decide) ?_
  obtain ⟨x_28, hx_28⟩ : ∃ z : Int32, x_27 &&& (3 : Int32) = z := ⟨_, rfl⟩
  refine Runs.iand i0_50 hx_28 ?_
  refine Runs.istore (ls' := #[.val (.int p1), .val (.int p2), .val (.int p3), .val (.int p4), .val (.int p5), .val (.int r2), .val (.int s2), .val (.ref b_2), .val (.int x_28), .unset, .unset]) i0_51 rfl ?_
  refine Runs.iload i0_53 rfl ?_
  refine Runs.iconst (v := (2 : Int32)) i0_55 (by decide) ?_
  by_cases hc56 : x_28 = (2 : Int32)
  · refine Runs.icN i0_56 (teq hc56).2 ?_
    refine Runs.aload i0_59 rfl rfl ?_
    refine Runs.aconstNull i0_61 ?_
    refine Runs.callVW (argsL := [.null]) (rest := []) (W := 0) i0_62 (w58 hw) (w59 hw) (fun s hZ => notFace_of_selects (args := #[]) (mvT hZ (w61 hw))) (w61 hw) (w60 hw) (w62 hw) (w2 hw) (by decide) O_25.1 pd_7 rfl rfl rfl rfl (by decide) (by decide) (by decide) (by decide) all0 (own_ne0 l Z a0 hw n0 b_2 _) ?_
    intro v h1 D1 q hsz
    obtain ⟨rfl, rfl, rfl⟩ := q
    show Runs true l Z [("java/lang/String", 7)] n0 _ _ _ _ _ _ _ [b_2] h_26 17 238 65 #[.val (.int p1), .val (.int p2), .val (.int p3), .val (.int p4), .val (.int p5), .val (.int r2), .val (.int s2), .val (.ref b_2), .val (.int x_28), .unset, .unset] [(.int (0 : Int32))]
    refine Runs.ifN i0_65 (teq (by decide : (0 : Int32) = (0 : Int32))).2 ?_
    refine Runs.iconst (v := (1 : Int32)) i0_68 (by decide) ?_
    refine Runs.goto (t := 73) i0_69 (by decide) ?_
    exact Runs.retI (z := (1 : Int32)) i0_73 rfl (Or.inr (Or.inl rfl)) (by decide) (by decide) (by decide) rfl
  · refine Runs.icY (t := 74) i0_56 (by decide) (feq hc56).2 ?_
    refine Runs.iload i0_74 rfl ?_
    refine Runs.iconst (v := (3 : Int32)) i0_76 (by decide) ?_
    by_cases hc77 : x_28 = (3 : Int32)
    · refine Runs.icN i0_77 (teq hc77).2 ?_
      refine Runs.iloadN i0_80 rfl ?_
      refine Runs.callSW (argsL := [(.int p1)]) (rest := []) (W := 0) i0_81 (w3 hw) (w4 hw) (w5 hw) (w6 hw) (by decide) pd_8 rfl rfl rfl rfl (by decide) (by decide) (by decide) (by decide) all0 (own_mk l Z a0 hw n0 p1 cpt _ S_C hcpt) ?_
      intro v h_35 D1 q hsz
      obtain ⟨b_29, t_30, k_31, rfl, g_32, K_33, S_34, rfl⟩ := q
      show Runs true l Z [("java/lang/String", 7)] n0 _ _ _ _ _ _ _ [b_2] h_35 23 250 84 #[.val (.int p1), .val (.int p2), .val (.int p3), .val (.int p4), .val (.int p5), .val (.int r2), .val (.int s2), .val (.ref b_2), .val (.int x_28), .unset, .unset] [(.ref b_29)]
      refine Runs.astore (ls' := #[.val (.int p1), .val (.int p2), .val (.int p3), .val (.int p4), .val (.int p5), .val (.int r2), .val (.int s2), .val (.ref b_2), .val (.int x_28), .val (.ref b_29), .unset]) i0_84 rfl rfl ?_
      refine Runs.aload i0_86 rfl rfl ?_
      refine Runs.aload i0_88 rfl rfl ?_
      have O_36 := (O_25.keep K_33 nin0)
      refine Runs.callVW (argsL := [(.ref b_29)]) (rest := []) (W := 0) i0_90 (w58 hw) (w59 hw) (fun s hZ => notFace_of_selects (args := #[]) (mvT hZ (w61 hw))) (w61 hw) (w60 hw) (w62 hw) (w2 hw) (by decide) O_36.1 pd_7 rfl rfl rfl rfl (by decide) (by decide) (by decide) (by decide) all0 (own_neS l Z a0 hw n0 b_2 b_29 _ (S_34.1.sub (fun _ q => nomatch q))) ?_
      intro v h1 D1 q hsz
      obtain ⟨rfl, rfl, rfl⟩ := q
      show Runs true l Z [("java/lang/String", 7)] n0 _ _ _ _ _ _ _ [b_2] h_35 23 250 93 #[.val (.int p1), .val (.int p2), .val (.int p3), .val (.int p4), .val (.int p5), .val (.int r2), .val (.int s2), .val (.ref b_2), .val (.int x_28), .val (.ref b_29), .unset] [(.int (0 : Int32))]
      refine Runs.ifN i0_93 (teq (by decide : (0 : Int32) = (0 : Int32))).2 ?_
      refine Runs.iconst (v := (1 : Int32)) i0_96 (by decide) ?_
      refine Runs.goto (t := 101) i0_97 (by decide) ?_
      exact Runs.retI (z := (1 : Int32)) i0_101 rfl (Or.inr (Or.inl rfl)) (by decide) (by decide) (by decide) rfl
    · refine Runs.icY (t := 102) i0_77 (by decide) (feq hc77).2 ?_
      refine Runs.newO i0_102 (w0 hw) (w1 hw) (w2 hw) (lay_1 hw) (by decide) (by decide) ?_
      intro h_37 b_38 g_41 ge_42 K_39 (O_40 : Obj Z h_37 b_38 "com/example/collateral_debt_model/collateraldebtmodel/NamePair" [("com/example/collateral_debt_model/collateraldebtmodel/NamePair", "first", "Ljava/lang/String;", .null), ("com/example/collateral_debt_model/collateraldebtmodel/NamePair", "second", "Ljava/lang/String;", .null)]) U_43
      refine Runs.dup i0_105 rfl ?_
      refine Runs.iload i0_106 rfl ?_
      refine Runs.callSW (argsL := [(.int r2)]) (rest := [(.ref b_38), (.ref b_38)]) (W := 2) i0_108 (w3 hw) (w4 hw) (w5 hw) (w6 hw) (by decide) pd_8 rfl rfl rfl rfl (by decide) (by decide) (by decide) (by decide) all0 (own_mk l Z a0 hw n0 r2 cpt _ S_C hcpt) ?_
      intro v h_50 D1 q hsz
      obtain ⟨b_44, t_45, k_46, rfl, g_47, K_48, S_49, rfl⟩ := q
      show Runs true l Z [("java/lang/String", 7)] n0 _ _ _ _ _ _ _ [b_38, b_2] h_50 24 252 111 #[.val (.int p1), .val (.int p2), .val (.int p3), .val (.int p4), .val (.int p5), .val (.int r2), .val (.int s2), .val (.ref b_2), .val (.int x_28), .unset, .unset] [(.ref b_44), (.ref b_38), (.ref b_38)]
      refine Runs.iload i0_111 rfl ?_
      refine Runs.callSW (argsL := [(.int s2)]) (rest := [(.ref b_44), (.ref b_38), (.ref b_38)]) (W := 3) i0_113 (w3 hw) (w4 hw) (w5 hw) (w6 hw) (by decide) pd_8 rfl rfl rfl rfl (by decide) (by decide) (by decide) (by decide) all0 (own_mk l Z a0 hw n0 s2 cpt _ S_C hcpt) ?_
      intro v h_57 D1 q hsz
      obtain ⟨b_51, t_52, k_53, rfl, g_54, K_55, S_56, rfl⟩ := q
      show Runs true l Z [("java/lang/String", 7)] n0 _ _ _ _ _ _ _ [b_38, b_2] h_57 30 264 116 #[.val (.int p1), .val (.int p2), .val (.int p3), .val (.int p4), .val (.int p5), .val (.int r2), .val (.int s2), .val (.ref b_2), .val (.int x_28), .unset, .unset] [(.ref b_51), (.ref b_44), (.ref b_38), (.ref b_38)]
      have O_58 := ((O_40.keep K_48 nin0).keep K_55 nin0)
      have O_59 := (S_49.1.keep K_55 nin0)
      refine Runs.callCW (argsL := [(.ref b_44), (.ref b_51)]) (rest := [(.ref b_38)]) (W := 1) i0_116 rfl (w40 hw) (w41 hw) (w42 hw) (w2 hw) (by decide) pd_9 rfl rfl rfl rfl (by decide) (by decide) (by decide) (by decide) all0 (own_ni l Z a0 hw n0 b_38 b_44 b_51 _ ge_42 (Nat.ne_of_gt (Nat.lt_of_lt_of_le (Nat.lt_of_lt_of_le O_40.lt (Nat.le_refl _)) g_47)) (Nat.ne_of_gt (Nat.lt_of_lt_of_le (Nat.lt_of_lt_of_le O_40.lt K_48.1) g_54)) O_58 (O_59.sub (fun _ q => nomatch q)) (S_56.1.sub (fun _ q => nomatch q))) ?_
      intro v h_62 D1 q hsz
      obtain ⟨rfl, K_60, O_61, rfl⟩ := q
      show Runs true l Z [("java/lang/String", 7)] n0 _ _ _ _ _ _ _ [b_38, b_2] h_62 34 476 119 #[.val (.int p1), .val (.int p2), .val (.int p3), .val (.int p4), .val (.int p5), .val (.int r2), .val (.int s2), .val (.ref b_2), .val (.int x_28), .unset, .unset] [(.ref b_38)]
      refine Runs.astore (ls' := #[.val (.int p1), .val (.int p2), .val (.int p3), .val (.int p4), .val (.int p5), .val (.int r2), .val (.int s2), .val (.ref b_2), .val (.int x_28), .val (.ref b_38), .unset]) i0_119 rfl rfl ?_
      refine Runs.iloadN i0_121 rfl ?_
      refine Runs.iload i0_122 rfl ?_
      refine Runs.callSW (argsL := [(.int p1), (.int r2)]) (rest := []) (W := 0) i0_124 (w55 hw) (w56 hw) (w5 hw) (w57 hw) (by decide) pd_10 rfl rfl rfl rfl (by decide) (by decide) (by decide) (by decide) all0 (own_sm l Z a0 hw n0 p1 r2 _) ?_
      by_cases hq_63 : own_cs p1 = own_cs r2
      · rw [if_pos hq_63]
        intro v h1 D1 q hsz
        obtain ⟨rfl, rfl, rfl⟩ := q
        show Runs true l Z [("java/lang/String", 7)] n0 _ _ _ _ _ _ _ [b_38, b_2] h_62 34 476 127 #[.val (.int p1), .val (.int p2), .val (.int p3), .val (.int p4), .val (.int p5), .val (.int r2), .val (.int s2), .val (.ref b_2), .val (.int x_28), .val (.ref b_38), .unset] [(.int (1 : Int32))]
        refine Runs.ifN i0_127 (feq (by decide : ¬ ((1 : Int32) = (0 : Int32)))).1 ?_
        refine Runs.iloadN i0_130 rfl ?_
        refine Runs.iload i0_131 rfl ?_
        refine Runs.callSW (argsL := [(.int p2), (.int s2)]) (rest := []) (W := 0) i0_133 (w55 hw) (w56 hw) (w5 hw) (w57 hw) (by decide) pd_10 rfl rfl rfl rfl (by decide) (by decide) (by decide) (by decide) all0 (own_sm l Z a0 hw n0 p2 s2 _) ?_
        by_cases hq_64 : own_cs p2 = own_cs s2
        · rw [if_pos hq_64]
          intro v h1 D1 q hsz
          obtain ⟨rfl, rfl, rfl⟩ := q
          show Runs true l Z [("java/lang/String", 7)] n0 _ _ _ _ _ _ _ [b_38, b_2] h_62 34 476 136 #[.val (.int p1), .val (.int p2), .val (.int p3), .val (.int p4), .val (.int p5), .val (.int r2), .val (.int s2), .val (.ref b_2), .val (.int x_28), .val (.ref b_38), .unset] [(.int (1 : Int32))]
          refine Runs.ifN i0_136 (feq (by decide : ¬ ((1 : Int32) = (0 : Int32)))).1 ?_
          refine Runs.iconst (v := (1 : Int32)) i0_139 (by decide) ?_
          refine Runs.goto (t := 144) i0_140 (by decide) ?_
          refine Runs.istore (ls' := #[.val (.int p1), .val (.int p2), .val (.int p3), .val (.int p4), .val (.int p5), .val (.int r2), .val (.int s2), .val (.ref b_2), .val (.int x_28), .val (.ref b_38), .val (.int (1 : Int32))]) i0_144 rfl ?_
          refine Runs.aload i0_146 rfl rfl ?_
          refine Runs.aload i0_148 rfl rfl ?_
          have O_65 := ((((O_25.keep K_39 nin0).keep K_48 nin0).keep K_55 nin0).keep K_60 (ninS (Nat.ne_of_lt (Nat.lt_of_lt_of_le (Nat.lt_of_lt_of_le O_4.lt (Nat.le_trans (Nat.le_trans K_12.1 K_19.1) K_24.1)) g_41)) nin0))
          have S_66 : Str Z h_62 b_8 t_9 k_10 (own_cs p1) := ⟨(((((O_23.keep K_24 (ninS (Nat.ne_of_gt (Nat.lt_of_lt_of_le (Nat.lt_of_lt_of_le O_4.lt (Nat.le_refl _)) g_11)) nin0)).keep K_39 nin0).keep K_48 nin0).keep K_55 nin0).keep K_60 (ninS (Nat.ne_of_lt (Nat.lt_of_lt_of_le (Nat.lt_of_lt_of_le S_13.1.lt (Nat.le_trans K_19.1 K_24.1)) g_41)) nin0)), ((((((S_13.2.1.keep K_19 nin0).keep K_24 (ninS (Ne.symm (Exa.neArv O_22.1 (S_13.2.1.keep K_19 nin0) (w1 hw))) nin0)).keep K_39 nin0).keep K_48 nin0).keep K_55 nin0).keep K_60 (ninS (Nat.ne_of_lt (Nat.lt_of_lt_of_le (Nat.lt_of_lt_of_le S_13.2.1.lt (Nat.le_trans K_19.1 K_24.1)) g_41)) nin0)), S_13.2.2⟩
          have S_67 : Str Z h_62 b_15 t_16 k_17 (own_cs p2) := ⟨(((((S_20.1.keep K_24 (ninS (Nat.ne_of_gt (Nat.lt_of_lt_of_le (Nat.lt_of_lt_of_le O_4.lt K_12.1) g_18)) nin0)).keep K_39 nin0).keep K_48 nin0).keep K_55 nin0).keep K_60 (ninS (Nat.ne_of_lt (Nat.lt_of_lt_of_le (Nat.lt_of_lt_of_le S_20.1.lt K_24.1) g_41)) nin0)), (((((S_20.2.1.keep K_24 (ninS (Ne.symm (Exa.neArv O_22.1 S_20.2.1 (w1 hw))) nin0)).keep K_39 nin0).keep K_48 nin0).keep K_55 nin0).keep K_60 (ninS (Nat.ne_of_lt (Nat.lt_of_lt_of_le (Nat.lt_of_lt_of_le S_20.2.1.lt K_24.1) g_41)) nin0)), S_20.2.2⟩
          have S_68 : Str Z h_62 b_44 t_45 k_46 (own_cs r2) := ⟨(O_59.keep K_60 (ninS (Nat.ne_of_gt (Nat.lt_of_lt_of_le (Nat.lt_of_lt_of_le O_40.lt (Nat.le_refl _)) g_47)) nin0)), ((S_49.2.1.keep K_55 nin0).keep K_60 (ninS (Ne.symm (Exa.neArv O_58.1 (S_49.2.1.keep K_55 nin0) (w1 hw))) nin0)), S_49.2.2⟩
          have S_69 : Str Z h_62 b_51 t_52 k_53 (own_cs s2) := ⟨(S_56.1.keep K_60 (ninS (Nat.ne_of_gt (Nat.lt_of_lt_of_le (Nat.lt_of_lt_of_le O_40.lt K_48.1) g_54)) nin0)), (S_56.2.1.keep K_60 (ninS (Ne.symm (Exa.neArv O_58.1 S_56.2.1 (w1 hw))) nin0)), S_56.2.2⟩
          refine Runs.callVW (argsL := [(.ref b_38)]) (rest := []) (W := 0) i0_150 (w58 hw) (w59 hw) (fun s hZ => notFace_of_selects (args := #[]) (mvT hZ (w61 hw))) (w61 hw) (w60 hw) (w62 hw) (w2 hw) (by decide) O_65.1 pd_7 rfl rfl rfl rfl (by decide) (by decide) (by decide) (by decide) all0 (own_ne l Z a0 hw n0 b_2 b_38 b_8 t_9 b_15 t_16 b_44 t_45 b_51 t_52 k_10 k_17 k_46 k_53 (own_cs p1) (own_cs p2) (own_cs r2) (own_cs s2) cpt _ O_65 O_61 S_66 S_67 S_68 S_69 (Nat.ne_of_lt (Nat.lt_of_lt_of_le (Nat.lt_of_lt_of_le S_13.1.lt (Nat.le_trans (Nat.le_trans K_19.1 K_24.1) K_39.1)) g_47)) (Nat.ne_of_lt (Nat.lt_of_lt_of_le (Nat.lt_of_lt_of_le S_20.1.lt (Nat.le_trans (Nat.le_trans K_24.1 K_39.1) K_48.1)) g_54)) S_C hcpt) ?_
          rw [show (if (own_cs p1) = (own_cs r2) ∧ (own_cs p2) = (own_cs s2) then (1 : Int32) else 0) = (1 : Int32) by simp [hq_63, hq_64]]
          intro v h1 D1 q hsz
          obtain ⟨rfl, rfl, rfl⟩ := q
          show Runs true l Z [("java/lang/String", 7)] n0 _ _ _ _ _ _ _ [b_38, b_2] h_62 34 476 153 #[.val (.int p1), .val (.int p2), .val (.int p3), .val (.int p4), .val (.int p5), .val (.int r2), .val (.int s2), .val (.ref b_2), .val (.int x_28), .val (.ref b_38), .val (.int (1 : Int32))] [(.int (1 : Int32))]
          refine Runs.iload i0_153 rfl ?_
          refine Runs.icN i0_155 (teq (by decide : (1 : Int32) = (1 : Int32))).2 ?_
          refine Runs.aload i0_158 rfl rfl ?_
          refine Runs.aload i0_160 rfl rfl ?_
          have S_70 : Str Z h_62 b_44 t_45 k_46 (own_cs r2) := ⟨(O_59.keep K_60 (ninS (Nat.ne_of_gt (Nat.lt_of_lt_of_le (Nat.lt_of_lt_of_le O_40.lt (Nat.le_refl _)) g_47)) nin0)), ((S_49.2.1.keep K_55 nin0).keep K_60 (ninS (Ne.symm (Exa.neArv O_58.1 (S_49.2.1.keep K_55 nin0) (w1 hw))) nin0)), S_49.2.2⟩
          have S_71 : Str Z h_62 b_51 t_52 k_53 (own_cs s2) := ⟨(S_56.1.keep K_60 (ninS (Nat.ne_of_gt (Nat.lt_of_lt_of_le (Nat.lt_of_lt_of_le O_40.lt K_48.1) g_54)) nin0)), (S_56.2.1.keep K_60 (ninS (Ne.symm (Exa.neArv O_58.1 S_56.2.1 (w1 hw))) nin0)), S_56.2.2⟩
          have S_72 : Str Z h_62 b_8 t_9 k_10 (own_cs p1) := ⟨(((((O_23.keep K_24 (ninS (Nat.ne_of_gt (Nat.lt_of_lt_of_le (Nat.lt_of_lt_of_le O_4.lt (Nat.le_refl _)) g_11)) nin0)).keep K_39 nin0).keep K_48 nin0).keep K_55 nin0).keep K_60 (ninS (Nat.ne_of_lt (Nat.lt_of_lt_of_le (Nat.lt_of_lt_of_le S_13.1.lt (Nat.le_trans K_19.1 K_24.1)) g_41)) nin0)), ((((((S_13.2.1.keep K_19 nin0).keep K_24 (ninS (Ne.symm (Exa.neArv O_22.1 (S_13.2.1.keep K_19 nin0) (w1 hw))) nin0)).keep K_39 nin0).keep K_48 nin0).keep K_55 nin0).keep K_60 (ninS (Nat.ne_of_lt (Nat.lt_of_lt_of_le (Nat.lt_of_lt_of_le S_13.2.1.lt (Nat.le_trans K_19.1 K_24.1)) g_41)) nin0)), S_13.2.2⟩
          have S_73 : Str Z h_62 b_15 t_16 k_17 (own_cs p2) := ⟨(((((S_20.1.keep K_24 (ninS (Nat.ne_of_gt (Nat.lt_of_lt_of_le (Nat.lt_of_lt_of_le O_4.lt K_12.1) g_18)) nin0)).keep K_39 nin0).keep K_48 nin0).keep K_55 nin0).keep K_60 (ninS (Nat.ne_of_lt (Nat.lt_of_lt_of_le (Nat.lt_of_lt_of_le S_20.1.lt K_24.1) g_41)) nin0)), (((((S_20.2.1.keep K_24 (ninS (Ne.symm (Exa.neArv O_22.1 S_20.2.1 (w1 hw))) nin0)).keep K_39 nin0).keep K_48 nin0).keep K_55 nin0).keep K_60 (ninS (Nat.ne_of_lt (Nat.lt_of_lt_of_le (Nat.lt_of_lt_of_le S_20.2.1.lt K_24.1) g_41)) nin0)), S_20.2.2⟩
          refine Runs.callVW (argsL := [(.ref b_2)]) (rest := []) (W := 0) i0_162 (w58 hw) (w59 hw) (fun s hZ => notFace_of_selects (args := #[]) (mvT hZ (w61 hw))) (w61 hw) (w60 hw) (w62 hw) (w2 hw) (by decide) O_61.1 pd_7 rfl rfl rfl rfl (by decide) (by decide) (by decide) (by decide) all0 (own_ne l Z a0 hw n0 b_38 b_2 b_44 t_45 b_51 t_52 b_8 t_9 b_15 t_16 k_46 k_53 k_10 k_17 (own_cs r2) (own_cs s2) (own_cs p1) (own_cs p2) cpt _ O_61 O_65 S_70 S_71 S_72 S_73 (Nat.ne_of_gt (Nat.lt_of_lt_of_le (Nat.lt_of_lt_of_le S_13.1.lt (Nat.le_trans (Nat.le_trans K_19.1 K_24.1) K_39.1)) g_47)) (Nat.ne_of_gt (Nat.lt_of_lt_of_le (Nat.lt_of_lt_of_le S_20.1.lt (Nat.le_trans (Nat.le_trans K_24.1 K_39.1) K_48.1)) g_54)) S_C hcpt) ?_
          rw [show (if (own_cs r2) = (own_cs p1) ∧ (own_cs s2) = (own_cs p2) then (1 : Int32) else 0) = (1 : Int32) by simp [eq_comm, hq_63, hq_64]]
          intro v h1 D1 q hsz
          obtain ⟨rfl, rfl, rfl⟩ := q
          show Runs true l Z [("java/lang/String", 7)] n0 _ _ _ _ _ _ _ [b_38, b_2] h_62 34 476 165 #[.val (.int p1), .val (.int p2), .val (.int p3), .val (.int p4), .val (.int p5), .val (.int r2), .val (.int s2), .val (.ref b_2), .val (.int x_28), .val (.ref b_38), .val (.int (1 : Int32))] [(.int (1 : Int32))]
          refine Runs.iload i0_165 rfl ?_
          refine Runs.icN i0_167 (teq (by decide : (1 : Int32) = (1 : Int32))).2 ?_
          refine Runs.iconst (v := (1 : Int32)) i0_170 (by decide) ?_
          refine Runs.goto (t := 175) i0_171 (by decide) ?_
          exact Runs.retI (z := (1 : Int32)) i0_175 rfl (Or.inr (Or.inl rfl)) (by decide) (by decide) (by decide) rfl
        · rw [if_neg hq_64]
          intro v h1 D1 q hsz
          obtain ⟨rfl, rfl, rfl⟩ := q
          show Runs true l Z [("java/lang/String", 7)] n0 _ _ _ _ _ _ _ [b_38, b_2] h_62 34 476 136 #[.val (.int p1), .val (.int p2), .val (.int p3), .val (.int p4), .val (.int p5), .val (.int r2), .val (.int s2), .val (.ref b_2), .val (.int x_28), .val (.ref b_38), .unset] [(.int (0 : Int32))]
          refine Runs.ifY (t := 143) i0_136 (by decide) (teq (by decide : (0 : Int32) = (0 : Int32))).1 ?_
          refine Runs.iconst (v := (0 : Int32)) i0_143 (by decide) ?_
          refine Runs.istore (ls' := #[.val (.int p1), .val (.int p2), .val (.int p3), .val (.int p4), .val (.int p5), .val (.int r2), .val (.int s2), .val (.ref b_2), .val (.int x_28), .val (.ref b_38), .val (.int (0 : Int32))]) i0_144 rfl ?_
          refine Runs.aload i0_146 rfl rfl ?_
          refine Runs.aload i0_148 rfl rfl ?_
          have O_74 := ((((O_25.keep K_39 nin0).keep K_48 nin0).keep K_55 nin0).keep K_60 (ninS (Nat.ne_of_lt (Nat.lt_of_lt_of_le (Nat.lt_of_lt_of_le O_4.lt (Nat.le_trans (Nat.le_trans K_12.1 K_19.1) K_24.1)) g_41)) nin0))
          have S_75 : Str Z h_62 b_8 t_9 k_10 (own_cs p1) := ⟨(((((O_23.keep K_24 (ninS (Nat.ne_of_gt (Nat.lt_of_lt_of_le (Nat.lt_of_lt_of_le O_4.lt (Nat.le_refl _)) g_11)) nin0)).keep K_39 nin0).keep K_48 nin0).keep K_55 nin0).keep K_60 (ninS (Nat.ne_of_lt (Nat.lt_of_lt_of_le (Nat.lt_of_lt_of_le S_13.1.lt (Nat.le_trans K_19.1 K_24.1)) g_41)) nin0)), ((((((S_13.2.1.keep K_19 nin0).keep K_24 (ninS (Ne.symm (Exa.neArv O_22.1 (S_13.2.1.keep K_19 nin0) (w1 hw))) nin0)).keep K_39 nin0).keep K_48 nin0).keep K_55 nin0).keep K_60 (ninS (Nat.ne_of_lt (Nat.lt_of_lt_of_le (Nat.lt_of_lt_of_le S_13.2.1.lt (Nat.le_trans K_19.1 K_24.1)) g_41)) nin0)), S_13.2.2⟩
          have S_76 : Str Z h_62 b_15 t_16 k_17 (own_cs p2) := ⟨(((((S_20.1.keep K_24 (ninS (Nat.ne_of_gt (Nat.lt_of_lt_of_le (Nat.lt_of_lt_of_le O_4.lt K_12.1) g_18)) nin0)).keep K_39 nin0).keep K_48 nin0).keep K_55 nin0).keep K_60 (ninS (Nat.ne_of_lt (Nat.lt_of_lt_of_le (Nat.lt_of_lt_of_le S_20.1.lt K_24.1) g_41)) nin0)), (((((S_20.2.1.keep K_24 (ninS (Ne.symm (Exa.neArv O_22.1 S_20.2.1 (w1 hw))) nin0)).keep K_39 nin0).keep K_48 nin0).keep K_55 nin0).keep K_60 (ninS (Nat.ne_of_lt (Nat.lt_of_lt_of_le (Nat.lt_of_lt_of_le S_20.2.1.lt K_24.1) g_41)) nin0)), S_20.2.2⟩
          have S_77 : Str Z h_62 b_44 t_45 k_46 (own_cs r2) := ⟨(O_59.keep K_60 (ninS (Nat.ne_of_gt (Nat.lt_of_lt_of_le (Nat.lt_of_lt_of_le O_40.lt (Nat.le_refl _)) g_47)) nin0)), ((S_49.2.1.keep K_55 nin0).keep K_60 (ninS (Ne.symm (Exa.neArv O_58.1 (S_49.2.1.keep K_55 nin0) (w1 hw))) nin0)), S_49.2.2⟩
          have S_78 : Str Z h_62 b_51 t_52 k_53 (own_cs s2) := ⟨(S_56.1.keep K_60 (ninS (Nat.ne_of_gt (Nat.lt_of_lt_of_le (Nat.lt_of_lt_of_le O_40.lt K_48.1) g_54)) nin0)), (S_56.2.1.keep K_60 (ninS (Ne.symm (Exa.neArv O_58.1 S_56.2.1 (w1 hw))) nin0)), S_56.2.2⟩
          refine Runs.callVW (argsL := [(.ref b_38)]) (rest := []) (W := 0) i0_150 (w58 hw) (w59 hw) (fun s hZ => notFace_of_selects (args := #[]) (mvT hZ (w61 hw))) (w61 hw) (w60 hw) (w62 hw) (w2 hw) (by decide) O_74.1 pd_7 rfl rfl rfl rfl (by decide) (by decide) (by decide) (by decide) all0 (own_ne l Z a0 hw n0 b_2 b_38 b_8 t_9 b_15 t_16 b_44 t_45 b_51 t_52 k_10 k_17 k_46 k_53 (own_cs p1) (own_cs p2) (own_cs r2) (own_cs s2) cpt _ O_74 O_61 S_75 S_76 S_77 S_78 (Nat.ne_of_lt (Nat.lt_of_lt_of_le (Nat.lt_of_lt_of_le S_13.1.lt (Nat.le_trans (Nat.le_trans K_19.1 K_24.1) K_39.1)) g_47)) (Nat.ne_of_lt (Nat.lt_of_lt_of_le (Nat.lt_of_lt_of_le S_20.1.lt (Nat.le_trans (Nat.le_trans K_24.1 K_39.1) K_48.1)) g_54)) S_C hcpt) ?_
          rw [show (if (own_cs p1) = (own_cs r2) ∧ (own_cs p2) = (own_cs s2) then (1 : Int32) else 0) = (0 : Int32) by simp [hq_63, hq_64]]
          intro v h1 D1 q hsz
          obtain ⟨rfl, rfl, rfl⟩ := q
          show Runs true l Z [("java/lang/String", 7)] n0 _ _ _ _ _ _ _ [b_38, b_2] h_62 34 476 153 #[.val (.int p1), .val (.int p2), .val (.int p3), .val (.int p4), .val (.int p5), .val (.int r2), .val (.int s2), .val (.ref b_2), .val (.int x_28), .val (.ref b_38), .val (.int (0 : Int32))] [(.int (0 : Int32))]
          refine Runs.iload i0_153 rfl ?_
          refine Runs.icN i0_155 (teq (by decide : (0 : Int32) = (0 : Int32))).2 ?_
          refine Runs.aload i0_158 rfl rfl ?_
          refine Runs.aload i0_160 rfl rfl ?_
          have S_79 : Str Z h_62 b_44 t_45 k_46 (own_cs r2) := ⟨(O_59.keep K_60 (ninS (Nat.ne_of_gt (Nat.lt_of_lt_of_le (Nat.lt_of_lt_of_le O_40.lt (Nat.le_refl _)) g_47)) nin0)), ((S_49.2.1.keep K_55 nin0).keep K_60 (ninS (Ne.symm (Exa.neArv O_58.1 (S_49.2.1.keep K_55 nin0) (w1 hw))) nin0)), S_49.2.2⟩
          have S_80 : Str Z h_62 b_51 t_52 k_53 (own_cs s2) := ⟨(S_56.1.keep K_60 (ninS (Nat.ne_of_gt (Nat.lt_of_lt_of_le (Nat.lt_of_lt_of_le O_40.lt K_48.1) g_54)) nin0)), (S_56.2.1.keep K_60 (ninS (Ne.symm (Exa.neArv O_58.1 S_56.2.1 (w1 hw))) nin0)), S_56.2.2⟩
          have S_81 : Str Z h_62 b_8 t_9 k_10 (own_cs p1) := ⟨(((((O_23.keep K_24 (ninS (Nat.ne_of_gt (Nat.lt_of_lt_of_le (Nat.lt_of_lt_of_le O_4.lt (Nat.le_refl _)) g_11)) nin0)).keep K_39 nin0).keep K_48 nin0).keep K_55 nin0).keep K_60 (ninS (Nat.ne_of_lt (Nat.lt_of_lt_of_le (Nat.lt_of_lt_of_le S_13.1.lt (Nat.le_trans K_19.1 K_24.1)) g_41)) nin0)), ((((((S_13.2.1.keep K_19 nin0).keep K_24 (ninS (Ne.symm (Exa.neArv O_22.1 (S_13.2.1.keep K_19 nin0) (w1 hw))) nin0)).keep K_39 nin0).keep K_48 nin0).keep K_55 nin0).keep K_60 (ninS (Nat.ne_of_lt (Nat.lt_of_lt_of_le (Nat.lt_of_lt_of_le S_13.2.1.lt (Nat.le_trans K_19.1 K_24.1)) g_41)) nin0)), S_13.2.2⟩
          have S_82 : Str Z h_62 b_15 t_16 k_17 (own_cs p2) := ⟨(((((S_20.1.keep K_24 (ninS (Nat.ne_of_gt (Nat.lt_of_lt_of_le (Nat.lt_of_lt_of_le O_4.lt K_12.1) g_18)) nin0)).keep K_39 nin0).keep K_48 nin0).keep K_55 nin0).keep K_60 (ninS (Nat.ne_of_lt (Nat.lt_of_lt_of_le (Nat.lt_of_lt_of_le S_20.1.lt K_24.1) g_41)) nin0)), (((((S_20.2.1.keep K_24 (ninS (Ne.symm (Exa.neArv O_22.1 S_20.2.1 (w1 hw))) nin0)).keep K_39 nin0).keep K_48 nin0).keep K_55 nin0).keep K_60 (ninS (Nat.ne_of_lt (Nat.lt_of_lt_of_le (Nat.lt_of_lt_of_le S_20.2.1.lt K_24.1) g_41)) nin0)), S_20.2.2⟩
          refine Runs.callVW (argsL := [(.ref b_2)]) (rest := []) (W := 0) i0_162 (w58 hw) (w59 hw) (fun s hZ => notFace_of_selects (args := #[]) (mvT hZ (w61 hw))) (w61 hw) (w60 hw) (w62 hw) (w2 hw) (by decide) O_61.1 pd_7 rfl rfl rfl rfl (by decide) (by decide) (by decide) (by decide) all0 (own_ne l Z a0 hw n0 b_38 b_2 b_44 t_45 b_51 t_52 b_8 t_9 b_15 t_16 k_46 k_53 k_10 k_17 (own_cs r2) (own_cs s2) (own_cs p1) (own_cs p2) cpt _ O_61 O_74 S_79 S_80 S_81 S_82 (Nat.ne_of_gt (Nat.lt_of_lt_of_le (Nat.lt_of_lt_of_le S_13.1.lt (Nat.le_trans (Nat.le_trans K_19.1 K_24.1) K_39.1)) g_47)) (Nat.ne_of_gt (Nat.lt_of_lt_of_le (Nat.lt_of_lt_of_le S_20.1.lt (Nat.le_trans (Nat.le_trans K_24.1 K_39.1) K_48.1)) g_54)) S_C hcpt) ?_
          rw [show (if (own_cs r2) = (own_cs p1) ∧ (own_cs s2) = (own_cs p2) then (1 : Int32) else 0) = (0 : Int32) by simp [eq_comm, hq_63, hq_64]]
          intro v h1 D1 q hsz
          obtain ⟨rfl, rfl, rfl⟩ := q
          show Runs true l Z [("java/lang/String", 7)] n0 _ _ _ _ _ _ _ [b_38, b_2] h_62 34 476 165 #[.val (.int p1), .val (.int p2), .val (.int p3), .val (.int p4), .val (.int p5), .val (.int r2), .val (.int s2), .val (.ref b_2), .val (.int x_28), .val (.ref b_38), .val (.int (0 : Int32))] [(.int (0 : Int32))]
          refine Runs.iload i0_165 rfl ?_
          refine Runs.icN i0_167 (teq (by decide : (0 : Int32) = (0 : Int32))).2 ?_
          refine Runs.iconst (v := (1 : Int32)) i0_170 (by decide) ?_
          refine Runs.goto (t := 175) i0_171 (by decide) ?_
          exact Runs.retI (z := (1 : Int32)) i0_175 rfl (Or.inr (Or.inl rfl)) (by decide) (by decide) (by decide) rfl
      · rw [if_neg hq_63]
        intro v h1 D1 q hsz
        obtain ⟨rfl, rfl, rfl⟩ := q
        show Runs true l Z [("java/lang/String", 7)] n0 _ _ _ _ _ _ _ [b_38, b_2] h_62 34 476 127 #[.val (.int p1), .val (.int p2), .val (.int p3), .val (.int p4), .val (.int p5), .val (.int r2), .val (.int s2), .val (.ref b_2), .val (.int x_28), .val (.ref b_38), .unset] [(.int (0 : Int32))]
        refine Runs.ifY (t := 143) i0_127 (by decide) (teq (by decide : (0 : Int32) = (0 : Int32))).1 ?_
        refine Runs.iconst (v := (0 : Int32)) i0_143 (by decide) ?_
        refine Runs.istore (ls' := #[.val (.int p1), .val (.int p2), .val (.int p3), .val (.int p4), .val (.int p5), .val (.int r2), .val (.int s2), .val (.ref b_2), .val (.int x_28), .val (.ref b_38), .val (.int (0 : Int32))]) i0_144 rfl ?_
        refine Runs.aload i0_146 rfl rfl ?_
        refine Runs.aload i0_148 rfl rfl ?_
        have O_83 := ((((O_25.keep K_39 nin0).keep K_48 nin0).keep K_55 nin0).keep K_60 (ninS (Nat.ne_of_lt (Nat.lt_of_lt_of_le (Nat.lt_of_lt_of_le O_4.lt (Nat.le_trans (Nat.le_trans K_12.1 K_19.1) K_24.1)) g_41)) nin0))
        have S_84 : Str Z h_62 b_8 t_9 k_10 (own_cs p1) := ⟨(((((O_23.keep K_24 (ninS (Nat.ne_of_gt (Nat.lt_of_lt_of_le (Nat.lt_of_lt_of_le O_4.lt (Nat.le_refl _)) g_11)) nin0)).keep K_39 nin0).keep K_48 nin0).keep K_55 nin0).keep K_60 (ninS (Nat.ne_of_lt (Nat.lt_of_lt_of_le (Nat.lt_of_lt_of_le S_13.1.lt (Nat.le_trans K_19.1 K_24.1)) g_41)) nin0)), ((((((S_13.2.1.keep K_19 nin0).keep K_24 (ninS (Ne.symm (Exa.neArv O_22.1 (S_13.2.1.keep K_19 nin0) (w1 hw))) nin0)).keep K_39 nin0).keep K_48 nin0).keep K_55 nin0).keep K_60 (ninS (Nat.ne_of_lt (Nat.lt_of_lt_of_le (Nat.lt_of_lt_of_le S_13.2.1.lt (Nat.le_trans K_19.1 K_24.1)) g_41)) nin0)), S_13.2.2⟩
        have S_85 : Str Z h_62 b_15 t_16 k_17 (own_cs p2) := ⟨(((((S_20.1.keep K_24 (ninS (Nat.ne_of_gt (Nat.lt_of_lt_of_le (Nat.lt_of_lt_of_le O_4.lt K_12.1) g_18)) nin0)).keep K_39 nin0).keep K_48 nin0).keep K_55 nin0).keep K_60 (ninS (Nat.ne_of_lt (Nat.lt_of_lt_of_le (Nat.lt_of_lt_of_le S_20.1.lt K_24.1) g_41)) nin0)), (((((S_20.2.1.keep K_24 (ninS (Ne.symm (Exa.neArv O_22.1 S_20.2.1 (w1 hw))) nin0)).keep K_39 nin0).keep K_48 nin0).keep K_55 nin0).keep K_60 (ninS (Nat.ne_of_lt (Nat.lt_of_lt_of_le (Nat.lt_of_lt_of_le S_20.2.1.lt K_24.1) g_41)) nin0)), S_20.2.2⟩
        have S_86 : Str Z h_62 b_44 t_45 k_46 (own_cs r2) := ⟨(O_59.keep K_60 (ninS (Nat.ne_of_gt (Nat.lt_of_lt_of_le (Nat.lt_of_lt_of_le O_40.lt (Nat.le_refl _)) g_47)) nin0)), ((S_49.2.1.keep K_55 nin0).keep K_60 (ninS (Ne.symm (Exa.neArv O_58.1 (S_49.2.1.keep K_55 nin0) (w1 hw))) nin0)), S_49.2.2⟩
        have S_87 : Str Z h_62 b_51 t_52 k_53 (own_cs s2) := ⟨(S_56.1.keep K_60 (ninS (Nat.ne_of_gt (Nat.lt_of_lt_of_le (Nat.lt_of_lt_of_le O_40.lt K_48.1) g_54)) nin0)), (S_56.2.1.keep K_60 (ninS (Ne.symm (Exa.neArv O_58.1 S_56.2.1 (w1 hw))) nin0)), S_56.2.2⟩
        refine Runs.callVW (argsL := [(.ref b_38)]) (rest := []) (W := 0) i0_150 (w58 hw) (w59 hw) (fun s hZ => notFace_of_selects (args := #[]) (mvT hZ (w61 hw))) (w61 hw) (w60 hw) (w62 hw) (w2 hw) (by decide) O_83.1 pd_7 rfl rfl rfl rfl (by decide) (by decide) (by decide) (by decide) all0 (own_ne l Z a0 hw n0 b_2 b_38 b_8 t_9 b_15 t_16 b_44 t_45 b_51 t_52 k_10 k_17 k_46 k_53 (own_cs p1) (own_cs p2) (own_cs r2) (own_cs s2) cpt _ O_83 O_61 S_84 S_85 S_86 S_87 (Nat.ne_of_lt (Nat.lt_of_lt_of_le (Nat.lt_of_lt_of_le S_13.1.lt (Nat.le_trans (Nat.le_trans K_19.1 K_24.1) K_39.1)) g_47)) (Nat.ne_of_lt (Nat.lt_of_lt_of_le (Nat.lt_of_lt_of_le S_20.1.lt (Nat.le_trans (Nat.le_trans K_24.1 K_39.1) K_48.1)) g_54)) S_C hcpt) ?_
        rw [show (if (own_cs p1) = (own_cs r2) ∧ (own_cs p2) = (own_cs s2) then (1 : Int32) else 0) = (0 : Int32) by simp [hq_63]]
        intro v h1 D1 q hsz
        obtain ⟨rfl, rfl, rfl⟩ := q
        show Runs true l Z [("java/lang/String", 7)] n0 _ _ _ _ _ _ _ [b_38, b_2] h_62 34 476 153 #[.val (.int p1), .val (.int p2), .val (.int p3), .val (.int p4), .val (.int p5), .val (.int r2), .val (.int s2), .val (.ref b_2), .val (.int x_28), .val (.ref b_38), .val (.int (0 : Int32))] [(.int (0 : Int32))]
        refine Runs.iload i0_153 rfl ?_
        refine Runs.icN i0_155 (teq (by decide : (0 : Int32) = (0 : Int32))).2 ?_
        refine Runs.aload i0_158 rfl rfl ?_
        refine Runs.aload i0_160 rfl rfl ?_
        have S_88 : Str Z h_62 b_44 t_45 k_46 (own_cs r2) := ⟨(O_59.keep K_60 (ninS (Nat.ne_of_gt (Nat.lt_of_lt_of_le (Nat.lt_of_lt_of_le O_40.lt (Nat.le_refl _)) g_47)) nin0)), ((S_49.2.1.keep K_55 nin0).keep K_60 (ninS (Ne.symm (Exa.neArv O_58.1 (S_49.2.1.keep K_55 nin0) (w1 hw))) nin0)), S_49.2.2⟩
        have S_89 : Str Z h_62 b_51 t_52 k_53 (own_cs s2) := ⟨(S_56.1.keep K_60 (ninS (Nat.ne_of_gt (Nat.lt_of_lt_of_le (Nat.lt_of_lt_of_le O_40.lt K_48.1) g_54)) nin0)), (S_56.2.1.keep K_60 (ninS (Ne.symm (Exa.neArv O_58.1 S_56.2.1 (w1 hw))) nin0)), S_56.2.2⟩
        have S_90 : Str Z h_62 b_8 t_9 k_10 (own_cs p1) := ⟨(((((O_23.keep K_24 (ninS (Nat.ne_of_gt (Nat.lt_of_lt_of_le (Nat.lt_of_lt_of_le O_4.lt (Nat.le_refl _)) g_11)) nin0)).keep K_39 nin0).keep K_48 nin0).keep K_55 nin0).keep K_60 (ninS (Nat.ne_of_lt (Nat.lt_of_lt_of_le (Nat.lt_of_lt_of_le S_13.1.lt (Nat.le_trans K_19.1 K_24.1)) g_41)) nin0)), ((((((S_13.2.1.keep K_19 nin0).keep K_24 (ninS (Ne.symm (Exa.neArv O_22.1 (S_13.2.1.keep K_19 nin0) (w1 hw))) nin0)).keep K_39 nin0).keep K_48 nin0).keep K_55 nin0).keep K_60 (ninS (Nat.ne_of_lt (Nat.lt_of_lt_of_le (Nat.lt_of_lt_of_le S_13.2.1.lt (Nat.le_trans K_19.1 K_24.1)) g_41)) nin0)), S_13.2.2⟩
        have S_91 : Str Z h_62 b_15 t_16 k_17 (own_cs p2) := ⟨(((((S_20.1.keep K_24 (ninS (Nat.ne_of_gt (Nat.lt_of_lt_of_le (Nat.lt_of_lt_of_le O_4.lt K_12.1) g_18)) nin0)).keep K_39 nin0).keep K_48 nin0).keep K_55 nin0).keep K_60 (ninS (Nat.ne_of_lt (Nat.lt_of_lt_of_le (Nat.lt_of_lt_of_le S_20.1.lt K_24.1) g_41)) nin0)), (((((S_20.2.1.keep K_24 (ninS (Ne.symm (Exa.neArv O_22.1 S_20.2.1 (w1 hw))) nin0)).keep K_39 nin0).keep K_48 nin0).keep K_55 nin0).keep K_60 (ninS (Nat.ne_of_lt (Nat.lt_of_lt_of_le (Nat.lt_of_lt_of_le S_20.2.1.lt K_24.1) g_41)) nin0)), S_20.2.2⟩
        refine Runs.callVW (argsL := [(.ref b_2)]) (rest := []) (W := 0) i0_162 (w58 hw) (w59 hw) (fun s hZ => notFace_of_selects (args := #[]) (mvT hZ (w61 hw))) (w61 hw) (w60 hw) (w62 hw) (w2 hw) (by decide) O_61.1 pd_7 rfl rfl rfl rfl (by decide) (by decide) (by decide) (by decide) all0 (own_ne l Z a0 hw n0 b_38 b_2 b_44 t_45 b_51 t_52 b_8 t_9 b_15 t_16 k_46 k_53 k_10 k_17 (own_cs r2) (own_cs s2) (own_cs p1) (own_cs p2) cpt _ O_61 O_83 S_88 S_89 S_90 S_91 (Nat.ne_of_gt (Nat.lt_of_lt_of_le (Nat.lt_of_lt_of_le S_13.1.lt (Nat.le_trans (Nat.le_trans K_19.1 K_24.1) K_39.1)) g_47)) (Nat.ne_of_gt (Nat.lt_of_lt_of_le (Nat.lt_of_lt_of_le S_20.1.lt (Nat.le_trans (Nat.le_trans K_24.1 K_39.1) K_48.1)) g_54)) S_C hcpt) ?_
        rw [show (if (own_cs r2) = (own_cs p1) ∧ (own_cs s2) = (own_cs p2) then (1 : Int32) else 0) = (0 : Int32) by simp [eq_comm, hq_63]]
        intro v h1 D1 q hsz
        obtain ⟨rfl, rfl, rfl⟩ := q
        show Runs true l Z [("java/lang/String", 7)] n0 _ _ _ _ _ _ _ [b_38, b_2] h_62 34 476 165 #[.val (.int p1), .val (.int p2), .val (.int p3), .val (.int p4), .val (.int p5), .val (.int r2), .val (.int s2), .val (.ref b_2), .val (.int x_28), .val (.ref b_38), .val (.int (0 : Int32))] [(.int (0 : Int32))]
        refine Runs.iload i0_165 rfl ?_
        refine Runs.icN i0_167 (teq (by decide : (0 : Int32) = (0 : Int32))).2 ?_
        refine Runs.iconst (v := (1 : Int32)) i0_170 (by decide) ?_
        refine Runs.goto (t := 175) i0_171 (by decide) ?_
        exact Runs.retI (z := (1 : Int32)) i0_175 rfl (Or.inr (Or.inl rfl)) (by decide) (by decide) (by decide) rfl
set_option maxRecDepth 65536 in
set_option maxHeartbeats 4000000 in
theorem own_law (l : Launch) (Z : State) (a0 : Array Value) (hw : Wds Z a0) (n0 : Nat) (p1 p2 p3 p4 p5 : Int32) (cpt : Int32) (S_C : Sta Z Z.heap "java/lang/String" "COMPACT_STRINGS" "Z" (.int cpt)) (hcpt : ¬ cpt = 0) : Con true l Z [("java/lang/String", 7)] n0 x code maxLocals ret room_1 #[(.int p1), (.int p2), (.int p3), (.int p4), (.int p5)] [] Z.heap (fun v h D' => v = some (.int 1)) := by
  refine Con.of_runs (ls := #[.val (.int p1), .val (.int p2), .val (.int p3), .val (.int p4), .val (.int p5), .unset, .unset, .unset, .unset, .unset, .unset]) (by decide +kernel) (fun m => rfl) ?_
  refine Runs.iload i0_0 rfl ?_
  refine Runs.iconst (v := (1 : Int32)) i0_2 (by decide) ?_
  obtain ⟨x_1, hx_1⟩ : ∃ z : Int32, p5 &&& (1 : Int32) = z := ⟨_, rfl⟩
  refine Runs.iand i0_3 hx_1 ?_
  by_cases hc4 : x_1 = (0 : Int32)
  · refine Runs.ifY (t := 11) i0_4 (by decide) (teq hc4).1 ?_
    refine Runs.iloadN i0_11 rfl ?_
    refine Runs.istore (ls' := #[.val (.int p1), .val (.int p2), .val (.int p3), .val (.int p4), .val (.int p5), .val (.int p3), .unset, .unset, .unset, .unset, .unset]) i0_12 rfl ?_
    refine Runs.iload i0_14 rfl ?_
    refine Runs.iconst (v := (2 : Int32)) i0_16 (by decide) ?_
    obtain ⟨x_2, hx_2⟩ : ∃ z : Int32, p5 &&& (2 : Int32) = z := ⟨_, rfl⟩
    refine Runs.iand i0_17 hx_2 ?_
    by_cases hc18 : x_2 = (0 : Int32)
    · refine Runs.ifY (t := 25) i0_18 (by decide) (teq hc18).1 ?_
      refine Runs.iloadN i0_25 rfl ?_
      refine Runs.istore (ls' := #[.val (.int p1), .val (.int p2), .val (.int p3), .val (.int p4), .val (.int p5), .val (.int p3), .val (.int p4), .unset, .unset, .unset, .unset]) i0_26 rfl ?_
      exact own_rest l Z a0 hw n0 p1 p2 p3 p4 p5 p3 p4 cpt S_C hcpt
    · refine Runs.ifN i0_18 (feq hc18).1 ?_
      refine Runs.iloadN i0_21 rfl ?_
      refine Runs.goto (t := 26) i0_22 (by decide) ?_
      refine Runs.istore (ls' := #[.val (.int p1), .val (.int p2), .val (.int p3), .val (.int p4), .val (.int p5), .val (.int p3), .val (.int p2), .unset, .unset, .unset, .unset]) i0_26 rfl ?_
      exact own_rest l Z a0 hw n0 p1 p2 p3 p4 p5 p3 p2 cpt S_C hcpt
  · refine Runs.ifN i0_4 (feq hc4).1 ?_
    refine Runs.iloadN i0_7 rfl ?_
    refine Runs.goto (t := 12) i0_8 (by decide) ?_
    refine Runs.istore (ls' := #[.val (.int p1), .val (.int p2), .val (.int p3), .val (.int p4), .val (.int p5), .val (.int p1), .unset, .unset, .unset, .unset, .unset]) i0_12 rfl ?_
    refine Runs.iload i0_14 rfl ?_
    refine Runs.iconst (v := (2 : Int32)) i0_16 (by decide) ?_
    obtain ⟨x_3, hx_3⟩ : ∃ z : Int32, p5 &&& (2 : Int32) = z := ⟨_, rfl⟩
    refine Runs.iand i0_17 hx_3 ?_
    by_cases hc18 : x_3 = (0 : Int32)
    · refine Runs.ifY (t := 25) i0_18 (by decide) (teq hc18).1 ?_
      refine Runs.iloadN i0_25 rfl ?_
      refine Runs.istore (ls' := #[.val (.int p1), .val (.int p2), .val (.int p3), .val (.int p4), .val (.int p5), .val (.int p1), .val (.int p4), .unset, .unset, .unset, .unset]) i0_26 rfl ?_
      exact own_rest l Z a0 hw n0 p1 p2 p3 p4 p5 p1 p4 cpt S_C hcpt
    · refine Runs.ifN i0_18 (feq hc18).1 ?_
      refine Runs.iloadN i0_21 rfl ?_
      refine Runs.goto (t := 26) i0_22 (by decide) ?_
      refine Runs.istore (ls' := #[.val (.int p1), .val (.int p2), .val (.int p3), .val (.int p4), .val (.int p5), .val (.int p1), .val (.int p2), .unset, .unset, .unset, .unset]) i0_26 rfl ?_
      exact own_rest l Z a0 hw n0 p1 p2 p3 p4 p5 p1 p2 cpt S_C hcpt
set_option maxRecDepth 65536 in
set_option maxHeartbeats 40000000 in
theorem comes_1 {Post : Tables → Env → Array Value → State → Outcome → State → Prop} (hpost : ∀ tb e args s v u, (limb_1_1.after args s (.returned v) u = true ∧ limb_1_2.after args s (.returned v) u = true ∧ True) → Jvm.Pilot.@@N@@.Jvm.D.FramedW s (.returned v) u (Jvm.fieldLocs frame_1_writes args s ++ Jvm.arrayLocs frame_1_arrays args s ++ Jvm.staticLocs frame_1_statics s) 48 3264 → Post tb e args s (.returned v) u) :
    ArmFor flags0 classFile x code maxLocals ret World_1 tables_1 room_1 Calls_1 rest_1 Pre_1 Post := by
  intro l hfl _ _ p e ha hc hk s m args below hf hA hF happ hP
  obtain ⟨hcalls, hrest, hpre⟩ := hP
  obtain ⟨-, -, -, hnamed, -, -, -, hat⟩ := (Spec.applies_iff hf).mp happ
  obtain ⟨hg, hn⟩ := and_e (Cond.before_iff.mp (show (Jvm.Cond.and given_1 narrow_1).before args s = true from hpre))
  obtain ⟨g1, g2⟩ := and_e hg
  obtain ⟨g3, g4⟩ := and_e g2
  obtain ⟨g5, g6⟩ := and_e g4
  obtain ⟨g7, g8⟩ := and_e g6
  obtain ⟨g9, g10⟩ := and_e g8
  obtain ⟨w0, w1, w2, w3, w4, rfl⟩ : ∃ w0 w1 w2 w3 w4 : Value, args = #[w0, w1, w2, w3, w4] := by
    have hs : args.size = 5 := by simpa [Cond.value, given_1] using g1
    obtain ⟨L⟩ := args
    match L, hs with
    | [w0, w1, w2, w3, w4], _ => exact ⟨w0, w1, w2, w3, w4, rfl⟩
  have hw : Wds s _ := fun d (hd : d ∈ tables_1) => atoms_spec (ws := Jvm.Cond.code x code maxLocals ret :: tables_1) hat d (List.mem_cons_of_mem _ hd)
  obtain ⟨i0, ei0⟩ := is_v g3
  obtain rfl : w0 = (.int i0) := Option.some.inj ei0
  obtain ⟨i1, ei1⟩ := is_v g5
  obtain rfl : w1 = (.int i1) := Option.some.inj ei1
  obtain ⟨i2, ei2⟩ := is_v g7
  obtain rfl : w2 = (.int i2) := Option.some.inj ei2
  obtain ⟨i3, ei3⟩ := is_v g9
  obtain rfl : w3 = (.int i3) := Option.some.inj ei3
  obtain ⟨i4, ei4⟩ := is_v g10
  obtain rfl : w4 = (.int i4) := Option.some.inj ei4
  obtain ⟨hsets, -⟩ := atoms_of _ (rest_1_c_eq ▸ (show rest_1_c.before _ s = true from hrest))
  obtain ⟨cpt, ev_cpt⟩ := is_v (Cond.before_iff.mp (hsets _ (List.mem_of_getElem? (i := 1) rfl)))
  have S_C : Sta s s.heap "java/lang/String" "COMPACT_STRINGS" "Z" (.int cpt) := Sta.start ev_cpt (Or.inl (hsets _ (List.mem_of_getElem? (i := 0) rfl)))
  have hcpt : ¬ cpt = 0 := gotF (own_eqI ev_cpt (Term.int_eval 0)) (not_v (Cond.before_iff.mp (hsets _ (List.mem_of_getElem? (i := 2) rfl))))
  have hC : CHv s [("java/lang/String", 7)] s.vm s.heap := CHv.start (own_EW hw) (fun p hp => by
    simp only [List.mem_cons, List.not_mem_nil, or_false] at hp
    subst hp
    exact hcalls.1 ("java/lang/String", 7) (by simp [consts_1])) (hsets _ (List.mem_of_getElem? (i := 2) rfl)) (w22 hw) (w8 hw)
  obtain ⟨n, o, h1, h2, h3, v, L, D', rfl, rfl, -, N, -, hq⟩ := own_law l s _ hw s.heap.size i0 i1 i2 i3 i4 cpt S_C hcpt tables_1 p e ha hc hk s m _ below hf ((Spec.applies_iff_loose hf).mp happ).1 ⟨rfl, State.Warmed39.refl s, rfl, Old.start s, ⟨_, own_EW hw⟩, hC, fun _ q => nomatch q⟩ trivial
  have hq : ReturnedEndW s _ _ L _ _ := hq
  refine ⟨n, _, h1, h2, h3, hpost _ _ _ _ _ _ ⟨Cond.after_iff.mpr rfl, Cond.after_iff.mpr (eq_i res_at (Term.int_eval (1)) rfl), trivial⟩ ⟨hq.1, hq.2.1, hq.2.2.1, (hq.2.2.2.sift fun y hy => Or.inr (N y hy)).mono (by decide) (by decide)⟩⟩
theorem main_1_1 : Claimed_1_1 := comes_1 fun _ _ _ _ _ _ h hF => ⟨h.1, hF⟩
theorem main_1_2 : Claimed_1_2 := comes_1 fun _ _ _ _ _ _ h hF => ⟨h.2.1, hF⟩
end Jvm.Pilot.@@N@@
namespace Jvm.Pilot.@@N@@
open Jvm Jvm.ClassFile Sem Op Lib Jvm.Free Jvm.Stand Jvm.Pilot.@@N@@.Jvm.D
/-! MADE BY PROGRAM (witnessworld.py) out of the Statement's table words and the real class files: 21 classes; the members and pool entries that the words name. The judged class is class 1, her method 3. -/
namespace start1
open Jvm.ClassFile
def u (s : String) : CpInfo := .utf8 (stringToUtf16 s)
/-- a pool by its gaps: so many unusable entries, then the entry; so many at the end -/
def gap : Nat → List CpInfo → List CpInfo
  | 0, r => r
  | n + 1, r => .unusable :: gap n r
def poolList (es : List (Nat × CpInfo)) (last : Nat) : List CpInfo := es.foldr (fun e r => gap e.1 (e.2 :: r)) (gap last [])
def pool (es : List (Nat × CpInfo)) (last : Nat) : Array CpInfo := ⟨poolList es last⟩
def fileOf (pool : Array CpInfo) (this : Nat) (attrs : Array Attribute := #[]) (ms : Array MethodInfo := #[]) (fl : Nat := 33) (sup : Nat := 0) (ifs : Array Nat := #[]) (fds : Array FieldInfo := #[]) : ClassFile where
  minorVersion := 0
  majorVersion := 65
  constantPool := pool
  accessFlags := fl
  thisClass := this
  superClass := sup
  interfaces := ifs
  fields := fds
  methods := ms
  attributes := attrs
def plain (name : String) (sup : Option ClassId) : Class where
  name := name
  kind := .ordinary
  loader := none
  accessFlags := 33
  super := sup
  interfaces := #[]
  cf := none
  fields := #[]
  methods := #[]
  instanceTypes := #[]
  staticTypes := #[]
  resolved := #[]
  callSites := []
  init := .initialized
  statics := none
  mirror := none

def pool0 : Array CpInfo := pool [(5, u "<init>"), (0, u "()V"), (1, .class_ 10), (1, u "java/lang/Object")] 113

def k0c0 : Code := { maxStack := 0, maxLocals := 1, code := object_method_1_code, exceptionTable := #[], attributes := #[] }
def k0m0 : Method := { name := "<init>", desc := "()V", sig := { parameters := [], returnType := none }, accessFlags := 1, code := some k0c0 }
/-- java/lang/Object -/
def k0 : Class := { plain "java/lang/Object" none with
  accessFlags := 33
  interfaces := #[]
  cf := some (fileOf pool0 8 #[] #[{ accessFlags := 1, nameIndex := 5, descriptorIndex := 6, attributes := #[] }] 33 0 #[] #[])
  fields := #[]
  methods := #[k0m0]
  instanceTypes := #[]
  staticTypes := #[]
  resolved := Array.replicate 124 none
  statics := none }

def pool1 : Array CpInfo := pool [(2, .class_ 4), (1, u "java/lang/Object"), (0, u "<init>"), (0, u "()V"), (0, .class_ 8), (0, u "java/lang/String"), (0, .methodref 7 10), (0, .nameAndType 5 11), (0, u "([C)V"), (0, .class_ 13), (0, u "com/example/collateral_debt_model/collateraldebtmodel/NamePair"), (0, .methodref 15 16), (0, .class_ 17), (0, .nameAndType 18 19), (0, u "com/example/collateral_debt_model/collateraldebtmodel/NamePairEqualsPinLaw"), (0, u "mk"), (0, u "(I)Ljava/lang/String;"), (0, .methodref 12 21), (0, .nameAndType 5 22), (0, u "(Ljava/lang/String;Ljava/lang/String;)V"), (0, .methodref 12 24), (0, .nameAndType 25 26), (0, u "equals"), (0, u "(Ljava/lang/Object;)Z"), (0, .methodref 15 28), (0, .nameAndType 29 30), (0, u "same"), (0, u "(II)Z"), (3, u "law"), (0, u "(IIIII)Z")] 2

def k1m0 : Method := { name := "<init>", desc := "()V", sig := { parameters := [], returnType := none }, accessFlags := 1, code := none }
def k1c1 : Code := { maxStack := 6, maxLocals := 5, code := method_2_code, exceptionTable := #[], attributes := #[] }
def k1m1 : Method := { name := "mk", desc := "(I)Ljava/lang/String;", sig := { parameters := [.int], returnType := some (.object "java/lang/String") }, accessFlags := 10, code := some k1c1 }
def k1c2 : Code := { maxStack := 3, maxLocals := 4, code := method_3_code, exceptionTable := #[], attributes := #[] }
def k1m2 : Method := { name := "same", desc := "(II)Z", sig := { parameters := [.int, .int], returnType := some .boolean }, accessFlags := 10, code := some k1c2 }
def k1c3 : Code := { maxStack := 4, maxLocals := 11, code := code, exceptionTable := #[], attributes := #[] }
def k1m3 : Method := { name := "law", desc := "(IIIII)Z", sig := { parameters := [.int, .int, .int, .int, .int], returnType := some .boolean }, accessFlags := 9, code := some k1c3 }
/-- com/example/collateral_debt_model/collateraldebtmodel/NamePairEqualsPinLaw -/
def k1 : Class := { plain "com/example/collateral_debt_model/collateraldebtmodel/NamePairEqualsPinLaw" (some 0) with
  accessFlags := 49
  interfaces := #[]
  cf := some (fileOf pool1 15 #[] #[{ accessFlags := 1, nameIndex := 5, descriptorIndex := 6, attributes := #[] }, { accessFlags := 10, nameIndex := 18, descriptorIndex := 19, attributes := #[] }, { accessFlags := 10, nameIndex := 29, descriptorIndex := 30, attributes := #[] }, { accessFlags := 9, nameIndex := 34, descriptorIndex := 35, attributes := #[] }] 49 2 #[] #[])
  fields := #[]
  methods := #[k1m0, k1m1, k1m2, k1m3]
  instanceTypes := #[]
  staticTypes := #[]
  resolved := Array.replicate 38 none
  statics := none }

def pool2 : Array CpInfo := pool [(1, .class_ 2), (0, u "java/lang/Comparable"), (0, .class_ 4), (0, u "java/lang/Object")] 7

/-- java/lang/Comparable -/
def k2 : Class := { plain "java/lang/Comparable" (some 0) with
  accessFlags := 1537
  interfaces := #[]
  cf := some (fileOf pool2 1 #[] #[] 1537 3 #[] #[])
  fields := #[]
  methods := #[]
  instanceTypes := #[]
  staticTypes := #[]
  resolved := Array.replicate 12 none
  statics := none }

def pool3 : Array CpInfo := pool [(1, .methodref 2 3), (0, .class_ 4), (0, .nameAndType 5 6), (0, u "java/lang/Object"), (0, u "<init>"), (0, u "()V"), (0, .string 8), (0, u "first name cannot be null"), (0, .methodref 10 11), (0, .class_ 12), (0, .nameAndType 13 14), (0, u "java/util/Objects"), (0, u "requireNonNull"), (0, u "(Ljava/lang/Object;Ljava/lang/String;)Ljava/lang/Object;"), (0, .class_ 16), (0, u "java/lang/String"), (0, .fieldref 18 19), (0, .class_ 20), (0, .nameAndType 21 22), (0, u "com/example/collateral_debt_model/collateraldebtmodel/NamePair"), (0, u "first"), (0, u "Ljava/lang/String;"), (0, .string 24), (0, u "second name cannot be null"), (0, .fieldref 18 26), (0, .nameAndType 27 22), (0, u "second"), (4, .methodref 15 33), (0, .nameAndType 34 35), (0, u "equals"), (0, u "(Ljava/lang/Object;)Z"), (7, .class_ 44), (0, u "java/lang/Comparable"), (0, u "(Ljava/lang/String;Ljava/lang/String;)V")] 12

def k3c0 : Code := { maxStack := 3, maxLocals := 3, code := prog_21_method_1_code, exceptionTable := #[], attributes := #[] }
def k3m0 : Method := { name := "<init>", desc := "(Ljava/lang/String;Ljava/lang/String;)V", sig := { parameters := [(.object "java/lang/String"), (.object "java/lang/String")], returnType := none }, accessFlags := 0, code := some k3c0 }
def k3c1 : Code := { maxStack := 2, maxLocals := 3, code := prog_21_method_5_code, exceptionTable := #[], attributes := #[] }
def k3m1 : Method := { name := "equals", desc := "(Ljava/lang/Object;)Z", sig := { parameters := [(.object "java/lang/Object")], returnType := some .boolean }, accessFlags := 1, code := some k3c1 }
/-- com/example/collateral_debt_model/collateraldebtmodel/NamePair -/
def k3 : Class := { plain "com/example/collateral_debt_model/collateraldebtmodel/NamePair" (some 0) with
  accessFlags := 48
  interfaces := #[2]
  cf := some (fileOf pool3 18 #[] #[{ accessFlags := 0, nameIndex := 5, descriptorIndex := 45, attributes := #[] }, { accessFlags := 1, nameIndex := 34, descriptorIndex := 35, attributes := #[] }] 48 2 #[43] #[{ accessFlags := 18, nameIndex := 21, descriptorIndex := 22, attributes := #[] }, { accessFlags := 18, nameIndex := 27, descriptorIndex := 22, attributes := #[] }])
  fields := #[{ name := "first", type := (.object "java/lang/String"), accessFlags := 18, slot := 0, constantValue := 0 }, { name := "second", type := (.object "java/lang/String"), accessFlags := 18, slot := 1, constantValue := 0 }]
  methods := #[k3m0, k3m1]
  instanceTypes := #[(.object "java/lang/String"), (.object "java/lang/String")]
  staticTypes := #[]
  resolved := Array.replicate 58 none
  statics := none }

def pool4 : Array CpInfo := pool [(1, .class_ 2), (0, u "java/io/Serializable"), (0, .class_ 4), (0, u "java/lang/Object")] 2

/-- java/io/Serializable -/
def k4 : Class := { plain "java/io/Serializable" (some 0) with
  accessFlags := 1537
  interfaces := #[]
  cf := some (fileOf pool4 1 #[] #[] 1537 3 #[] #[])
  fields := #[]
  methods := #[]
  instanceTypes := #[]
  staticTypes := #[]
  resolved := Array.replicate 7 none
  statics := none }

def pool5 : Array CpInfo := pool [(2, .class_ 4), (1, u "java/lang/CharSequence"), (42, .class_ 48), (0, u "java/lang/CharSequence$1CodePointIterator"), (10, .class_ 60), (0, u "java/lang/CharSequence$1CharIterator"), (5, .class_ 67), (0, u "java/lang/Object")] 63

/-- java/lang/CharSequence -/
def k5 : Class := { plain "java/lang/CharSequence" (some 0) with
  accessFlags := 1537
  interfaces := #[]
  cf := some (fileOf pool5 2 #[.nestMembers #[47, 59]] #[] 1537 66 #[] #[])
  fields := #[]
  methods := #[]
  instanceTypes := #[]
  staticTypes := #[]
  resolved := Array.replicate 131 none
  statics := none }

def pool6 : Array CpInfo := pool [(1, .class_ 2), (0, u "java/lang/constant/Constable"), (0, .class_ 4), (0, u "java/lang/Object")] 6

/-- java/lang/constant/Constable -/
def k6 : Class := { plain "java/lang/constant/Constable" (some 0) with
  accessFlags := 1537
  interfaces := #[]
  cf := some (fileOf pool6 1 #[] #[] 1537 3 #[] #[])
  fields := #[]
  methods := #[]
  instanceTypes := #[]
  staticTypes := #[]
  resolved := Array.replicate 11 none
  statics := none }

def pool7 : Array CpInfo := pool [(1, .class_ 2), (0, u "java/lang/constant/ConstantDesc"), (0, .class_ 4), (0, u "java/lang/Object")] 32

/-- java/lang/constant/ConstantDesc -/
def k7 : Class := { plain "java/lang/constant/ConstantDesc" (some 0) with
  accessFlags := 1537
  interfaces := #[]
  cf := some (fileOf pool7 1 #[] #[] 1537 3 #[] #[])
  fields := #[]
  methods := #[]
  instanceTypes := #[]
  staticTypes := #[]
  resolved := Array.replicate 37 none
  statics := none }

def pool8 : Array CpInfo := pool [(1, .methodref 2 3), (0, .class_ 4), (0, .nameAndType 5 6), (0, u "java/lang/Object"), (0, u "<init>"), (0, u "()V"), (0, .string 8), (0, u ""), (0, .fieldref 10 11), (0, .class_ 12), (0, .nameAndType 13 14), (0, u "java/lang/String"), (0, u "value"), (0, u "[B"), (0, .fieldref 10 16), (0, .nameAndType 17 18), (0, u "coder"), (0, u "B"), (2, u "hash"), (0, u "I"), (2, u "hashIsZero"), (0, u "Z"), (0, .methodref 10 28), (0, .nameAndType 5 29), (0, u "([CIILjava/lang/Void;)V"), (8, .fieldref 10 39), (0, .nameAndType 40 26), (0, u "COMPACT_STRINGS"), (1, .class_ 44), (1, u "java/lang/StringUTF16"), (0, u "compress"), (1, .methodref 42 48), (0, .nameAndType 49 50), (0, u "coderFromArrayLen"), (0, u "([BI)B"), (56, .class_ 109), (1, u "java/lang/StringLatin1"), (67, .methodref 42 178), (0, .nameAndType 45 179), (0, u "([CII)[B"), (361, .methodref 107 542), (0, .nameAndType 543 544), (0, u "equals"), (0, u "([B[B)Z"), (28, u "(Ljava/lang/Object;)Z"), (1, .class_ 576), (0, u "java/lang/CharSequence"), (22, u "CASE_INSENSITIVE_ORDER"), (0, u "Ljava/util/Comparator;"), (409, u "([C)V"), (90, u "serialPersistentFields"), (0, u "[Ljava/io/ObjectStreamField;"), (0, .class_ 1104), (0, u "java/lang/String$CaseInsensitiveComparator"), (1, .class_ 1107), (0, u "java/io/Serializable"), (0, .class_ 1109), (0, u "java/lang/Comparable"), (0, .class_ 1111), (0, u "java/lang/constant/Constable"), (0, .class_ 1113), (0, u "java/lang/constant/ConstantDesc"), (2, u "serialVersionUID"), (0, u "J"), (3, u "REPL"), (0, u "C"), (2, u "LATIN1"), (1, u "UTF16")] 323

def k8m0 : Method := { name := "<init>", desc := "()V", sig := { parameters := [], returnType := none }, accessFlags := 1, code := none }
def k8c1 : Code := { maxStack := 5, maxLocals := 2, code := jdk_42_method_3_code, exceptionTable := #[], attributes := #[] }
def k8m1 : Method := { name := "<init>", desc := "([C)V", sig := { parameters := [(.array .char)], returnType := none }, accessFlags := 1, code := some k8c1 }
def k8c2 : Code := { maxStack := 2, maxLocals := 3, code := jdk_42_method_66_code, exceptionTable := #[], attributes := #[] }
def k8m2 : Method := { name := "equals", desc := "(Ljava/lang/Object;)Z", sig := { parameters := [(.object "java/lang/Object")], returnType := some .boolean }, accessFlags := 1, code := some k8c2 }
def k8c3 : Code := { maxStack := 4, maxLocals := 6, code := jdk_42_method_149_code, exceptionTable := #[], attributes := #[] }
def k8m3 : Method := { name := "<init>", desc := "([CIILjava/lang/Void;)V", sig := { parameters := [(.array .char), .int, .int, (.object "java/lang/Void")], returnType := none }, accessFlags := 2, code := some k8c3 }
/-- java/lang/String -/
def k8 : Class := { plain "java/lang/String" (some 0) with
  accessFlags := 49
  interfaces := #[4, 2, 5, 6, 7]
  cf := some (fileOf pool8 10 #[.nestMembers #[1103]] #[{ accessFlags := 1, nameIndex := 5, descriptorIndex := 6, attributes := #[] }, { accessFlags := 1, nameIndex := 5, descriptorIndex := 1010, attributes := #[] }, { accessFlags := 1, nameIndex := 543, descriptorIndex := 573, attributes := #[] }, { accessFlags := 2, nameIndex := 5, descriptorIndex := 29, attributes := #[] }] 49 2 #[1106, 1108, 575, 1110, 1112] #[{ accessFlags := 18, nameIndex := 13, descriptorIndex := 14, attributes := #[] }, { accessFlags := 18, nameIndex := 17, descriptorIndex := 18, attributes := #[] }, { accessFlags := 2, nameIndex := 21, descriptorIndex := 22, attributes := #[] }, { accessFlags := 2, nameIndex := 25, descriptorIndex := 26, attributes := #[] }, { accessFlags := 26, nameIndex := 1116, descriptorIndex := 1117, attributes := #[] }, { accessFlags := 24, nameIndex := 40, descriptorIndex := 26, attributes := #[] }, { accessFlags := 26, nameIndex := 1101, descriptorIndex := 1102, attributes := #[] }, { accessFlags := 26, nameIndex := 1121, descriptorIndex := 1122, attributes := #[] }, { accessFlags := 25, nameIndex := 599, descriptorIndex := 600, attributes := #[] }, { accessFlags := 24, nameIndex := 1125, descriptorIndex := 18, attributes := #[] }, { accessFlags := 24, nameIndex := 1127, descriptorIndex := 18, attributes := #[] }])
  fields := #[{ name := "value", type := (.array .byte), accessFlags := 18, slot := 0, constantValue := 0 }, { name := "coder", type := .byte, accessFlags := 18, slot := 1, constantValue := 0 }, { name := "hash", type := .int, accessFlags := 2, slot := 2, constantValue := 0 }, { name := "hashIsZero", type := .boolean, accessFlags := 2, slot := 3, constantValue := 0 }, { name := "serialVersionUID", type := .long, accessFlags := 26, slot := 0, constantValue := 0 }, { name := "COMPACT_STRINGS", type := .boolean, accessFlags := 24, slot := 1, constantValue := 0 }, { name := "serialPersistentFields", type := (.array (.object "java/io/ObjectStreamField")), accessFlags := 26, slot := 2, constantValue := 0 }, { name := "REPL", type := .char, accessFlags := 26, slot := 3, constantValue := 0 }, { name := "CASE_INSENSITIVE_ORDER", type := (.object "java/util/Comparator"), accessFlags := 25, slot := 4, constantValue := 0 }, { name := "LATIN1", type := .byte, accessFlags := 24, slot := 5, constantValue := 0 }, { name := "UTF16", type := .byte, accessFlags := 24, slot := 6, constantValue := 0 }]
  methods := #[k8m0, k8m1, k8m2, k8m3]
  instanceTypes := #[(.array .byte), .byte, .int, .boolean]
  staticTypes := #[.long, .boolean, (.array (.object "java/io/ObjectStreamField")), .char, (.object "java/util/Comparator"), .byte, .byte]
  resolved := Array.replicate 1451 none
  statics := some 0 }

def pool9 : Array CpInfo := pool [(6, .class_ 8), (1, u "java/lang/Object"), (0, u "<init>"), (0, u "()V"), (1, .class_ 14), (1, u "java/lang/StringUTF16"), (31, u "$assertionsDisabled"), (0, u "Z"), (13, u "HI_BYTE_SHIFT"), (0, u "I"), (2, u "LO_BYTE_SHIFT"), (49, .methodref 12 116), (0, .nameAndType 117 118), (0, u "compress"), (0, u "([CI[BII)I"), (3, u "([CII)[B"), (138, u "coderFromArrayLen"), (0, u "([BI)B"), (106, .class_ 371), (1, u "java/lang/StringUTF16$LinesSpliterator"), (58, u "MAX_LENGTH"), (196, .class_ 628), (0, u "java/lang/StringUTF16$CodePointsSpliterator"), (0, .class_ 630), (0, u "java/lang/StringUTF16$CharsSpliterator")] 4

def k9m0 : Method := { name := "<init>", desc := "()V", sig := { parameters := [], returnType := none }, accessFlags := 0, code := none }
def k9c1 : Code := { maxStack := 2, maxLocals := 2, code := jdk_52_method_15_code, exceptionTable := #[], attributes := #[] }
def k9m1 : Method := { name := "coderFromArrayLen", desc := "([BI)B", sig := { parameters := [(.array .byte), .int], returnType := some .byte }, accessFlags := 8, code := some k9c1 }
def k9c2 : Code := { maxStack := 5, maxLocals := 6, code := jdk_52_method_16_code, exceptionTable := #[], attributes := #[] }
def k9m2 : Method := { name := "compress", desc := "([CII)[B", sig := { parameters := [(.array .char), .int, .int], returnType := some (.array .byte) }, accessFlags := 9, code := some k9c2 }
def k9c3 : Code := { maxStack := 3, maxLocals := 7, code := jdk_52_method_21_code, exceptionTable := #[], attributes := #[] }
def k9m3 : Method := { name := "compress", desc := "([CI[BII)I", sig := { parameters := [(.array .char), .int, (.array .byte), .int, .int], returnType := some .int }, accessFlags := 9, code := some k9c3 }
/-- java/lang/StringUTF16 -/
def k9 : Class := { plain "java/lang/StringUTF16" (some 0) with
  accessFlags := 48
  interfaces := #[]
  cf := some (fileOf pool9 12 #[.nestMembers #[627, 629, 369]] #[{ accessFlags := 0, nameIndex := 9, descriptorIndex := 10, attributes := #[] }, { accessFlags := 8, nameIndex := 261, descriptorIndex := 262, attributes := #[] }, { accessFlags := 9, nameIndex := 117, descriptorIndex := 122, attributes := #[] }, { accessFlags := 9, nameIndex := 117, descriptorIndex := 118, attributes := #[] }] 48 6 #[] #[{ accessFlags := 26, nameIndex := 61, descriptorIndex := 62, attributes := #[] }, { accessFlags := 26, nameIndex := 65, descriptorIndex := 62, attributes := #[] }, { accessFlags := 24, nameIndex := 430, descriptorIndex := 62, attributes := #[] }, { accessFlags := 4120, nameIndex := 46, descriptorIndex := 47, attributes := #[] }])
  fields := #[{ name := "HI_BYTE_SHIFT", type := .int, accessFlags := 26, slot := 0, constantValue := 0 }, { name := "LO_BYTE_SHIFT", type := .int, accessFlags := 26, slot := 1, constantValue := 0 }, { name := "MAX_LENGTH", type := .int, accessFlags := 24, slot := 2, constantValue := 0 }, { name := "$assertionsDisabled", type := .boolean, accessFlags := 4120, slot := 3, constantValue := 0 }]
  methods := #[k9m0, k9m1, k9m2, k9m3]
  instanceTypes := #[]
  staticTypes := #[.int, .int, .int, .boolean]
  resolved := Array.replicate 635 none
  statics := none }

def pool10 : Array CpInfo := pool [(2, .class_ 4), (1, u "java/lang/Object"), (0, u "<init>"), (0, u "()V"), (35, .class_ 44), (1, u "java/util/Objects"), (0, u "requireNonNull"), (48, u "(Ljava/lang/Object;Ljava/lang/String;)Ljava/lang/Object;")] 89

def k10m0 : Method := { name := "<init>", desc := "()V", sig := { parameters := [], returnType := none }, accessFlags := 2, code := none }
def k10c1 : Code := { maxStack := 3, maxLocals := 2, code := jdk_31_method_11_code, exceptionTable := #[], attributes := #[] }
def k10m1 : Method := { name := "requireNonNull", desc := "(Ljava/lang/Object;Ljava/lang/String;)Ljava/lang/Object;", sig := { parameters := [(.object "java/lang/Object"), (.object "java/lang/String")], returnType := some (.object "java/lang/Object") }, accessFlags := 9, code := some k10c1 }
/-- java/util/Objects -/
def k10 : Class := { plain "java/util/Objects" (some 0) with
  accessFlags := 49
  interfaces := #[]
  cf := some (fileOf pool10 42 #[] #[{ accessFlags := 2, nameIndex := 5, descriptorIndex := 6, attributes := #[] }, { accessFlags := 9, nameIndex := 45, descriptorIndex := 94, attributes := #[] }] 49 2 #[] #[])
  fields := #[]
  methods := #[k10m0, k10m1]
  instanceTypes := #[]
  staticTypes := #[]
  resolved := Array.replicate 184 none
  statics := none }

def pool11 : Array CpInfo := pool [(4, .class_ 6), (1, u "java/lang/Object"), (0, u "<init>"), (0, u "()V"), (5, .class_ 16), (1, u "java/lang/StringLatin1"), (104, u "$assertionsDisabled"), (0, u "Z"), (98, .class_ 223), (1, u "java/lang/StringLatin1$LinesSpliterator"), (57, u "equals"), (0, u "([B[B)Z"), (107, .class_ 391), (0, u "java/lang/StringLatin1$CharsSpliterator")] 3

def k11m0 : Method := { name := "<init>", desc := "()V", sig := { parameters := [], returnType := none }, accessFlags := 0, code := none }
def k11c1 : Code := { maxStack := 3, maxLocals := 3, code := jdk_43_method_13_code, exceptionTable := #[], attributes := #[] }
def k11m1 : Method := { name := "equals", desc := "([B[B)Z", sig := { parameters := [(.array .byte), (.array .byte)], returnType := some .boolean }, accessFlags := 9, code := some k11c1 }
/-- java/lang/StringLatin1 -/
def k11 : Class := { plain "java/lang/StringLatin1" (some 0) with
  accessFlags := 48
  interfaces := #[]
  cf := some (fileOf pool11 14 #[.nestMembers #[390, 221]] #[{ accessFlags := 0, nameIndex := 7, descriptorIndex := 8, attributes := #[] }, { accessFlags := 9, nameIndex := 281, descriptorIndex := 282, attributes := #[] }] 48 4 #[] #[{ accessFlags := 4120, nameIndex := 121, descriptorIndex := 122, attributes := #[] }])
  fields := #[{ name := "$assertionsDisabled", type := .boolean, accessFlags := 4120, slot := 0, constantValue := 0 }]
  methods := #[k11m0, k11m1]
  instanceTypes := #[]
  staticTypes := #[.boolean]
  resolved := Array.replicate 395 none
  statics := none }

def pool12 : Array CpInfo := pool [(2, .class_ 4), (1, u "java/lang/Object"), (0, u "<init>"), (0, u "()V"), (17, .class_ 26), (1, u "jdk/internal/util/Preconditions"), (28, .class_ 56), (0, u "jdk/internal/util/Preconditions$4"), (57, .class_ 115), (0, u "jdk/internal/util/Preconditions$1"), (7, u "SIOOBE_FORMATTER"), (0, u "Ljava/util/function/BiFunction;"), (0, .class_ 126), (0, u "jdk/internal/util/Preconditions$2"), (3, u "AIOOBE_FORMATTER"), (0, .class_ 132), (0, u "jdk/internal/util/Preconditions$3"), (3, u "IOOBE_FORMATTER")] 57

def k12m0 : Method := { name := "<init>", desc := "()V", sig := { parameters := [], returnType := none }, accessFlags := 1, code := none }
/-- jdk/internal/util/Preconditions -/
def k12 : Class := { plain "jdk/internal/util/Preconditions" (some 0) with
  accessFlags := 33
  interfaces := #[]
  cf := some (fileOf pool12 24 #[.nestMembers #[55, 131, 125, 114]] #[{ accessFlags := 1, nameIndex := 5, descriptorIndex := 6, attributes := #[] }] 33 2 #[] #[{ accessFlags := 25, nameIndex := 123, descriptorIndex := 124, attributes := #[] }, { accessFlags := 25, nameIndex := 130, descriptorIndex := 124, attributes := #[] }, { accessFlags := 25, nameIndex := 136, descriptorIndex := 124, attributes := #[] }])
  fields := #[{ name := "SIOOBE_FORMATTER", type := (.object "java/util/function/BiFunction"), accessFlags := 25, slot := 0, constantValue := 0 }, { name := "AIOOBE_FORMATTER", type := (.object "java/util/function/BiFunction"), accessFlags := 25, slot := 1, constantValue := 0 }, { name := "IOOBE_FORMATTER", type := (.object "java/util/function/BiFunction"), accessFlags := 25, slot := 2, constantValue := 0 }]
  methods := #[k12m0]
  instanceTypes := #[]
  staticTypes := #[(.object "java/util/function/BiFunction"), (.object "java/util/function/BiFunction"), (.object "java/util/function/BiFunction")]
  resolved := Array.replicate 194 none
  statics := some 1 }

def pool13 : Array CpInfo := pool [(9, u "<init>"), (6, .class_ 18), (1, u "java/lang/Object"), (0, u "()V"), (1, .class_ 23), (1, u "jdk/internal/util/ArraysSupport"), (0, u "LOG2_ARRAY_LONG_INDEX_SCALE"), (0, u "I"), (2, u "U"), (0, u "Ljdk/internal/misc/Unsafe;"), (8, u "BIG_ENDIAN"), (0, u "Z"), (8, u "LOG2_BYTE_BIT_SIZE"), (4, u "LOG2_ARRAY_INT_INDEX_SCALE"), (54, u "JLA"), (0, u "Ljdk/internal/access/JavaLangAccess;"), (11, u "LOG2_ARRAY_BOOLEAN_INDEX_SCALE"), (9, u "LOG2_ARRAY_BYTE_INDEX_SCALE"), (5, u "LOG2_ARRAY_CHAR_INDEX_SCALE"), (5, u "LOG2_ARRAY_SHORT_INDEX_SCALE"), (18, u "LOG2_ARRAY_FLOAT_INDEX_SCALE"), (24, u "LOG2_ARRAY_DOUBLE_INDEX_SCALE"), (89, u "T_BOOLEAN"), (2, u "T_CHAR"), (1, u "T_FLOAT"), (1, u "T_DOUBLE"), (1, u "T_BYTE"), (1, u "T_SHORT"), (1, u "T_INT"), (1, u "T_LONG"), (1, u "SOFT_MAX_ARRAY_LENGTH")] 83

def k13m0 : Method := { name := "<init>", desc := "()V", sig := { parameters := [], returnType := none }, accessFlags := 2, code := none }
/-- jdk/internal/util/ArraysSupport -/
def k13 : Class := { plain "jdk/internal/util/ArraysSupport" (some 0) with
  accessFlags := 33
  interfaces := #[]
  cf := some (fileOf pool13 21 #[] #[{ accessFlags := 2, nameIndex := 9, descriptorIndex := 19, attributes := #[] }] 33 16 #[] #[{ accessFlags := 24, nameIndex := 28, descriptorIndex := 29, attributes := #[] }, { accessFlags := 26, nameIndex := 38, descriptorIndex := 39, attributes := #[] }, { accessFlags := 25, nameIndex := 121, descriptorIndex := 25, attributes := #[] }, { accessFlags := 25, nameIndex := 131, descriptorIndex := 25, attributes := #[] }, { accessFlags := 25, nameIndex := 137, descriptorIndex := 25, attributes := #[] }, { accessFlags := 25, nameIndex := 143, descriptorIndex := 25, attributes := #[] }, { accessFlags := 25, nameIndex := 53, descriptorIndex := 25, attributes := #[] }, { accessFlags := 25, nameIndex := 24, descriptorIndex := 25, attributes := #[] }, { accessFlags := 25, nameIndex := 162, descriptorIndex := 25, attributes := #[] }, { accessFlags := 25, nameIndex := 187, descriptorIndex := 25, attributes := #[] }, { accessFlags := 26, nameIndex := 48, descriptorIndex := 25, attributes := #[] }, { accessFlags := 25, nameIndex := 277, descriptorIndex := 25, attributes := #[] }, { accessFlags := 25, nameIndex := 280, descriptorIndex := 25, attributes := #[] }, { accessFlags := 25, nameIndex := 282, descriptorIndex := 25, attributes := #[] }, { accessFlags := 25, nameIndex := 284, descriptorIndex := 25, attributes := #[] }, { accessFlags := 25, nameIndex := 286, descriptorIndex := 25, attributes := #[] }, { accessFlags := 25, nameIndex := 288, descriptorIndex := 25, attributes := #[] }, { accessFlags := 25, nameIndex := 290, descriptorIndex := 25, attributes := #[] }, { accessFlags := 25, nameIndex := 292, descriptorIndex := 25, attributes := #[] }, { accessFlags := 26, nameIndex := 108, descriptorIndex := 109, attributes := #[] }, { accessFlags := 25, nameIndex := 294, descriptorIndex := 25, attributes := #[] }])
  fields := #[{ name := "U", type := (.object "jdk/internal/misc/Unsafe"), accessFlags := 24, slot := 0, constantValue := 0 }, { name := "BIG_ENDIAN", type := .boolean, accessFlags := 26, slot := 1, constantValue := 0 }, { name := "LOG2_ARRAY_BOOLEAN_INDEX_SCALE", type := .int, accessFlags := 25, slot := 2, constantValue := 0 }, { name := "LOG2_ARRAY_BYTE_INDEX_SCALE", type := .int, accessFlags := 25, slot := 3, constantValue := 0 }, { name := "LOG2_ARRAY_CHAR_INDEX_SCALE", type := .int, accessFlags := 25, slot := 4, constantValue := 0 }, { name := "LOG2_ARRAY_SHORT_INDEX_SCALE", type := .int, accessFlags := 25, slot := 5, constantValue := 0 }, { name := "LOG2_ARRAY_INT_INDEX_SCALE", type := .int, accessFlags := 25, slot := 6, constantValue := 0 }, { name := "LOG2_ARRAY_LONG_INDEX_SCALE", type := .int, accessFlags := 25, slot := 7, constantValue := 0 }, { name := "LOG2_ARRAY_FLOAT_INDEX_SCALE", type := .int, accessFlags := 25, slot := 8, constantValue := 0 }, { name := "LOG2_ARRAY_DOUBLE_INDEX_SCALE", type := .int, accessFlags := 25, slot := 9, constantValue := 0 }, { name := "LOG2_BYTE_BIT_SIZE", type := .int, accessFlags := 26, slot := 10, constantValue := 0 }, { name := "T_BOOLEAN", type := .int, accessFlags := 25, slot := 11, constantValue := 0 }, { name := "T_CHAR", type := .int, accessFlags := 25, slot := 12, constantValue := 0 }, { name := "T_FLOAT", type := .int, accessFlags := 25, slot := 13, constantValue := 0 }, { name := "T_DOUBLE", type := .int, accessFlags := 25, slot := 14, constantValue := 0 }, { name := "T_BYTE", type := .int, accessFlags := 25, slot := 15, constantValue := 0 }, { name := "T_SHORT", type := .int, accessFlags := 25, slot := 16, constantValue := 0 }, { name := "T_INT", type := .int, accessFlags := 25, slot := 17, constantValue := 0 }, { name := "T_LONG", type := .int, accessFlags := 25, slot := 18, constantValue := 0 }, { name := "JLA", type := (.object "jdk/internal/access/JavaLangAccess"), accessFlags := 26, slot := 19, constantValue := 0 }, { name := "SOFT_MAX_ARRAY_LENGTH", type := .int, accessFlags := 25, slot := 20, constantValue := 0 }]
  methods := #[k13m0]
  instanceTypes := #[]
  staticTypes := #[(.object "jdk/internal/misc/Unsafe"), .boolean, .int, .int, .int, .int, .int, .int, .int, .int, .int, .int, .int, .int, .int, .int, .int, .int, .int, (.object "jdk/internal/access/JavaLangAccess"), .int]
  resolved := Array.replicate 378 none
  statics := none }

def pool14 : Array CpInfo := pool [(1, u "java/lang/Cloneable"), (0, .class_ 1), (0, u "java/lang/Object"), (0, .class_ 3)] 3

/-- java/lang/Cloneable -/
def k14 : Class := { plain "java/lang/Cloneable" (some 0) with
  accessFlags := 1537
  interfaces := #[]
  cf := some (fileOf pool14 2 #[] #[] 1537 4 #[] #[])
  fields := #[]
  methods := #[]
  instanceTypes := #[]
  staticTypes := #[]
  resolved := Array.replicate 8 none
  statics := none }

/-- the primitive byte -/
def k15 : Class := { plain "byte" none with kind := .primitive 'B', accessFlags := 0x411 }
/-- [B -/
def k16 : Class := { plain "[B" (some 0) with kind := .array 15 .byte, interfaces := #[14, 4], accessFlags := 1041 }

/-- the primitive char -/
def k17 : Class := { plain "char" none with kind := .primitive 'C', accessFlags := 0x411 }
/-- [C -/
def k18 : Class := { plain "[C" (some 0) with kind := .array 17 .char, interfaces := #[14, 4], accessFlags := 1041 }

/-- the primitive int -/
def k19 : Class := { plain "int" none with kind := .primitive 'I', accessFlags := 0x411 }
/-- [I -/
def k20 : Class := { plain "[I" (some 0) with kind := .array 19 .int, interfaces := #[14, 4], accessFlags := 1041 }

def heap : Heap := #[{ cls := 8, slots := #[.long 0, .int 1, .null, .int 0, .null, .int 0, .int 0], vm := .statics 8 },
  { cls := 12, slots := #[.null, .null, .null], vm := .statics 12 }]
def classes : Array Class := #[k0, k1, k2, k3, k4, k5, k6, k7, k8, k9, k10, k11, k12, k13, k14, k15, k16, k17, k18, k19, k20]
def interned : List (Array UInt16 × Addr) := []
def slotsUsed : Nat := 10
def theMethod : MethodId := ⟨1, 3⟩
def args0 : Array Value := #[.int 5, .int 6, .int 7, .int 8, .int 9]
def aboutOver (below : List Frame) : State where
  vm := { classes := classes, interned := interned.toArray }
  heap := heap
  slotsUsed := slotsUsed
  threads := #[{ frames := .invoking theMethod args0 :: below }]
def below0 : List Frame := [.native { method := ⟨0, 0⟩, args := #[] }]
def about1 : State := aboutOver below0
def p0 : Program := .bare "" "" ""
def e0 : Env := launch0.env 0 0 0
theorem w_frames : about1.frames = Frame.invoking theMethod args0 :: below0 := rfl
set_option maxRecDepth 65536 in
theorem w_args : argsFit about1.vm theMethod args0 = true := by decide +kernel
set_option maxRecDepth 65536 in
theorem w_heap : heapFits about1 = true := by decide +kernel
set_option maxRecDepth 65536 in
theorem w_runnable : about1.curStatus? = some .runnable := by decide +kernel
set_option maxRecDepth 65536 in
theorem w_alone : about1.alone = true := by decide +kernel
set_option maxRecDepth 65536 in
theorem w_named : about1.methodNamed? x = some theMethod := by decide +kernel
set_option maxRecDepth 65536 in
theorem w_hears : about1.hears theMethod below0 = true := by decide +kernel
set_option maxRecDepth 65536 in
theorem w_ripe : about1.ripe theMethod args0 below0 = true := by decide +kernel
theorem w_running : about1.status = .running := rfl
set_option maxRecDepth 65536 in
theorem w_room : about1.hasRoom e0.platform room_1 = true :=
  launch0.hasRoom_least _ room_1 (by decide +kernel) (by decide +kernel) (by decide +kernel) (by decide +kernel) (by decide +kernel) (by decide +kernel)
theorem allAtoms_all (ts : List Jvm.Cond) (a : Array Jvm.Value) (st : Jvm.State) : (allAtoms ts).before a st = ts.all (fun c => c.before a st) := by
  induction ts with
  | nil => rfl
  | cons c t ih =>
    show (Jvm.Cond.and c (allAtoms t)).before a st = _
    rw [Jvm.Cond.before_and, ih, List.all_cons]
def words1 : List Jvm.Cond := Jvm.Cond.code x code maxLocals ret :: tables_1
/-- a 'code' word, met by the world's own term for the bytes: nothing is compared byte by byte -/
theorem code_word {y : MethodName} {bytes : ByteArray} {mx : Nat} {rt : Option FieldType} {a : Array Value} {s : State} {m : MethodId} {meth : Method} {c : Code} (h1 : s.methodNamed? y = some m) (h2 : s.vm.method? m = some meth) (h3 : meth.code = some c) (h4 : c.code = bytes)
    (h5 : (c.maxLocals == mx && c.exceptionTable.isEmpty && decide (c.maxStack ≤ mostOperands) && decide (meth.sig.returnType = rt) && !meth.locks && decide (parseMethodDescriptor y.desc = some meth.sig)) = true) : (Jvm.Cond.code y bytes mx rt).before a s = true := by
  simp only [Bool.and_eq_true, beq_iff_eq, Bool.not_eq_true', decide_eq_true_eq] at h5
  obtain ⟨⟨⟨⟨⟨g1, g2⟩, g3⟩, g4⟩, g5⟩, g6⟩ := h5
  simp [Cond.before, Cond.holds, Cond.value, h1, h2, h3, h4, g1, g2, g3, g4, g5, g6]
def isCode : Jvm.Cond → Bool
  | .code _ _ _ _ => true
  | _ => false
theorem all_split {L : List Jvm.Cond} {P : Jvm.Cond → Bool} (h1 : L.all (fun c => isCode c || P c) = true) (h2 : ∀ c ∈ L.filter isCode, P c = true) : L.all P = true := by
  refine List.all_eq_true.mpr fun c hc => ?_
  have h := List.all_eq_true.mp h1 c hc
  rcases Bool.eq_false_or_eq_true (isCode c) with hi | hi
  · exact h2 c (List.mem_filter.mpr ⟨hc, hi⟩)
  · simpa [hi] using h
set_option maxRecDepth 65536 in
theorem w_c0 : (Jvm.Cond.code x code maxLocals ret).before args0 about1 = true := code_word (m := ⟨1, 3⟩) (meth := k1m3) (c := k1c3) (by decide +kernel) rfl rfl rfl (by decide +kernel)
set_option maxRecDepth 65536 in
theorem w_c1 : (Jvm.Cond.code ({ cls := "com/example/collateral_debt_model/collateraldebtmodel/NamePairEqualsPinLaw", name := "mk", desc := "(I)Ljava/lang/String;" } : Jvm.MethodName) method_2_code (5 : Nat) (Option.some (Jvm.ClassFile.FieldType.object "java/lang/String"))).before args0 about1 = true := code_word (m := ⟨1, 1⟩) (meth := k1m1) (c := k1c1) (by decide +kernel) rfl rfl rfl (by decide +kernel)
set_option maxRecDepth 65536 in
theorem w_c2 : (Jvm.Cond.code ({ cls := "java/lang/String", name := "<init>", desc := "([C)V" } : Jvm.MethodName) jdk_42_method_3_code (2 : Nat) (Option.none : Option Jvm.ClassFile.FieldType)).before args0 about1 = true := code_word (m := ⟨8, 1⟩) (meth := k8m1) (c := k8c1) (by decide +kernel) rfl rfl rfl (by decide +kernel)
set_option maxRecDepth 65536 in
theorem w_c3 : (Jvm.Cond.code ({ cls := "java/lang/String", name := "<init>", desc := "([CIILjava/lang/Void;)V" } : Jvm.MethodName) jdk_42_method_149_code (6 : Nat) (Option.none : Option Jvm.ClassFile.FieldType)).before args0 about1 = true := code_word (m := ⟨8, 3⟩) (meth := k8m3) (c := k8c3) (by decide +kernel) rfl rfl rfl (by decide +kernel)
set_option maxRecDepth 65536 in
theorem w_c4 : (Jvm.Cond.code ({ cls := "java/lang/Object", name := "<init>", desc := "()V" } : Jvm.MethodName) object_method_1_code (1 : Nat) (Option.none : Option Jvm.ClassFile.FieldType)).before args0 about1 = true := code_word (m := ⟨0, 0⟩) (meth := k0m0) (c := k0c0) (by decide +kernel) rfl rfl rfl (by decide +kernel)
set_option maxRecDepth 65536 in
theorem w_c5 : (Jvm.Cond.code ({ cls := "java/lang/StringUTF16", name := "compress", desc := "([CII)[B" } : Jvm.MethodName) jdk_52_method_16_code (6 : Nat) (Option.some (Jvm.ClassFile.FieldType.array Jvm.ClassFile.FieldType.byte))).before args0 about1 = true := code_word (m := ⟨9, 2⟩) (meth := k9m2) (c := k9c2) (by decide +kernel) rfl rfl rfl (by decide +kernel)
set_option maxRecDepth 65536 in
theorem w_c6 : (Jvm.Cond.code ({ cls := "java/lang/StringUTF16", name := "compress", desc := "([CI[BII)I" } : Jvm.MethodName) jdk_52_method_21_code (7 : Nat) (Option.some Jvm.ClassFile.FieldType.int)).before args0 about1 = true := code_word (m := ⟨9, 3⟩) (meth := k9m3) (c := k9c3) (by decide +kernel) rfl rfl rfl (by decide +kernel)
set_option maxRecDepth 65536 in
theorem w_c7 : (Jvm.Cond.code ({ cls := "java/lang/StringUTF16", name := "coderFromArrayLen", desc := "([BI)B" } : Jvm.MethodName) jdk_52_method_15_code (2 : Nat) (Option.some Jvm.ClassFile.FieldType.byte)).before args0 about1 = true := code_word (m := ⟨9, 1⟩) (meth := k9m1) (c := k9c1) (by decide +kernel) rfl rfl rfl (by decide +kernel)
set_option maxRecDepth 65536 in
theorem w_c8 : (Jvm.Cond.code ({ cls := "com/example/collateral_debt_model/collateraldebtmodel/NamePair", name := "<init>", desc := "(Ljava/lang/String;Ljava/lang/String;)V" } : Jvm.MethodName) prog_21_method_1_code (3 : Nat) (Option.none : Option Jvm.ClassFile.FieldType)).before args0 about1 = true := code_word (m := ⟨3, 0⟩) (meth := k3m0) (c := k3c0) (by decide +kernel) rfl rfl rfl (by decide +kernel)
set_option maxRecDepth 65536 in
theorem w_c9 : (Jvm.Cond.code ({ cls := "java/util/Objects", name := "requireNonNull", desc := "(Ljava/lang/Object;Ljava/lang/String;)Ljava/lang/Object;" } : Jvm.MethodName) jdk_31_method_11_code (2 : Nat) (Option.some (Jvm.ClassFile.FieldType.object "java/lang/Object"))).before args0 about1 = true := code_word (m := ⟨10, 1⟩) (meth := k10m1) (c := k10c1) (by decide +kernel) rfl rfl rfl (by decide +kernel)
set_option maxRecDepth 65536 in
theorem w_c10 : (Jvm.Cond.code ({ cls := "com/example/collateral_debt_model/collateraldebtmodel/NamePairEqualsPinLaw", name := "same", desc := "(II)Z" } : Jvm.MethodName) method_3_code (4 : Nat) (Option.some Jvm.ClassFile.FieldType.boolean)).before args0 about1 = true := code_word (m := ⟨1, 2⟩) (meth := k1m2) (c := k1c2) (by decide +kernel) rfl rfl rfl (by decide +kernel)
set_option maxRecDepth 65536 in
theorem w_c11 : (Jvm.Cond.code ({ cls := "com/example/collateral_debt_model/collateraldebtmodel/NamePair", name := "equals", desc := "(Ljava/lang/Object;)Z" } : Jvm.MethodName) prog_21_method_5_code (3 : Nat) (Option.some Jvm.ClassFile.FieldType.boolean)).before args0 about1 = true := code_word (m := ⟨3, 1⟩) (meth := k3m1) (c := k3c1) (by decide +kernel) rfl rfl rfl (by decide +kernel)
set_option maxRecDepth 65536 in
theorem w_c12 : (Jvm.Cond.code ({ cls := "java/lang/String", name := "equals", desc := "(Ljava/lang/Object;)Z" } : Jvm.MethodName) jdk_42_method_66_code (3 : Nat) (Option.some Jvm.ClassFile.FieldType.boolean)).before args0 about1 = true := code_word (m := ⟨8, 2⟩) (meth := k8m2) (c := k8c2) (by decide +kernel) rfl rfl rfl (by decide +kernel)
set_option maxRecDepth 65536 in
theorem w_c13 : (Jvm.Cond.code ({ cls := "java/lang/StringLatin1", name := "equals", desc := "([B[B)Z" } : Jvm.MethodName) jdk_43_method_13_code (3 : Nat) (Option.some Jvm.ClassFile.FieldType.boolean)).before args0 about1 = true := code_word (m := ⟨11, 1⟩) (meth := k11m1) (c := k11c1) (by decide +kernel) rfl rfl rfl (by decide +kernel)
def codes1 : List Jvm.Cond := [Jvm.Cond.code x code maxLocals ret, Jvm.Cond.code ({ cls := "com/example/collateral_debt_model/collateraldebtmodel/NamePairEqualsPinLaw", name := "mk", desc := "(I)Ljava/lang/String;" } : Jvm.MethodName) method_2_code (5 : Nat) (Option.some (Jvm.ClassFile.FieldType.object "java/lang/String")), Jvm.Cond.code ({ cls := "java/lang/String", name := "<init>", desc := "([C)V" } : Jvm.MethodName) jdk_42_method_3_code (2 : Nat) (Option.none : Option Jvm.ClassFile.FieldType), Jvm.Cond.code ({ cls := "java/lang/String", name := "<init>", desc := "([CIILjava/lang/Void;)V" } : Jvm.MethodName) jdk_42_method_149_code (6 : Nat) (Option.none : Option Jvm.ClassFile.FieldType), Jvm.Cond.code ({ cls := "java/lang/Object", name := "<init>", desc := "()V" } : Jvm.MethodName) object_method_1_code (1 : Nat) (Option.none : Option Jvm.ClassFile.FieldType), Jvm.Cond.code ({ cls := "java/lang/StringUTF16", name := "compress", desc := "([CII)[B" } : Jvm.MethodName) jdk_52_method_16_code (6 : Nat) (Option.some (Jvm.ClassFile.FieldType.array Jvm.ClassFile.FieldType.byte)), Jvm.Cond.code ({ cls := "java/lang/StringUTF16", name := "compress", desc := "([CI[BII)I" } : Jvm.MethodName) jdk_52_method_21_code (7 : Nat) (Option.some Jvm.ClassFile.FieldType.int), Jvm.Cond.code ({ cls := "java/lang/StringUTF16", name := "coderFromArrayLen", desc := "([BI)B" } : Jvm.MethodName) jdk_52_method_15_code (2 : Nat) (Option.some Jvm.ClassFile.FieldType.byte), Jvm.Cond.code ({ cls := "com/example/collateral_debt_model/collateraldebtmodel/NamePair", name := "<init>", desc := "(Ljava/lang/String;Ljava/lang/String;)V" } : Jvm.MethodName) prog_21_method_1_code (3 : Nat) (Option.none : Option Jvm.ClassFile.FieldType), Jvm.Cond.code ({ cls := "java/util/Objects", name := "requireNonNull", desc := "(Ljava/lang/Object;Ljava/lang/String;)Ljava/lang/Object;" } : Jvm.MethodName) jdk_31_method_11_code (2 : Nat) (Option.some (Jvm.ClassFile.FieldType.object "java/lang/Object")), Jvm.Cond.code ({ cls := "com/example/collateral_debt_model/collateraldebtmodel/NamePairEqualsPinLaw", name := "same", desc := "(II)Z" } : Jvm.MethodName) method_3_code (4 : Nat) (Option.some Jvm.ClassFile.FieldType.boolean), Jvm.Cond.code ({ cls := "com/example/collateral_debt_model/collateraldebtmodel/NamePair", name := "equals", desc := "(Ljava/lang/Object;)Z" } : Jvm.MethodName) prog_21_method_5_code (3 : Nat) (Option.some Jvm.ClassFile.FieldType.boolean), Jvm.Cond.code ({ cls := "java/lang/String", name := "equals", desc := "(Ljava/lang/Object;)Z" } : Jvm.MethodName) jdk_42_method_66_code (3 : Nat) (Option.some Jvm.ClassFile.FieldType.boolean), Jvm.Cond.code ({ cls := "java/lang/StringLatin1", name := "equals", desc := "([B[B)Z" } : Jvm.MethodName) jdk_43_method_13_code (3 : Nat) (Option.some Jvm.ClassFile.FieldType.boolean)]
set_option maxRecDepth 65536 in
theorem codes_eq : words1.filter isCode = codes1 := rfl
theorem w_codes : ∀ c ∈ words1.filter isCode, c.before args0 about1 = true := by
  rw [codes_eq]
  intro c hc
  simp only [codes1, List.mem_cons, List.not_mem_nil, or_false] at hc
  rcases hc with rfl | rfl | rfl | rfl | rfl | rfl | rfl | rfl | rfl | rfl | rfl | rfl | rfl | rfl
  · exact w_c0
  · exact w_c1
  · exact w_c2
  · exact w_c3
  · exact w_c4
  · exact w_c5
  · exact w_c6
  · exact w_c7
  · exact w_c8
  · exact w_c9
  · exact w_c10
  · exact w_c11
  · exact w_c12
  · exact w_c13
set_option maxRecDepth 65536 in
theorem w_t1 : (words1.take 24).all (fun c => isCode c || c.before args0 about1) = true := by decide +kernel
set_option maxRecDepth 65536 in
theorem w_t2 : ((words1.drop 24).take 24).all (fun c => isCode c || c.before args0 about1) = true := by decide +kernel
set_option maxRecDepth 65536 in
theorem w_t3 : (((words1.drop 24).drop 24).take 24).all (fun c => isCode c || c.before args0 about1) = true := by decide +kernel
set_option maxRecDepth 65536 in
theorem w_t4 : (((words1.drop 24).drop 24).drop 24).all (fun c => isCode c || c.before args0 about1) = true := by decide +kernel
theorem w_tables : (allAtoms (Jvm.Cond.code x code maxLocals ret :: tables_1)).before args0 about1 = true := by
  rw [allAtoms_all]
  show words1.all (fun c => c.before args0 about1) = true
  refine all_split ?_ w_codes
  rw [← List.take_append_drop 24 words1, List.all_append, w_t1, ← List.take_append_drop 24 (words1.drop 24), List.all_append, w_t2, ← List.take_append_drop 24 ((words1.drop 24).drop 24), List.all_append, w_t3, w_t4]
  rfl
set_option maxRecDepth 65536 in
theorem w_rest : rest_1_c.before args0 about1 = true := by decide +kernel
set_option maxRecDepth 65536 in
theorem w_case : (Jvm.Cond.and given_1 narrow_1).before args0 about1 = true := by decide +kernel
set_option maxRecDepth 65536 in
theorem w_consts : constsHeld consts_1 about1 := Jvm.Lit.constsHeldB_iff.mp (by decide +kernel)
theorem w_applies : (headSpec (Jvm.Cond.code x code maxLocals ret :: tables_1) room_1).applies x e0.platform about1 = true :=
  (Spec.applies_iff w_frames).mpr ⟨w_running, w_runnable, w_alone, w_named, w_hears, w_ripe, w_room, w_tables⟩
theorem atStart : AtStart classFile x code maxLocals ret World_1 tables_1 room_1 Calls_1 rest_1 Pre_1 launch0 p0 e0 about1 theMethod args0 below0 :=
  ⟨lists_1, trivial, launch0.admits_env _ _ _, launch0.least_env, fairChoices_fair.cas, fairChoices_fair.clock, w_frames, w_args, w_heap, w_applies, ⟨w_consts, trivial⟩, w_rest, w_case⟩
end start1
theorem witness_1 : WitnessClaimed_1 := ⟨start1.p0, start1.e0, start1.about1, start1.theMethod, start1.args0, start1.below0, start1.atStart⟩
end Jvm.Pilot.@@N@@
