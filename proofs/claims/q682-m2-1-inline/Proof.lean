import JvmDerived
import JvmDerived.Pilot.@@N@@Statement
import JvmDerived.Pilot.@@N@@Code
set_option linter.unusedVariables false
set_option linter.unusedSimpArgs false

namespace Jvm.OwnW
open Sem ClassFile Op Lib Jvm.Stand Jvm.Free Jvm.LawKit Jvm.RoadKit
/-- the instruction i stands at pc, n bytes long; the next one stands at nx -/
def Ins (code : ByteArray) (pc : Nat) (i : Instr) (n nx : Nat) : Prop := decode code pc = .ok (i, n) ∧ pc + n = nx
/-- a jump by o from pc leads to t -/
def Jmp (pc : Nat) (o : Int) (t : Nat) : Prop := 0 ≤ (pc : Int) + o ∧ ((pc : Int) + o).toNat = t
instance {pc : Nat} {o : Int} {t : Nat} : Decidable (Jmp pc o t) := inferInstanceAs (Decidable (_ ∧ _))
/-- what is fixed through a body's walk -/
def Ctx (p : Program) (s : State) (m : MethodId) (meth : Method) (c : Code) (Z : State) (own nm : String) (code : ByteArray) (ml : Nat) (ret : Option FieldType) : Prop :=
  p.tables.exec = Jvm.exec ∧ Z.Warmed39 s.vm ∧ c.code = code ∧ c.maxLocals = ml ∧ s.vm.findClass own = some m.cls ∧ meth.sig.returnType = ret ∧ meth.locks = false ∧ meth.name = nm ∧ ThS Z s.heap
/-- what is carried unseen: the tables since the start; the constants that are held; D: arrays and Strings of our own, which no constant names -/
def Hid (w : Nat) (Z : State) (EL : List (String × Nat)) (D : List Addr) (s : State) (vm0 : Vm) (h : Heap) : Prop :=
  (if w = 0 then vm0 = s.vm else ∃ k0, s.Since vm0 k0 ∧ k0 ≤ h.size) ∧ (∃ a0, EW Z a0 EL) ∧ CHr Z EL s.vm s.heap vm0 h ∧ ∀ x ∈ D, x < h.size ∧ Safe Z EL vm0 h x
def En (w : Nat) (s : State) (o : Outcome) (t : State) (L : List Loc) (k n : Nat) : Prop := if w = 0 then FrameEnd s o t L k n else ReturnedEndW s o t L k n
/-- how a body ends -/
def Done (w : Nat) (Z : State) (EL : List (String × Nat)) (n0 : Nat) (R : Room) (Q : Option Value → Heap → List Addr → Prop) (s : State) (o : Outcome) (t : State) : Prop :=
  ∃ v L D', o = .returned v ∧ Q v t.heap D' ∧ Old Z n0 t.heap ∧ Fr n0 L ∧ (CHr Z EL s.vm s.heap t.vm t.heap ∧ ∀ x ∈ D', x < t.heap.size ∧ Safe Z EL t.vm t.heap x) ∧ En w s o t L R.cells R.slots
/-- what a stack trace asks -/
def Kn (w : Nat) (Z : State) (below : List Frame) : Prop := w = 2 → Z.vm.MethodsKnown ∧ Z.vm.FramesKnown below
/-- from pc, with these locals, this stack and this heap, the body comes to an end that Q allows -/
def Runs (w : Nat) (l : Launch) (Z : State) (EL : List (String × Nat)) (n0 : Nat) (own nm : String) (code : ByteArray) (ml : Nat) (ret : Option FieldType) (R : Room) (Q : Option Value → Heap → List Addr → Prop) (D : List Addr) (h : Heap) (kc ks pc : Nat) (ls : Array Slot) (st : List Value) : Prop :=
  ∀ (p : Program) (e : Env) (s : State) (vm0 : Vm) (m : MethodId) (args : Array Value) (below : List Frame) (meth : Method) (c : Code) (T : State) (locs : List Loc),
    Ctx p (s.setVm vm0) m meth c Z own nm code ml ret → Stand p l e R (s.setVm vm0) m args below meth c T locs kc ks → T.heap = h → Fr n0 locs → Old Z n0 h → Hid w Z EL D s vm0 h → Kn w Z below →
    ∃ s₂ o, Steps p.tables e below (T.setTop (mkF m pc ls st)) s₂ ∧ s₂.status = .running ∧ Ended s₂ below o ∧ Done w Z EL n0 R Q s o s₂
/-- a method's contract -/
def Con (w : Nat) (l : Launch) (Z : State) (EL : List (String × Nat)) (n0 : Nat) (y : MethodName) (code : ByteArray) (ml : Nat) (ret : Option FieldType) (R : Room) (as' : Array Value) (D : List Addr) (h : Heap) (Q : Option Value → Heap → List Addr → Prop) : Prop :=
  ∀ ws : List Jvm.Cond, MetFree l y (head1 (Jvm.Cond.code y code ml ret :: ws) R) (fun a U => a = as' ∧ Z.Warmed39 U.vm ∧ U.heap = h ∧ Old Z n0 h ∧ (∃ a0, EW Z a0 EL) ∧ CHv Z EL U.vm h ∧ ∀ x ∈ D, x < h.size ∧ Safe Z EL U.vm h x) (fun _ _ bl _ _ => Kn w Z bl) (fun _ U o U' => Done w Z EL n0 R Q U o U')
section W
variable {w : Nat} {l : Launch} {Z : State} {EL : List (String × Nat)} {n0 : Nat} {own nm : String} {code : ByteArray} {ml : Nat} {ret : Option FieldType} {R : Room} {Q : Option Value → Heap → List Addr → Prop} {D : List Addr} {h : Heap} {kc ks pc pc' : Nat} {ls ls' : Array Slot} {st st' rest : List Value} {a0 : Array Value}
theorem Con.of_runs {y : MethodName} {as' : Array Value} (hp : plainFor y = true) (he : ∀ m, entryFrame m as' ml = mkF m 0 ls []) (K : Runs w l Z EL n0 y.cls y.name code ml ret R Q D h 0 0 0 ls []) : Con w l Z EL n0 y code ml ret R as' D h Q := by
  intro ws
  refine MetFree.of_bodySF hp hisR ?_
  intro p e s m args below meth c s₁ Bd hml0 hP hK
  obtain ⟨rfl, hZ, hh, hO, hE, hC, hD⟩ := hP
  have hnm := (name_of_methodNamed Bd.named Bd.method).1
  have hown : s.vm.findClass y.cls = some m.cls := findClass_of_methodNamed Bd.named
  have X0 : Stand p l e R s m args below meth c s₁ [] 0 0 := Stand.of_body Bd
  have e0 : s₁.heap = h := by rw [← hh, Bd.state]; rfl
  obtain ⟨s₂, o, S, r1, r2, r3⟩ := K p e s s.vm m args below meth c s₁ [] ⟨Bd.exec, hZ, Bd.bytes, hml0, hown, Bd.returns, Bd.notSynchronized, hnm, by show ThS Z s.heap; rw [hh]; exact ThS.start.ext hO.2⟩ X0 e0 (Fr.nil n0) hO
    ⟨by split; rfl; exact ⟨0, (State.WarmedH.refl s).since 0, Nat.zero_le _⟩, hE, by rw [← hh] at hC ⊢; exact CHr.refl hC, hD⟩ hK
  exact ⟨s₂, o, castTop (he m) S, r1, r2, r3⟩
theorem Runs.plain (K : Runs w l Z EL n0 own nm code ml ret R Q D h kc ks pc' ls' st')
    (f : ∀ (p : Program) (e : Env) (m : MethodId) (below : List Frame) (c : Code) (T target : State), p.tables.exec = Jvm.exec → c.code = code → At T m c below → Steps p.tables e below (T.setTop (mkF m pc' ls' st')) target → Steps p.tables e below (T.setTop (mkF m pc ls st)) target) : Runs w l Z EL n0 own nm code ml ret R Q D h kc ks pc ls st := by
  intro p e s vm0 m args below meth c T locs C X eT N O H Kw
  obtain ⟨s₂, o, S, r⟩ := K p e s vm0 m args below meth c T locs C X eT N O H Kw
  exact ⟨s₂, o, f p e m below c T s₂ C.1 C.2.2.1 X.here S, r⟩
/-- a step whose law moves the tables alone -/
theorem Runs.warm (K : Runs w l Z EL n0 own nm code ml ret R Q D h kc ks pc' ls' st')
    (f : ∀ (p : Program) (e : Env) (s : State) (m : MethodId) (args : Array Value) (below : List Frame) (meth : Method) (c : Code) (T : State) (locs : List Loc), Ctx p s m meth c Z own nm code ml ret → Stand p l e R s m args below meth c T locs kc ks → T.heap = h → Old Z n0 h →
      ∃ T', Stand p l e R s m args below meth c T' locs kc ks ∧ T'.heap = h ∧ ∀ target, Steps p.tables e below (T'.setTop (mkF m pc' ls' st')) target → Steps p.tables e below (T.setTop (mkF m pc ls st)) target) : Runs w l Z EL n0 own nm code ml ret R Q D h kc ks pc ls st := by
  intro p e s vm0 m args below meth c T locs C X eT N O H Kw
  obtain ⟨T', X', e', S'⟩ := f p e _ m args below meth c T locs C X eT O
  obtain ⟨s₂, o, S, r⟩ := K p e s vm0 m args below meth c T' locs C X' e' N O H Kw
  exact ⟨s₂, o, S' _ S, r⟩
theorem Runs.old (K : Old Z n0 h → Runs w l Z EL n0 own nm code ml ret R Q D h kc ks pc ls st) : Runs w l Z EL n0 own nm code ml ret R Q D h kc ks pc ls st :=
  fun p e s vm0 m args below meth c T locs C X eT N O H Kw => K O p e s vm0 m args below meth c T locs C X eT N O H Kw
theorem Runs.weak {D1 : List Addr} (hs : ∀ x ∈ D1, x ∈ D) (K : Runs w l Z EL n0 own nm code ml ret R Q D1 h kc ks pc ls st) : Runs w l Z EL n0 own nm code ml ret R Q D h kc ks pc ls st :=
  fun p e s vm0 m args below meth c T locs C X eT N O H Kw => K p e s vm0 m args below meth c T locs C X eT N O ⟨H.1, H.2.1, H.2.2.1, fun x hx => H.2.2.2 x (hs x hx)⟩ Kw
/-- fewer cells, fewer slots made: at most more -/
theorem Runs.mono {kc' ks' : Nat} (h1 : kc ≤ kc') (h2 : ks ≤ ks') (K : Runs w l Z EL n0 own nm code ml ret R Q D h kc' ks' pc ls st) : Runs w l Z EL n0 own nm code ml ret R Q D h kc ks pc ls st :=
  fun p e s vm0 m args below meth c T locs C X eT N O H Kw => K p e s vm0 m args below meth c T locs C (X.mono h1 h2) eT N O H Kw

theorem Runs.iloadN {k : Fin 4} {v : Int32} (hd : Ins code pc (.iload_n k) 1 pc') (hl : ls[k.val]? = some (.val (.int v))) (K : Runs w l Z EL n0 own nm code ml ret R Q D h kc ks pc' ls (.int v :: st)) : Runs w l Z EL n0 own nm code ml ret R Q D h kc ks pc ls st := by
  obtain ⟨hd, rfl⟩ := hd
  exact K.plain fun p e m below c T t hx hb X S => XS.iloadN (g := mkF m pc ls st) X hx rfl (Jvm.hb hb hd) hl S
theorem Runs.iload {k : Nat} {v : Int32} (hd : Ins code pc (.iload k) 2 pc') (hl : ls[k]? = some (.val (.int v))) (K : Runs w l Z EL n0 own nm code ml ret R Q D h kc ks pc' ls (.int v :: st)) : Runs w l Z EL n0 own nm code ml ret R Q D h kc ks pc ls st := by
  obtain ⟨hd, rfl⟩ := hd
  exact K.plain fun p e m below c T t hx hb X S => XS.iload (g := mkF m pc ls st) X hx rfl (Jvm.hb hb hd) hl S
theorem Runs.istoreN {k : Fin 4} {x : Int32} (hd : Ins code pc (.istore_n k) 1 pc') (hl : storeLocals ls k.val (.int x) = some ls') (K : Runs w l Z EL n0 own nm code ml ret R Q D h kc ks pc' ls' rest) : Runs w l Z EL n0 own nm code ml ret R Q D h kc ks pc ls (.int x :: rest) := by
  obtain ⟨hd, rfl⟩ := hd
  exact K.plain fun p e m below c T t hx hb X S => XS.istoreN (g := mkF m pc ls (.int x :: rest)) X hx rfl (Jvm.hb hb hd) rfl hl S
theorem Runs.istore {k : Nat} {x : Int32} (hd : Ins code pc (.istore k) 2 pc') (hl : storeLocals ls k (.int x) = some ls') (K : Runs w l Z EL n0 own nm code ml ret R Q D h kc ks pc' ls' rest) : Runs w l Z EL n0 own nm code ml ret R Q D h kc ks pc ls (.int x :: rest) := by
  obtain ⟨hd, rfl⟩ := hd
  exact K.plain fun p e m below c T t hx hb X S => XS.istore (g := mkF m pc ls (.int x :: rest)) X hx rfl (Jvm.hb hb hd) rfl hl S
theorem Runs.aloadN {k : Fin 4} {v : Value} (hd : Ins code pc (.aload_n k) 1 pc') (hl : ls[k.val]? = some (.val v)) (hv : v.isRef = true) (K : Runs w l Z EL n0 own nm code ml ret R Q D h kc ks pc' ls (v :: st)) : Runs w l Z EL n0 own nm code ml ret R Q D h kc ks pc ls st := by
  obtain ⟨hd, rfl⟩ := hd
  exact K.plain fun p e m below c T t hx hb X S => XS.aloadN (g := mkF m pc ls st) X hx rfl (Jvm.hb hb hd) hl hv S
theorem Runs.aload {k : Nat} {v : Value} (hd : Ins code pc (.aload k) 2 pc') (hl : ls[k]? = some (.val v)) (hv : v.isRef = true) (K : Runs w l Z EL n0 own nm code ml ret R Q D h kc ks pc' ls (v :: st)) : Runs w l Z EL n0 own nm code ml ret R Q D h kc ks pc ls st := by
  obtain ⟨hd, rfl⟩ := hd
  exact K.plain fun p e m below c T t hx hb X S => XS.aload (g := mkF m pc ls st) X hx rfl (Jvm.hb hb hd) hl hv S
theorem Runs.astoreN {k : Fin 4} {x : Value} (hd : Ins code pc (.astore_n k) 1 pc') (hv : x.isRef = true) (hl : storeLocals ls k.val x = some ls') (K : Runs w l Z EL n0 own nm code ml ret R Q D h kc ks pc' ls' rest) : Runs w l Z EL n0 own nm code ml ret R Q D h kc ks pc ls (x :: rest) := by
  obtain ⟨hd, rfl⟩ := hd
  exact K.plain fun p e m below c T t hx hb X S => XS.astoreN (g := mkF m pc ls (x :: rest)) X hx rfl (Jvm.hb hb hd) rfl hv hl S
theorem Runs.astore {k : Nat} {x : Value} (hd : Ins code pc (.astore k) 2 pc') (hv : x.isRef = true) (hl : storeLocals ls k x = some ls') (K : Runs w l Z EL n0 own nm code ml ret R Q D h kc ks pc' ls' rest) : Runs w l Z EL n0 own nm code ml ret R Q D h kc ks pc ls (x :: rest) := by
  obtain ⟨hd, rfl⟩ := hd
  exact K.plain fun p e m below c T t hx hb X S => XS.astore (g := mkF m pc ls (x :: rest)) X hx rfl (Jvm.hb hb hd) rfl hv hl S
theorem Runs.iconst {i : Int} {v : Int32} (hd : Ins code pc (.iconst i) 1 pc') (hz : Int32.ofInt i = v) (K : Runs w l Z EL n0 own nm code ml ret R Q D h kc ks pc' ls (.int v :: st)) : Runs w l Z EL n0 own nm code ml ret R Q D h kc ks pc ls st := by
  obtain ⟨hd, rfl⟩ := hd
  subst hz
  exact K.plain fun p e m below c T t hx hb X S => XS.iconst (g := mkF m pc ls st) X hx rfl (Jvm.hb hb hd) S
theorem Runs.bipush {i : Int} {v : Int32} (hd : Ins code pc (.bipush i) 2 pc') (hz : (Int8.ofInt i).toInt32 = v) (K : Runs w l Z EL n0 own nm code ml ret R Q D h kc ks pc' ls (.int v :: st)) : Runs w l Z EL n0 own nm code ml ret R Q D h kc ks pc ls st := by
  obtain ⟨hd, rfl⟩ := hd
  subst hz
  exact K.plain fun p e m below c T t hx hb X S => XS.bipush (g := mkF m pc ls st) X hx rfl (Jvm.hb hb hd) S
theorem Runs.sipush {i : Int} {v : Int32} (hd : Ins code pc (.sipush i) 3 pc') (hz : (Int16.ofInt i).toInt32 = v) (K : Runs w l Z EL n0 own nm code ml ret R Q D h kc ks pc' ls (.int v :: st)) : Runs w l Z EL n0 own nm code ml ret R Q D h kc ks pc ls st := by
  obtain ⟨hd, rfl⟩ := hd
  subst hz
  exact K.plain fun p e m below c T t hx hb X S => XS.sipush (g := mkF m pc ls st) X hx rfl (Jvm.hb hb hd) S
theorem Runs.aconstNull  (hd : Ins code pc (.aconst_null) 1 pc')  (K : Runs w l Z EL n0 own nm code ml ret R Q D h kc ks pc' ls (.null :: st)) : Runs w l Z EL n0 own nm code ml ret R Q D h kc ks pc ls st := by
  obtain ⟨hd, rfl⟩ := hd
  exact K.plain fun p e m below c T t hx hb X S => XS.aconstNull (g := mkF m pc ls st) X hx rfl (Jvm.hb hb hd) S
theorem Runs.iadd {x y z : Int32} (hd : Ins code pc (.iadd) 1 pc') (hz : x + y = z) (K : Runs w l Z EL n0 own nm code ml ret R Q D h kc ks pc' ls (.int z :: rest)) : Runs w l Z EL n0 own nm code ml ret R Q D h kc ks pc ls (.int y :: .int x :: rest) := by
  obtain ⟨hd, rfl⟩ := hd
  subst hz
  exact K.plain fun p e m below c T t hx hb X S => XS.iadd (g := mkF m pc ls (.int y :: .int x :: rest)) X hx rfl (Jvm.hb hb hd) rfl S
theorem Runs.isub {x y z : Int32} (hd : Ins code pc (.isub) 1 pc') (hz : x - y = z) (K : Runs w l Z EL n0 own nm code ml ret R Q D h kc ks pc' ls (.int z :: rest)) : Runs w l Z EL n0 own nm code ml ret R Q D h kc ks pc ls (.int y :: .int x :: rest) := by
  obtain ⟨hd, rfl⟩ := hd
  subst hz
  exact K.plain fun p e m below c T t hx hb X S => XS.isub (g := mkF m pc ls (.int y :: .int x :: rest)) X hx rfl (Jvm.hb hb hd) rfl S
theorem Runs.iand {x y z : Int32} (hd : Ins code pc (.iand) 1 pc') (hz : x &&& y = z) (K : Runs w l Z EL n0 own nm code ml ret R Q D h kc ks pc' ls (.int z :: rest)) : Runs w l Z EL n0 own nm code ml ret R Q D h kc ks pc ls (.int y :: .int x :: rest) := by
  obtain ⟨hd, rfl⟩ := hd
  subst hz
  exact K.plain fun p e m below c T t hx hb X S => XS.iand (g := mkF m pc ls (.int y :: .int x :: rest)) X hx rfl (Jvm.hb hb hd) rfl S
theorem Runs.ior {x y z : Int32} (hd : Ins code pc (.ior) 1 pc') (hz : x ||| y = z) (K : Runs w l Z EL n0 own nm code ml ret R Q D h kc ks pc' ls (.int z :: rest)) : Runs w l Z EL n0 own nm code ml ret R Q D h kc ks pc ls (.int y :: .int x :: rest) := by
  obtain ⟨hd, rfl⟩ := hd
  subst hz
  exact K.plain fun p e m below c T t hx hb X S => XT.ior (g := mkF m pc ls (.int y :: .int x :: rest)) X hx rfl (Jvm.hb hb hd) rfl S
theorem Runs.ishl {x y z : Int32} (hd : Ins code pc (.ishl) 1 pc') (hz : x <<< (y &&& 31) = z) (K : Runs w l Z EL n0 own nm code ml ret R Q D h kc ks pc' ls (.int z :: rest)) : Runs w l Z EL n0 own nm code ml ret R Q D h kc ks pc ls (.int y :: .int x :: rest) := by
  obtain ⟨hd, rfl⟩ := hd
  subst hz
  exact K.plain fun p e m below c T t hx hb X S => XT.ishl (g := mkF m pc ls (.int y :: .int x :: rest)) X hx rfl (Jvm.hb hb hd) rfl S
theorem Runs.ishr {x y z : Int32} (hd : Ins code pc (.ishr) 1 pc') (hz : x >>> (y &&& 31) = z) (K : Runs w l Z EL n0 own nm code ml ret R Q D h kc ks pc' ls (.int z :: rest)) : Runs w l Z EL n0 own nm code ml ret R Q D h kc ks pc ls (.int y :: .int x :: rest) := by
  obtain ⟨hd, rfl⟩ := hd
  subst hz
  exact K.plain fun p e m below c T t hx hb X S => XT.ishr (g := mkF m pc ls (.int y :: .int x :: rest)) X hx rfl (Jvm.hb hb hd) rfl S
theorem Runs.iushr {x y z : Int32} (hd : Ins code pc (.iushr) 1 pc') (hz : XT.ushr x y = z) (K : Runs w l Z EL n0 own nm code ml ret R Q D h kc ks pc' ls (.int z :: rest)) : Runs w l Z EL n0 own nm code ml ret R Q D h kc ks pc ls (.int y :: .int x :: rest) := by
  obtain ⟨hd, rfl⟩ := hd
  subst hz
  exact K.plain fun p e m below c T t hx hb X S => XT.iushr (g := mkF m pc ls (.int y :: .int x :: rest)) X hx rfl (Jvm.hb hb hd) rfl S
theorem Runs.irem {x y z : Int32} (hd : Ins code pc (.irem) 1 pc') (hy : y ≠ 0) (hz : x % y = z) (K : Runs w l Z EL n0 own nm code ml ret R Q D h kc ks pc' ls (.int z :: rest)) : Runs w l Z EL n0 own nm code ml ret R Q D h kc ks pc ls (.int y :: .int x :: rest) := by
  obtain ⟨hd, rfl⟩ := hd
  subst hz
  exact K.plain fun p e m below c T t hx hb X S => XS.irem (g := mkF m pc ls (.int y :: .int x :: rest)) X hx rfl (Jvm.hb hb hd) rfl hy (by rw [show x - x / y * y = x % y from irem_eq_mod x y]; exact S)
theorem Runs.i2b {x : Int32} {z : Int32} (hd : Ins code pc (.i2b) 1 pc') (hz : x.toInt8.toInt32 = z) (K : Runs w l Z EL n0 own nm code ml ret R Q D h kc ks pc' ls (.int z :: rest)) : Runs w l Z EL n0 own nm code ml ret R Q D h kc ks pc ls (.int x :: rest) := by
  obtain ⟨hd, rfl⟩ := hd
  subst hz
  exact K.plain fun p e m below c T t hx hb X S => XT.i2b (g := mkF m pc ls (.int x :: rest)) X hx rfl (Jvm.hb hb hd) rfl S
theorem Runs.i2c {x : Int32} {z : Int32} (hd : Ins code pc (.i2c) 1 pc') (hz : x.toUInt32.toUInt16.toUInt32.toInt32 = z) (K : Runs w l Z EL n0 own nm code ml ret R Q D h kc ks pc' ls (.int z :: rest)) : Runs w l Z EL n0 own nm code ml ret R Q D h kc ks pc ls (.int x :: rest) := by
  obtain ⟨hd, rfl⟩ := hd
  subst hz
  exact K.plain fun p e m below c T t hx hb X S => XT.i2c (g := mkF m pc ls (.int x :: rest)) X hx rfl (Jvm.hb hb hd) rfl S
theorem Runs.iinc {k : Nat} {cst : Int} {x z : Int32} (hd : Ins code pc (.iinc k cst) 3 pc') (hl : ls[k]? = some (.val (.int x))) (hz : x + Int32.ofInt cst = z) (hl' : storeLocals ls k (.int z) = some ls') (K : Runs w l Z EL n0 own nm code ml ret R Q D h kc ks pc' ls' st) : Runs w l Z EL n0 own nm code ml ret R Q D h kc ks pc ls st := by
  obtain ⟨hd, rfl⟩ := hd
  subst hz
  exact K.plain fun p e m below c T t hx hb X S => XS.iinc (g := mkF m pc ls st) X hx rfl (Jvm.hb hb hd) hl hl' S
theorem Runs.dup {x : Value} (hd : Ins code pc (.dup) 1 pc') (hc : x.category = 1) (K : Runs w l Z EL n0 own nm code ml ret R Q D h kc ks pc' ls (x :: x :: rest)) : Runs w l Z EL n0 own nm code ml ret R Q D h kc ks pc ls (x :: rest) := by
  obtain ⟨hd, rfl⟩ := hd
  exact K.plain fun p e m below c T t hx hb X S => XS.dup (g := mkF m pc ls (x :: rest)) X hx rfl (Jvm.hb hb hd) rfl hc S
theorem Runs.pop {x : Value} (hd : Ins code pc (.pop) 1 pc') (hc : x.category = 1) (K : Runs w l Z EL n0 own nm code ml ret R Q D h kc ks pc' ls rest) : Runs w l Z EL n0 own nm code ml ret R Q D h kc ks pc ls (x :: rest) := by
  obtain ⟨hd, rfl⟩ := hd
  exact K.plain fun p e m below c T t hx hb X S => XT.pop (g := mkF m pc ls (x :: rest)) X hx rfl (Jvm.hb hb hd) rfl hc S
theorem Runs.dupX1 {x y : Value} (hd : Ins code pc (.dup_x1) 1 pc') (hc : x.category = 1) (hc' : y.category = 1) (K : Runs w l Z EL n0 own nm code ml ret R Q D h kc ks pc' ls (x :: y :: x :: rest)) : Runs w l Z EL n0 own nm code ml ret R Q D h kc ks pc ls (x :: y :: rest) := by
  obtain ⟨hd, rfl⟩ := hd
  exact K.plain fun p e m below c T t hx hb X S => XT.dupX1 (g := mkF m pc ls (x :: y :: rest)) X hx rfl (Jvm.hb hb hd) rfl hc hc' S
theorem Runs.goto  {o : Int} {t nx : Nat} (hd : Ins code pc (.goto o) 3 nx) (hj : Jmp pc o t)  (K : Runs w l Z EL n0 own nm code ml ret R Q D h kc ks t ls st) : Runs w l Z EL n0 own nm code ml ret R Q D h kc ks pc ls st :=
  K.plain fun p e m below c T tg hx hb X S => XS.goto (g := mkF m pc ls st) X hx rfl (pc0 := pc) rfl (Jvm.hb hb hd.1) hj.1 hj.2 S
theorem Runs.ifY {cd : ClassFile.Cond} {x : Int32} {o : Int} {t nx : Nat} (hd : Ins code pc (.ifCond cd o) 3 nx) (hj : Jmp pc o t) (hc : if_icmp.holds cd x 0 = true) (K : Runs w l Z EL n0 own nm code ml ret R Q D h kc ks t ls rest) : Runs w l Z EL n0 own nm code ml ret R Q D h kc ks pc ls (.int x :: rest) :=
  K.plain fun p e m below c T tg hx hb X S => XS.ifYes (g := mkF m pc ls (.int x :: rest)) X hx rfl (pc0 := pc) rfl (Jvm.hb hb hd.1) rfl ((if0 cd x).trans hc) hj.1 hj.2 S
theorem Runs.icY {cd : ClassFile.Cond} {x y : Int32} {o : Int} {t nx : Nat} (hd : Ins code pc (.if_icmp cd o) 3 nx) (hj : Jmp pc o t) (hc : if_icmp.holds cd x y = true) (K : Runs w l Z EL n0 own nm code ml ret R Q D h kc ks t ls rest) : Runs w l Z EL n0 own nm code ml ret R Q D h kc ks pc ls (.int y :: .int x :: rest) :=
  K.plain fun p e m below c T tg hx hb X S => XS.icmpYes (g := mkF m pc ls (.int y :: .int x :: rest)) X hx rfl (pc0 := pc) rfl (Jvm.hb hb hd.1) rfl hc hj.1 hj.2 S
theorem Runs.nnullY {b : Addr} {o : Int} {t nx : Nat} (hd : Ins code pc (.ifnonnull o) 3 nx) (hj : Jmp pc o t)  (K : Runs w l Z EL n0 own nm code ml ret R Q D h kc ks t ls rest) : Runs w l Z EL n0 own nm code ml ret R Q D h kc ks pc ls (.ref b :: rest) :=
  K.plain fun p e m below c T tg hx hb X S => XT.ifnonnullYes (g := mkF m pc ls (.ref b :: rest)) X hx rfl (pc0 := pc) rfl (Jvm.hb hb hd.1) rfl hj.1 hj.2 S
theorem Runs.acY {cd : ClassFile.ACond} {x y : Value} {o : Int} {t nx : Nat} (hd : Ins code pc (.if_acmp cd o) 3 nx) (hj : Jmp pc o t) (hx' : x.isRef = true) (hy' : y.isRef = true) (hc : XT.acmp cd x y = true) (K : Runs w l Z EL n0 own nm code ml ret R Q D h kc ks t ls rest) : Runs w l Z EL n0 own nm code ml ret R Q D h kc ks pc ls (y :: x :: rest) :=
  K.plain fun p e m below c T tg hx hb X S => XT.acmpYes (g := mkF m pc ls (y :: x :: rest)) X hx rfl (pc0 := pc) rfl (Jvm.hb hb hd.1) rfl hx' hy' hc hj.1 hj.2 S
theorem Runs.ifN {cd : ClassFile.Cond} {o : Int} {x : Int32} (hd : Ins code pc (.ifCond cd o) 3 pc') (hc : if_icmp.holds cd x 0 = false) (K : Runs w l Z EL n0 own nm code ml ret R Q D h kc ks pc' ls rest) : Runs w l Z EL n0 own nm code ml ret R Q D h kc ks pc ls (.int x :: rest) := by
  obtain ⟨hd, rfl⟩ := hd
  exact K.plain fun p e m below c T t hx hb X S => XS.ifNo (g := mkF m pc ls (.int x :: rest)) X hx rfl (Jvm.hb hb hd) rfl ((if0 cd x).trans hc) S
theorem Runs.icN {cd : ClassFile.Cond} {o : Int} {x y : Int32} (hd : Ins code pc (.if_icmp cd o) 3 pc') (hc : if_icmp.holds cd x y = false) (K : Runs w l Z EL n0 own nm code ml ret R Q D h kc ks pc' ls rest) : Runs w l Z EL n0 own nm code ml ret R Q D h kc ks pc ls (.int y :: .int x :: rest) := by
  obtain ⟨hd, rfl⟩ := hd
  exact K.plain fun p e m below c T t hx hb X S => XS.icmpNo (g := mkF m pc ls (.int y :: .int x :: rest)) X hx rfl (Jvm.hb hb hd) rfl hc S
theorem Runs.nullN {o : Int} {b : Addr} (hd : Ins code pc (.ifnull o) 3 pc')  (K : Runs w l Z EL n0 own nm code ml ret R Q D h kc ks pc' ls rest) : Runs w l Z EL n0 own nm code ml ret R Q D h kc ks pc ls (.ref b :: rest) := by
  obtain ⟨hd, rfl⟩ := hd
  exact K.plain fun p e m below c T t hx hb X S => XS.ifnullNo (g := mkF m pc ls (.ref b :: rest)) X hx rfl (Jvm.hb hb hd) rfl S
theorem Runs.acN {cd : ClassFile.ACond} {o : Int} {x y : Value} (hd : Ins code pc (.if_acmp cd o) 3 pc') (hx' : x.isRef = true) (hy' : y.isRef = true) (hc : XT.acmp cd x y = false) (K : Runs w l Z EL n0 own nm code ml ret R Q D h kc ks pc' ls rest) : Runs w l Z EL n0 own nm code ml ret R Q D h kc ks pc ls (y :: x :: rest) := by
  obtain ⟨hd, rfl⟩ := hd
  exact K.plain fun p e m below c T t hx hb X S => XT.acmpNo (g := mkF m pc ls (y :: x :: rest)) X hx rfl (Jvm.hb hb hd) rfl hx' hy' hc S

/-! the returns -/
theorem Runs.leave {v : Option Value} (hv : ret = none → v = none)
    (f : ∀ (p : Program) (e : Env) (s : State) (m : MethodId) (args : Array Value) (below : List Frame) (meth : Method) (c : Code) (T : State) (locs : List Loc), Ctx p s m meth c Z own nm code ml ret → Stand p l e R s m args below meth c T locs kc ks → ∀ fs : List Frame,
      (∀ (f : JFrame) (acts : List Action), f.method = m → f.locked = none → f.entered = [] → (doReturn e (T.setTop f) acts v).1 = T.setFrames fs) → Steps p.tables e below (T.setTop (mkF m pc ls st)) (T.setFrames fs))
    (hc : kc ≤ R.cells) (hk : ks ≤ R.slots) (hQ : Q v h D) : Runs w l Z EL n0 own nm code ml ret R Q D h kc ks pc ls st := by
  intro p e s vm0 m args below meth c T locs C X eT N O H Kw
  have hlk : meth.locks = false := C.2.2.2.2.2.2.1
  have hr : meth.sig.returnType = ret := C.2.2.2.2.2.1
  obtain ⟨H1, ⟨a0, H2⟩, H3, H4⟩ := H
  have A := CHv.at X C.2.1 H2 H3.1
  have hs : ∀ x ∈ D, x < h.size ∧ Safe Z EL T.vm h x := fun x hx => ⟨(H4 x hx).1, A.safe (H4 x hx).1 (H4 x hx).2⟩
  have A' := H3.trans A
  subst eT
  by_cases w0 : w = 0
  · have e1 : vm0 = s.vm := by rw [if_pos w0] at H1; exact H1
    subst e1
    obtain ⟨fs, h1, h2, h3, h4, h5⟩ := X.leave (v := v) (fun q => hv (hr ▸ q)) hlk
    exact ⟨_, _, f p e _ m args below meth c T locs C X fs h1, h2, h3, v, locs, D, rfl, hQ, O, N, ⟨A', hs⟩, by unfold En; rw [if_pos w0]; exact ⟨⟨v, rfl⟩, h4, h5.mono hc hk⟩⟩
  · rw [if_neg w0] at H1
    obtain ⟨k0, hS, hk0⟩ := H1
    obtain ⟨fs, h1, h2, h3, ⟨g1, g2, g3, g4⟩⟩ := X.leaveW hS hk0 (v := v) (fun q => hv (hr ▸ q)) hlk
    exact ⟨_, _, f p e _ m args below meth c T locs C X fs h1, h2, h3, v, locs, D, rfl, hQ, O, N, ⟨A', hs⟩, by unfold En; rw [if_neg w0]; exact ⟨g1, g2, g3, g4.mono hc hk⟩⟩
theorem Runs.retV {nx : Nat} (hd : Ins code pc .return_ 1 nx) (hr : ret = none) (hc : kc ≤ R.cells) (hk : ks ≤ R.slots) (hQ : Q none h D) : Runs w l Z EL n0 own nm code ml ret R Q D h kc ks pc ls [] :=
  Runs.leave (v := none) (fun _ => rfl) (fun p e s m args below meth c T locs C X fs hl => X.returnOut C.1 (C.2.2.2.2.2.1.trans hr) (Jvm.hb C.2.2.1 hd.1) hl) hc hk hQ
theorem Runs.retI {nx : Nat} {t : FieldType} {x z : Int32} (hd : Ins code pc .ireturn 1 nx) (hr : ret = some t) (ht : t = .int ∨ t = .boolean ∨ t = .byte ∨ t = .char ∨ t = .short) (hn : narrow t (.int x) = .int z) (hc : kc ≤ R.cells) (hk : ks ≤ R.slots) (hQ : Q (some (.int z)) h D) : Runs w l Z EL n0 own nm code ml ret R Q D h kc ks pc ls [.int x] :=
  Runs.leave (v := some (.int z)) (fun q => by rw [hr] at q; cases q) (fun p e s m args below meth c T locs C X fs hl => by
    have hm' : T.vm.method? m = some meth := X.method'
    have hx := C.1
    have hd' := Jvm.hb C.2.2.1 hd.1
    have hret : meth.sig.returnType = some t := C.2.2.2.2.2.1.trans hr
    show Steps p.tables e below (T.setTop { method := m, pc := pc, locals := ls, stack := [_], locked := none }) _
    rcases ht with rfl | rfl | rfl | rfl | rfl
    all_goals
      jvm_step X.here [X.here.top, hx, hd', hm', hret, hn]
      first | (intro acts; rw [hl _ acts rfl rfl rfl]) | rw [hl _ _ rfl rfl rfl]
      exact Steps.refl _) hc hk hQ
theorem Runs.retA {nx : Nat} {t : FieldType} {x : Value} (hd : Ins code pc .areturn 1 nx) (hr : ret = some t) (ht : t.isReference = true) (hx : x.isRef = true) (hc : kc ≤ R.cells) (hk : ks ≤ R.slots) (hQ : Q (some x) h D) : Runs w l Z EL n0 own nm code ml ret R Q D h kc ks pc ls [x] :=
  Runs.leave (v := some x) (fun q => by rw [hr] at q; cases q) (fun p e s m args below meth c T locs C X fs hl =>
    RoadKit.retOut X C.1 (C.2.2.2.2.2.1.trans hr) (by cases x <;> first | rfl | (simp [Value.isRef] at hx; done) | (cases t <;> first | rfl | (simp [FieldType.isReference] at ht; done))) (Or.inr (Or.inr (Or.inr (Or.inr ⟨rfl, ht, hx⟩)))) (Jvm.hb C.2.2.1 hd.1) hl) hc hk hQ
theorem Runs.getS {R0 O n d : String} {index : Nat} {v : Value} (hd : Ins code pc (.getstatic index) 3 pc') (wl : (Cond.fieldLink own index R0 n d).before a0 Z = true) (via : Via Z R0 O n d) (F : Sta Z Z.heap O n d v) (K : Runs w l Z EL n0 own nm code ml ret R Q D h kc ks pc' ls (v :: st)) : Runs w l Z EL n0 own nm code ml ret R Q D h kc ks pc ls st := by
  obtain ⟨hd, rfl⟩ := hd
  exact K.warm fun p e s m args below meth c T locs C X eT O => RoadKit.getS (host := "") X C.1 C.2.1 C.2.2.2.2.1 wl via eT (F.ext O.2) (g := mkF m pc ls st) rfl (Jvm.hb C.2.2.1 hd)
theorem Runs.getSN {R0 O n d host : String} {index : Nat} {v : Value} (hd : Ins code pc (.getstatic index) 3 pc') (wl : (Cond.fieldLinkNest own index R0 n d host).before a0 Z = true) (via : Via Z R0 O n d) (F : Sta Z Z.heap O n d v) (K : Runs w l Z EL n0 own nm code ml ret R Q D h kc ks pc' ls (v :: st)) : Runs w l Z EL n0 own nm code ml ret R Q D h kc ks pc ls st := by
  obtain ⟨hd, rfl⟩ := hd
  exact K.warm fun p e s m args below meth c T locs C X eT O => RoadKit.getS2 (host := host) X C.1 C.2.1 C.2.2.2.2.1 (Or.inr wl) via eT (F.ext O.2) (g := mkF m pc ls st) rfl (Jvm.hb C.2.2.1 hd)
theorem Runs.getF {R0 O n d host : String} {index : Nat} {a : Addr} {v : Value} (hd : Ins code pc (.getfield index) 3 pc') (wl : (Cond.fieldLink own index R0 n d).before a0 Z = true ∨ (Cond.fieldLinkNest own index R0 n d host).before a0 Z = true) (via : Via Z R0 O n d) (F : Fld Z h a O n d v) (K : Runs w l Z EL n0 own nm code ml ret R Q D h kc ks pc' ls (v :: rest)) : Runs w l Z EL n0 own nm code ml ret R Q D h kc ks pc ls (.ref a :: rest) := by
  obtain ⟨hd, rfl⟩ := hd
  exact K.warm fun p e s m args below meth c T locs C X eT O => RoadKit.getF X C.1 C.2.1 C.2.2.2.2.1 wl via eT F (g := mkF m pc ls (.ref a :: rest)) rfl rfl (Jvm.hb C.2.2.1 hd)
theorem Runs.ldcI {index : Nat} {v : Int32} (hd : Ins code pc (.ldc index) 2 pc') (wl : (Cond.constant own index v).before a0 Z = true) (K : Runs w l Z EL n0 own nm code ml ret R Q D h kc ks pc' ls (.int v :: st)) : Runs w l Z EL n0 own nm code ml ret R Q D h kc ks pc ls st := by
  obtain ⟨hd, rfl⟩ := hd
  exact K.warm fun p e s m args below meth c T locs C X eT O => ⟨T, X, eT, fun t S => X.ldcI C.1 C.2.2.2.2.1 (mv C.2.1 wl) (g := mkF m pc ls st) rfl (Jvm.hb C.2.2.1 hd) S⟩
end W


/-! objects, arrays -/
abbrev FV := String × String × String × Value
def FV.key (f : FV) : String × String × String := (f.1, f.2.1, f.2.2.1)
/-- the object at a is exactly a C; its fields fs hold what they say -/
def Obj (Z : State) (h : Heap) (a : Addr) (C : String) (fs : List FV) : Prop := Exa Z h a C ∧ ∀ f ∈ fs, Fld Z h a f.1 f.2.1 f.2.2.1 f.2.2.2
/-- the fields of a C, at their first values -/
def LayD (Z : State) (a0 : Array Value) (C : String) (dl : List FV) : Prop := (∀ f ∈ dl, Laid Z a0 C f.1 f.2.1 f.2.2.1 ∧ ∃ t, parseFieldDescriptor f.2.2.1 = some t ∧ defaultValue t = f.2.2.2) ∧ (dl.map fun f => f.2.1).Nodup
section H
variable {Z : State} {h h' : Heap} {a b : Addr} {C : String} {fs dl : List FV} {ws : List Addr} {a0 : Array Value}
theorem Obj.fld {i : Nat} {o n d : String} {v : Value} (O : Obj Z h a C fs) (hi : fs[i]? = some (o, n, d, v)) : Fld Z h a o n d v := O.2 (o, n, d, v) (List.mem_of_getElem? hi)
theorem Obj.keep (O : Obj Z h a C fs) (K : Keep h h' ws) (q : a ∉ ws) : Obj Z h' a C fs := ⟨O.1.keep K, fun f hf => (O.2 f hf).keep K q⟩
theorem Obj.ext (O : Obj Z h a C fs) (E : Ext h h') : Obj Z h' a C fs := ⟨O.1.ext E, fun f hf => (O.2 f hf).ext E⟩
theorem Obj.lt (O : Obj Z h a C fs) : a < h.size := O.1.lt
theorem Obj.sub {gs : List FV} (O : Obj Z h a C fs) (q : ∀ f ∈ gs, f ∈ fs) : Obj Z h a C gs := ⟨O.1, fun f hf => O.2 f (q f hf)⟩
theorem keepE (E : Ext h h') : Keep h h' ws := (Keep.refl h ws).ext E
theorem Keep.sub {ws' : List Addr} (K : Keep h h' ws) (q : ∀ x ∈ ws, x ∈ ws') : Keep h h' ws' := ⟨K.1, fun x c e r => K.2.1 x c e fun z => r (q x z), K.2.2⟩
theorem nodup_key : ∀ {dl : List FV} {i j : Nat} {f g : FV}, (dl.map fun f => f.2.1).Nodup → dl[i]? = some f → dl[j]? = some g → i ≠ j → f.2.1 ≠ g.2.1 := by
  intro dl i j f g hn hi hj hij he
  obtain ⟨h1, e1⟩ := List.getElem?_eq_some_iff.mp hi
  obtain ⟨h2, e2⟩ := List.getElem?_eq_some_iff.mp hj
  have hp := List.pairwise_iff_getElem.mp hn
  rcases Nat.lt_or_gt_of_ne hij with q | q
  · exact hp i j (by simpa using h1) (by simpa using h2) q (by simp only [List.getElem_map, e1, e2]; exact he)
  · exact hp j i (by simpa using h2) (by simpa using h1) q (by simp only [List.getElem_map, e1, e2]; exact he.symm)
theorem Obj.put {i : Nat} {o n d : String} {old v : Value} (O : Obj Z h a C fs) (hi : fs[i]? = some (o, n, d, old)) (L : LayD Z a0 C dl) (hk : fs.map FV.key = dl.map FV.key) (W : Wr h h' a (RoadKit.slotOf Z o n d) v) : Obj Z h' a C (fs.set i (o, n, d, v)) := by
  refine ⟨O.1.wr W, fun f hf => ?_⟩
  obtain ⟨j, hj⟩ := List.mem_iff_getElem?.mp hf
  by_cases e : i = j
  · subst e
    rw [List.getElem?_set_self (by exact (List.getElem?_eq_some_iff.mp hi).1)] at hj
    cases hj
    exact (O.fld hi).same W
  · rw [List.getElem?_set_ne e] at hj
    obtain ⟨o', n', d', v'⟩ := f
    have F := O.fld hj
    have key : ∀ {k : Nat} {g : FV}, fs[k]? = some g → ∃ g' : FV, dl[k]? = some g' ∧ g'.key = g.key := fun {k g} q => by
      have q' : (fs.map FV.key)[k]? = some g.key := by simp [q]
      rw [hk, List.getElem?_map] at q'
      cases hd : dl[k]? with
      | none => simp [hd] at q'
      | some g' => exact ⟨g', rfl, by simpa [hd] using q'⟩
    obtain ⟨f1, q1, k1⟩ := key hi
    obtain ⟨f2, q2, k2⟩ := key hj
    have hne := nodup_key L.2 q1 q2 e
    obtain ⟨L1, t1, p1, -⟩ := L.1 f1 (List.mem_of_getElem? q1)
    obtain ⟨L2, t2, p2, -⟩ := L.1 f2 (List.mem_of_getElem? q2)
    simp only [FV.key, Prod.mk.injEq] at k1 k2
    obtain ⟨a1, b1, c1⟩ := k1
    obtain ⟨a2, b2, c2⟩ := k2
    rw [a1, b1, c1] at L1; rw [a2, b2, c2] at L2; rw [c1] at p1; rw [c2] at p2
    exact F.other W (Or.inr (slot_ne L2 L1 (by rw [← b1, ← b2]; exact fun z => hne z.symm) p2 p1))
end H
section W2
variable {w : Nat} {l : Launch} {Z : State} {EL : List (String × Nat)} {n0 : Nat} {own nm : String} {code : ByteArray} {ml : Nat} {ret : Option FieldType} {R : Room} {Q : Option Value → Heap → List Addr → Prop} {D : List Addr} {h h' : Heap} {kc ks pc pc' : Nat} {ls ls' : Array Slot} {st st' rest : List Value} {a0 : Array Value} {s : State} {vm0 : Vm}
theorem Hid.keep {ws : List Addr} (H : Hid w Z EL D s vm0 h) (K : Keep h h' ws) (q : ∀ x ∈ ws, Safe Z EL vm0 h x) : Hid w Z EL D s vm0 h' := by
  obtain ⟨H1, H2, H3, H4⟩ := H
  refine ⟨?_, H2, H3.trans (CHr.keep K q H3.1), fun x hx => ⟨Nat.lt_of_lt_of_le (H4 x hx).1 K.1, (H4 x hx).2.keep K q H3.1⟩⟩
  split
  · rename_i e; rw [if_pos e] at H1; exact H1
  · rename_i e; rw [if_neg e] at H1; obtain ⟨k0, g1, g2⟩ := H1; exact ⟨k0, g1, Nat.le_trans g2 K.1⟩
theorem Hid.more {b : Addr} (H : Hid w Z EL D s vm0 h) (E : Ext h h') (hb : h.size ≤ b) (hb' : b < h'.size) : Hid w Z EL (b :: D) s vm0 h' := by
  have H' := H.keep (keepE (ws := []) E) (fun x q => nomatch q)
  refine ⟨H'.1, H'.2.1, H'.2.2.1, fun x hx => ?_⟩
  rcases List.mem_cons.mp hx with rfl | hx
  · exact ⟨hb', (Safe.new hb).ext E H.2.2.1.1⟩
  · exact H'.2.2.2 x hx
/-- a step that writes one old place, or none -/
theorem Runs.write {ws : List Addr} {P : Heap → Prop} (hg : ∀ x ∈ ws, n0 ≤ x) (hs : ∀ vm0 : Vm, Z.vm.Alike vm0 → (∀ x ∈ D, Safe Z EL vm0 h x) → ∀ x ∈ ws, Safe Z EL vm0 h x)
    (K : ∀ h', Keep h h' ws → P h' → Runs w l Z EL n0 own nm code ml ret R Q D h' kc ks pc' ls' st')
    (f : ∀ (p : Program) (e : Env) (s : State) (m : MethodId) (args : Array Value) (below : List Frame) (meth : Method) (c : Code) (T : State) (locs : List Loc), Ctx p s m meth c Z own nm code ml ret → Stand p l e R s m args below meth c T locs kc ks → T.heap = h → Old Z n0 h → Fr n0 locs →
      ∃ T' locs', Stand p l e R s m args below meth c T' locs' kc ks ∧ Fr n0 locs' ∧ Keep h T'.heap ws ∧ P T'.heap ∧ ∀ target, Steps p.tables e below (T'.setTop (mkF m pc' ls' st')) target → Steps p.tables e below (T.setTop (mkF m pc ls st)) target) : Runs w l Z EL n0 own nm code ml ret R Q D h kc ks pc ls st := by
  intro p e s vm0 m args below meth c T locs C X eT N O H Kw
  obtain ⟨T', locs', X', N', K', P', S'⟩ := f p e _ m args below meth c T locs C X eT O N
  obtain ⟨s₂, o, S, r⟩ := K _ K' P' p e s vm0 m args below meth c T' locs' C X' rfl N' (O.keep K' hg) (H.keep K' (hs vm0 C.2.1.alike (fun x hx => (H.2.2.2 x hx).2))) Kw
  exact ⟨s₂, o, S' _ S, r⟩
theorem safeC {a : Addr} {C : String} (E : Exa Z h a C) (hs : a ∈ D ∨ (C ≠ "java/lang/String" ∧ C ≠ "[B")) : ∀ vm0 : Vm, Z.vm.Alike vm0 → (∀ x ∈ D, Safe Z EL vm0 h x) → ∀ x ∈ [a], Safe Z EL vm0 h x := fun vm0 hal hD x hx => by
  cases List.mem_singleton.mp hx
  rcases hs with hs | hs
  · exact hD _ hs
  · exact Safe.exa hal E hs.1 hs.2
theorem safeA {a : Addr} {k : ClassId} {ty : FieldType} {z : Int32} {vs : List Value} {d : Value} (A : Arv Z h a k ty z vs d) (hs : a ∈ D ∨ ty ≠ .byte) : ∀ vm0 : Vm, Z.vm.Alike vm0 → (∀ x ∈ D, Safe Z EL vm0 h x) → ∀ x ∈ [a], Safe Z EL vm0 h x := fun vm0 hal hD x hx => by
  cases List.mem_singleton.mp hx
  rcases hs with hs | hs
  · exact hD _ hs
  · exact Safe.arv hal A hs
theorem one_ge {a : Addr} (hg : n0 ≤ a) : ∀ x ∈ [a], n0 ≤ x := fun x hx => by cases List.mem_singleton.mp hx; exact hg
theorem Runs.putF {R0 O n d host C : String} {index kk i : Nat} {ty : FieldType} {a : Addr} {v old : Value} {fs dl : List FV} (hd : Ins code pc (.putfield index) 3 pc') (wl : (Cond.fieldLink own index R0 n d).before a0 Z = true ∨ (Cond.fieldLinkNest own index R0 n d host).before a0 Z = true) (via : Via Z R0 O n d)
    (B : Obj Z h a C fs) (hi : fs[i]? = some (O, n, d, old)) (LD : LayD Z a0 C dl) (hk : fs.map FV.key = dl.map FV.key) (L : (Cond.lays C O n d).before a0 Z = true ∨ ((Cond.laysFinal C O n d).before a0 Z = true ∧ own = O ∧ nm = "<init>")) (wi : (Cond.instantiable C kk).before a0 Z = true)
    (hty : parseFieldDescriptor d = some ty) (hn : narrow ty v = v) (hf : fits ty v = true) (hg : n0 ≤ a) (hs : a ∈ D ∨ (C ≠ "java/lang/String" ∧ C ≠ "[B"))
    (K : ∀ h', Keep h h' [a] → Obj Z h' a C (fs.set i (O, n, d, v)) → Runs w l Z EL n0 own nm code ml ret R Q D h' kc ks pc' ls rest) : Runs w l Z EL n0 own nm code ml ret R Q D h kc ks pc ls (v :: .ref a :: rest) := by
  obtain ⟨hd, rfl⟩ := hd
  refine Runs.write (P := fun h' => Obj Z h' a C (fs.set i (O, n, d, v))) (one_ge hg) (safeC B.1 hs) K fun p e s m args below meth c T locs Cx X eT Ol N => ?_
  obtain ⟨T', h1, X', e1, W1, S1⟩ := RoadKit.putF X Cx.1 Cx.2.1 Cx.2.2.2.2.1 wl via eT (B.fld hi) B.1 (L.imp id fun q => ⟨q.1, q.2.1, Cx.2.2.2.2.2.2.2.1.trans q.2.2⟩) wi hty hn hf (g := mkF m pc ls (v :: .ref a :: rest)) rfl rfl (Jvm.hb Cx.2.2.1 hd)
  subst e1
  exact ⟨T', _, X', Fr.snoc X' N hg, Keep.of_wr W1, B.put hi LD hk W1, S1⟩
theorem Runs.newO {C : String} {index n : Nat} {dl : List FV} (hd : Ins code pc (.new index) 3 pc') (w1 : (Cond.classLink own index C).before a0 Z = true) (w2 : (Cond.instantiable C n).before a0 Z = true) (w3 : (Cond.initialized C).before a0 Z = true) (LD : LayD Z a0 C dl) (hc : kc + 1 ≤ R.cells) (hl : ks + n ≤ R.slots)
    (K : ∀ h' b, h.size ≤ b → n0 ≤ b → Keep h h' [] → Obj Z h' b C dl → Unt h' b → Runs w l Z EL n0 own nm code ml ret R Q (b :: D) h' (kc + 1) (ks + n) pc' ls (.ref b :: st)) : Runs w l Z EL n0 own nm code ml ret R Q D h kc ks pc ls st := by
  obtain ⟨hd, rfl⟩ := hd
  intro p e s vm0 m args below meth c T locs C' X eT N O H Kw
  obtain ⟨T', h1, X', e1, E1, A1, D1, U1, S1⟩ := RoadKit.newO X C'.1 C'.2.1 C'.2.2.2.2.1 w1 w2 w3 eT (g := mkF m pc ls st) rfl (Jvm.hb C'.2.2.1 hd) hc hl
  subst e1
  have hO : n0 ≤ h.size := by rw [← O.1]; exact O.2.1
  obtain ⟨s₂, o, S, r⟩ := K _ h.size (Nat.le_refl _) hO (keepE E1) ⟨A1, fun f hf => by obtain ⟨L1, t, p1, d1⟩ := LD.1 f hf; rw [← d1]; exact D1 L1 p1⟩ U1 p e s vm0 m args below meth c T' locs C' X' rfl N (O.ext E1) (H.more E1 (Nat.le_refl _) A1.lt) Kw
  exact ⟨s₂, o, S1 _ S, r⟩
theorem Runs.newP {aty : ArrayType} {n : Int32} {cap : Nat} {ad : String} (hd : Ins code pc (.newarray aty) 2 pc') (w1 : (Cond.arrayClass (newarray.typeOf aty)).before a0 Z = true) (hn : ¬ n < 0) (hcap : n.toNatClampNeg ≤ cap) (hb : cap * 8 ≤ 536870912) (hc : kc + 1 ≤ R.cells) (hl : ks + cap ≤ R.slots) (had : "[" ++ (newarray.typeOf aty).toString = ad)
    (K : ∀ h' b k, h.size ≤ b → n0 ≤ b → Keep h h' [] → Arv Z h' b k (newarray.typeOf aty) n [] (defaultValue (newarray.typeOf aty)) → Exa Z h' b ad → Runs w l Z EL n0 own nm code ml ret R Q (b :: D) h' (kc + 1) (ks + cap) pc' ls (.ref b :: rest)) : Runs w l Z EL n0 own nm code ml ret R Q D h kc ks pc ls (.int n :: rest) := by
  obtain ⟨hd, rfl⟩ := hd
  intro p e s vm0 m args below meth c T locs C' X eT N O H Kw
  obtain ⟨T', h1, cA, X', e1, E1, A1, x1, S1⟩ := RoadKit.newPE X C'.1 C'.2.1 w1 eT (g := mkF m pc ls (.int n :: rest)) rfl (Jvm.hb C'.2.2.1 hd) rfl hn hcap hb hc hl had
  subst e1
  have hO : n0 ≤ h.size := by rw [← O.1]; exact O.2.1
  obtain ⟨s₂, o, S, r⟩ := K _ h.size cA (Nat.le_refl _) hO (keepE E1) (Arv.new A1 hn) x1 p e s vm0 m args below meth c T' locs C' X' rfl N (O.ext E1) (H.more E1 (Nat.le_refl _) x1.lt) Kw
  exact ⟨s₂, o, S1 _ S, r⟩
theorem Runs.arrlen {a : Addr} {k : ClassId} {ty : FieldType} {z : Int32} {vs : List Value} {d : Value} (hd : Ins code pc .arraylength 1 pc') (A : Arv Z h a k ty z vs d) (K : Runs w l Z EL n0 own nm code ml ret R Q D h kc ks pc' ls (.int z :: rest)) : Runs w l Z EL n0 own nm code ml ret R Q D h kc ks pc ls (.ref a :: rest) := by
  obtain ⟨hd, rfl⟩ := hd
  obtain ⟨cl, A1, -, S1, q, -⟩ := A
  refine K.warm fun p e s m args below meth c T locs C X eT O => ⟨T, X, eT, fun t S => X.arraylength C.1 (by rw [eT]; exact A1.1) (State.isArrayOf_alike C.2.1.alike A1.2.1) (g := mkF m pc ls (.ref a :: rest)) rfl rfl (Jvm.hb C.2.2.1 hd) t ?_⟩
  rw [len_of S1 q]; exact S

theorem Runs.baload {a : Addr} {k : ClassId} {z j : Int32} {vs : List Value} {d v : Value} (hd : Ins code pc .baload 1 pc') (A : Arv Z h a k .byte z vs d) (hj : ¬ j < 0 ∧ j < z) (hv : vs.getD j.toNatClampNeg d = v) (K : Runs w l Z EL n0 own nm code ml ret R Q D h kc ks pc' ls (v :: rest)) : Runs w l Z EL n0 own nm code ml ret R Q D h kc ks pc ls (.int j :: .ref a :: rest) := by
  obtain ⟨hd, rfl⟩ := hd
  obtain ⟨cl, A1, -, S1, q, H1, -⟩ := A
  have hin := inb_of S1 hj
  exact K.warm fun p e s m args below meth c T locs C X eT O => ⟨T, X, eT, fun t S => X.baloadBytes C.1 (by rw [eT]; exact A1.1) (State.isArrayOf_alike C.2.1.alike A1.2.1) A1.2.2 hin (H1.at hin hv) (g := mkF m pc ls (.int j :: .ref a :: rest)) rfl rfl (Jvm.hb C.2.2.1 hd) t S⟩
theorem Runs.aaload {a : Addr} {k : ClassId} {z j : Int32} {vs : List Value} {d v : Value} {ty : FieldType} (hd : Ins code pc .aaload 1 pc') (A : Arv Z h a k ty z vs d) (hty : ty.isReference = true) (hj : ¬ j < 0 ∧ j < z) (hv : vs.getD j.toNatClampNeg d = v) (K : Runs w l Z EL n0 own nm code ml ret R Q D h kc ks pc' ls (v :: rest)) : Runs w l Z EL n0 own nm code ml ret R Q D h kc ks pc ls (.int j :: .ref a :: rest) := by
  obtain ⟨hd, rfl⟩ := hd
  obtain ⟨cl, A1, -, S1, q, H1, -⟩ := A
  have hin := inb_of S1 hj
  exact K.warm fun p e s m args below meth c T locs C X eT O => ⟨T, X, eT, fun t S => X.aaload C.1 (by rw [eT]; exact A1.1) (State.isArrayOf_alike C.2.1.alike A1.2.1) hty A1.2.2 hin (H1.at hin hv) (g := mkF m pc ls (.int j :: .ref a :: rest)) rfl rfl (Jvm.hb C.2.2.1 hd) t S⟩
theorem Runs.bastore {a : Addr} {k : ClassId} {z j x y : Int32} {vs : List Value} {d : Value} {i : Nat} (hd : Ins code pc .bastore 1 pc') (A : Arv Z h a k .byte z vs d) (hj : ¬ j < 0 ∧ j < z) (hi : j.toNatClampNeg = i) (hil : i < vs.length) (hy : x.toInt8.toInt32 = y) (hg : n0 ≤ a) (hs : a ∈ D ∨ (.byte : FieldType) ≠ .byte) (K : ∀ h', Keep h h' [a] → Arv Z h' a k .byte z (vs.set i (.int y)) d → Runs w l Z EL n0 own nm code ml ret R Q D h' kc ks pc' ls rest) : Runs w l Z EL n0 own nm code ml ret R Q D h kc ks pc ls (.int x :: .int j :: .ref a :: rest) := by
  obtain ⟨hd, rfl⟩ := hd
  subst hy
  refine Runs.write (P := fun h' => Arv Z h' a k .byte z (vs.set i (.int (x.toInt8.toInt32))) d) (one_ge hg) (safeA A hs) K fun p e s m args below meth c T locs Cx X eT Ol N => ?_
  obtain ⟨cl, A1, q1, S1, q, H1, G1⟩ := A
  obtain ⟨T', h1, X', e1, W1, st1⟩ := RoadKit.stB X Cx.1 Cx.2.1 eT A1 (inb_of S1 hj) (g := mkF m pc ls (.int x :: .int j :: .ref a :: rest)) rfl rfl (Jvm.hb Cx.2.2.1 hd)
  subst e1
  exact ⟨T', _, X', Fr.snoc X' N hg, Keep.of_wr W1, Arv.set A1 q1 S1 q H1 G1 (fits_nar_byte x) W1 i hi hil, st1⟩
theorem Runs.initO {idx W : Nat} {a : Addr} (hd : Ins code pc (.invokespecial idx) 3 pc') (w1 : (Cond.methodLink own idx Lib.objectInit).before a0 Z = true) (w2 : (Cond.instanceMethod Lib.objectInit).before a0 Z = true) (w3 : (Cond.code Lib.objectInit ⟨#[0xb1]⟩ 1 none).before a0 Z = true) (hls : ls.size = ml) (hf : 1 ≤ R.frames) (hW : (rest.map fun v => v.category).sum = W) (hl : W + 12 ≤ R.locals)
    (K : Runs w l Z EL n0 own nm code ml ret R Q D h kc ks pc' ls rest) : Runs w l Z EL n0 own nm code ml ret R Q D h kc ks pc ls (.ref a :: rest) := by
  obtain ⟨hd, rfl⟩ := hd
  exact K.warm fun p e s m args below meth c T locs C X eT O => RoadKit.initO X C.1 C.2.1 C.2.2.2.2.1 w1 w2 w3 eT (g := mkF m pc ls (.ref a :: rest)) rfl (by rw [C.2.2.2.1]; exact hls) rfl (Jvm.hb C.2.2.1 hd) hf (W := W) (by show 2 * 0 + _ ≤ _; omega) hl
end W2


/-! calls by a contract: no constant is interned (w = false) -/
section P
variable {l : Launch} {Z : State} {n0 : Nat} {own nm : String} {code : ByteArray} {ml : Nat} {ret : Option FieldType} {R : Room} {Q : Option Value → Heap → List Addr → Prop} {D : List Addr} {h : Heap} {kc ks pc pc' : Nat} {ls : Array Slot} {st rest : List Value} {a0 : Array Value}
theorem ch0 {vm : Vm} {h : Heap} : CHv Z [] vm h := fun p hp => by cases hp
theorem safe0 {vm : Vm} {h : Heap} {x : Addr} : Safe Z [] vm h x := fun ⟨p, hp, _⟩ => by cases hp
/-- a callee's contract as what the call laws ask -/
theorem Con.back {p : Program} {e : Env} {s : State} {args : Array Value} {below : List Frame} {y : MethodName} {bytes : ByteArray} {maxL : Nat} {rt : Option FieldType} {rm : Room} {as' : Array Value} {Q' : Option Value → Heap → List Addr → Prop} {len W : Nat}
    (H : Con 0 l Z [] n0 y bytes maxL rt rm as' D h Q') (hO : Old Z n0 h) (hD : ∀ x ∈ D, x < h.size) (hZ : Z.Warmed39 s.vm) (wc : (Cond.code y bytes maxL rt).before a0 Z = true) (wz : (Cond.initialized y.cls).before a0 Z = true) (hf : rm.frames + 1 ≤ R.frames) (hl : W + (maxL + 11) + rm.locals ≤ R.locals) :
    Back l R p e below s args y len W (fun A a => a = as' ∧ A.U.heap = h ∧ A.cells + rm.cells ≤ R.cells ∧ A.slots + rm.slots ≤ R.slots)
      (fun A _ v B => ∃ L D', Q' v B.U.heap D' ∧ Old Z n0 B.U.heap ∧ Fr n0 L ∧ h.size ≤ B.U.heap.size ∧ (∀ x ∈ D', x < B.U.heap.size) ∧ B.locs = A.locs ++ L ∧ B.cells = A.cells + rm.cells ∧ B.slots = A.slots + rm.slots) :=
  Back.of_free (bytes := bytes) (maxL := maxL) (ret := rt) (E := fun _ first o t L k n => k = rm.cells ∧ n = rm.slots ∧ ∃ v D', o = .returned v ∧ Q' v t.heap D' ∧ Old Z n0 t.heap ∧ Fr n0 L ∧ first.heap.size ≤ t.heap.size ∧ ∀ x ∈ D', x < t.heap.size) (H []) hf hl
    (fun m meth c A a Y hp => have hU : Z.Warmed39 A.U.vm := wtrans hZ Y.warmed
      ⟨by show (Cond.and _ .tt).before a A.U = true; rw [Cond.before_and, mv hU wc]; rfl, mv hU wc, mv hU wz, hp.2.2.1, hp.2.2.2⟩)
    (fun m meth c A a g mk Y hp => ⟨hp.1, wtrans hZ Y.warmed, hp.2.1, hO, ⟨#[], EW.nil⟩, ch0, fun x hx => ⟨hD x hx, safe0⟩⟩) (fun _ _ _ _ _ _ _ _ _ q => absurd q (by decide))
    (fun _ _ _ _ ⟨v, L, D', h1, h2, h3, h4, h5, h6⟩ => ⟨L, _, _, h6, rfl, rfl, v, D', h1, h2, h3, h4, h5.1.2.1, fun x hx => (h5.2 x hx).1⟩)
    (fun m meth c A a g mk v t L k n Y hp _ _ ⟨e1, e2, v', D', e3, e4, e5, e6, e7, e8⟩ => by
      cases e3; subst e1 e2
      exact ⟨L, D', e4, e5, e6, by rw [← hp.2.1]; exact e7, e8, rfl, rfl, rfl⟩)
end P


/-! the wide walk (w = true): constants of strings may come to be interned -/
section Wd
variable {w : Nat} {l : Launch} {Z : State} {EL : List (String × Nat)} {n0 : Nat} {own nm : String} {code : ByteArray} {ml : Nat} {ret : Option FieldType} {R : Room} {Q : Option Value → Heap → List Addr → Prop} {D : List Addr} {h : Heap} {kc ks pc pc' : Nat} {ls : Array Slot} {st rest : List Value} {a0 : Array Value}
theorem Ctx.later {p : Program} {s : State} {vm0 vm1 : Vm} {n : Nat} {m : MethodId} {meth : Method} {c : Code} (C : Ctx p (s.setVm vm0) m meth c Z own nm code ml ret) (h1 : (s.setVm vm0).Since vm1 n) : Ctx p (s.setVm vm1) m meth c Z own nm code ml ret :=
  ⟨C.1, State.Warmed39.trans (t := s.setVm vm0) C.2.1 h1.1, C.2.2.1, C.2.2.2.1, by rw [show (s.setVm vm1).vm = vm1 from rfl, h1.1.alike.findClass]; exact C.2.2.2.2.1, C.2.2.2.2.2⟩
theorem Con.backW {p : Program} {e : Env} {s : State} {vm0 : Vm} {args : Array Value} {below : List Frame} {y : MethodName} {bytes : ByteArray} {maxL : Nat} {rt : Option FieldType} {rm : Room} {as' : Array Value} {D0 : List Addr} {Q' : Option Value → Heap → List Addr → Prop} {len W : Nat}
    (w0 : w ≠ 0) (Kw : Kn w Z below) (H : Con w l Z EL n0 y bytes maxL rt rm as' D0 h Q') (hO : Old Z n0 h) (hE : ∃ a0, EW Z a0 EL) (hC : CHv Z EL vm0 h) (hD : ∀ x ∈ D0, x < h.size ∧ Safe Z EL vm0 h x) (hZ : Z.Warmed39 vm0) (wc : (Cond.code y bytes maxL rt).before a0 Z = true) (wz : (Cond.initialized y.cls).before a0 Z = true) (hf : rm.frames + 1 ≤ R.frames) (hl : W + (maxL + 11) + rm.locals ≤ R.locals) :
    BackS l R p e below (s.setVm vm0) args y len W (fun A a => a = as' ∧ A.U.heap = h ∧ A.cells + rm.cells ≤ R.cells ∧ A.slots + rm.slots ≤ R.slots)
      (fun A _ v B => ∃ L D', Q' v B.U.heap D' ∧ Old Z n0 B.U.heap ∧ Fr n0 L ∧ CHr Z EL vm0 h B.U.vm B.U.heap ∧ (∀ x ∈ D', x < B.U.heap.size ∧ Safe Z EL B.U.vm B.U.heap x) ∧ B.locs = A.locs ++ L ∧ B.cells = A.cells + rm.cells ∧ B.slots = A.slots + rm.slots) := by
  obtain ⟨a1, hE1⟩ := id hE
  exact BackS.of_freeWG (bytes := bytes) (maxL := maxL) (ret := rt) (E := fun _ first o t L k n => k = rm.cells ∧ n = rm.slots ∧ ∃ v D', o = .returned v ∧ Q' v t.heap D' ∧ Old Z n0 t.heap ∧ Fr n0 L ∧ CHr Z EL first.vm first.heap t.vm t.heap ∧ ∀ x ∈ D', x < t.heap.size ∧ Safe Z EL t.vm t.heap x) (H []) hf hl
    (fun m meth c A a Y hp => have hU : Z.Warmed39 A.U.vm := wtrans (s := s.setVm vm0) hZ Y.warmed
      ⟨by show (Cond.and _ .tt).before a A.U = true; rw [Cond.before_and, mv hU wc]; rfl, mv hU wc, mv hU wz, hp.2.2.1, hp.2.2.2⟩)
    (fun m meth c A a g mk Y hp => ⟨hp.1, wtrans (s := s.setVm vm0) hZ Y.warmed, hp.2.1, hO, hE, (CHv.at Y hZ hE1 hC).1, fun x hx => ⟨(hD x hx).1, (CHv.at Y hZ hE1 hC).safe (hD x hx).1 (hD x hx).2⟩⟩) (fun m meth c A a g mk Y _ hg q => by
      have hal : Z.vm.Alike A.U.vm := (wtrans (s := s.setVm vm0) hZ Y.warmed).alike
      have kk := known_frames Y hg (Vm.MethodsKnown.alikeC hZ.alike (Kw q).1) (Vm.FramesKnown.alikeC hZ.alike (Kw q).2)
      exact ⟨Vm.MethodsKnown.alikeC hal.symm kk.1, Vm.FramesKnown.alikeC hal.symm kk.2⟩)
    (fun _ _ _ _ ⟨v, L, D', h1, h2, h3, h4, h5, h6⟩ => ⟨L, _, _, by unfold En at h6; rw [if_neg w0] at h6; exact h6, rfl, rfl, v, D', h1, h2, h3, h4, h5.1, h5.2⟩)
    (fun m meth c A a g mk v t L k n Y hp _ _ ⟨e1, e2, v', D', e3, e4, e5, e6, e7, e8⟩ => by
      cases e3; subst e1 e2
      refine ⟨L, D', e4, e5, e6, (CHv.at Y hZ hE1 hC).trans ?_, e8, rfl, rfl, rfl⟩
      rw [← hp.2.1]; exact e7)
theorem goOnW {p : Program} {e : Env} {s : State} {vm0 : Vm} {m : MethodId} {args : Array Value} {below : List Frame} {meth : Method} {c : Code} {T : State} {locs : List Loc} {Q' : Option Value → Heap → List Addr → Prop} {kc' ks' : Nat}
    (K : ∀ v h' D', Q' v h' D' → h.size ≤ h'.size → Runs w l Z EL n0 own nm code ml ret R Q (D' ++ D) h' kc' ks' pc' ls (v.toList ++ rest))
    (w0 : w ≠ 0) (Kw : Kn w Z below) (C : Ctx p (s.setVm vm0) m meth c Z own nm code ml ret) (H : Hid w Z EL D s vm0 h) (N : Fr n0 locs) {v : Option Value} {B : Pt} (X : Stand p l e R ((s.setVm vm0).setVm B.U.vm) m args below meth c B.U B.locs B.cells B.slots)
    (hS : (s.setVm vm0).Since B.U.vm B.U.heap.size)
    (P : ∃ L D', Q' v B.U.heap D' ∧ Old Z n0 B.U.heap ∧ Fr n0 L ∧ CHr Z EL vm0 h B.U.vm B.U.heap ∧ (∀ x ∈ D', x < B.U.heap.size ∧ Safe Z EL B.U.vm B.U.heap x) ∧ B.locs = locs ++ L ∧ B.cells = kc' ∧ B.slots = ks')
    (S : Steps p.tables e below (T.setTop (mkF m pc ls st)) (B.U.setTop (mkF m pc' ls (v.toList ++ rest)))) :
    ∃ s₂ o, Steps p.tables e below (T.setTop (mkF m pc ls st)) s₂ ∧ s₂.status = .running ∧ Ended s₂ below o ∧ Done w Z EL n0 R Q s o s₂ := by
  obtain ⟨L, D', h1, h2, h3, h4, h5, h6, h7, h8⟩ := P
  obtain ⟨U, Ls, kk, nn⟩ := B
  dsimp only [Pt.U, Pt.locs, Pt.cells, Pt.slots] at *
  subst h6 h7 h8
  obtain ⟨H1, H2, H3, H4⟩ := H
  obtain ⟨k0, g1, g2⟩ : ∃ k0, s.Since vm0 k0 ∧ k0 ≤ h.size := by rw [if_neg w0] at H1; exact H1
  have hsz : h.size ≤ U.heap.size := h4.2.1
  have C1 : Ctx p (s.setVm U.vm) m meth c Z own nm code ml ret := C.later hS
  have X1 : Stand p l e R (s.setVm U.vm) m args below meth c U (locs ++ L) kk nn := X
  have HN : Hid w Z EL (D' ++ D) s U.vm U.heap := ⟨by rw [if_neg w0]; exact ⟨U.heap.size, g1.trans hS (Nat.le_trans g2 hsz), Nat.le_refl _⟩, H2, H3.trans h4, fun x hx => by
    rcases List.mem_append.mp hx with q | q
    · exact h5 x q
    · exact ⟨Nat.lt_of_lt_of_le (H4 x q).1 hsz, h4.safe (H4 x q).1 (H4 x q).2⟩⟩
  obtain ⟨s₂, o, S₂, r⟩ := K v U.heap D' h1 hsz p e s U.vm m args below meth c U _ C1 X1 rfl (N.app h3) h2 HN Kw
  exact ⟨s₂, o, S.trans S₂, r⟩
theorem Runs.callSW {y : MethodName} {index : Nat} {bytes : ByteArray} {maxL : Nat} {rt : Option FieldType} {rm : Room} {argsL : List Value} {Q' : Option Value → Heap → List Addr → Prop} {W : Nat} {ps : List FieldType} {rr : Option FieldType}
    (hd : Ins code pc (.invokestatic index) 3 pc') (w1 : (Cond.methodLink own index y).before a0 Z = true) (w2 : (Cond.static y).before a0 Z = true) (w3 : (Cond.initialized y.cls).before a0 Z = true) (w4 : (Cond.code y bytes maxL rt).before a0 Z = true) (hy : y.cls ≠ "java/lang/invoke/MethodHandle" ∧ y.cls ≠ "java/lang/invoke/VarHandle")
    (pd : parseMethodDescriptor y.desc = some ⟨ps, rr⟩) (hn : argsL.length = ps.length) (hls : ls.size = ml) (hst : st = argsL.reverse ++ rest) (hW : (rest.map fun v => v.category).sum = W) (hf : rm.frames + 1 ≤ R.frames) (hl : W + (maxL + 11) + rm.locals ≤ R.locals) (hc : kc + rm.cells ≤ R.cells) (hs : ks + rm.slots ≤ R.slots)
    {D0 : List Addr} (hD0 : ∀ x ∈ D0, x ∈ D) (w0 : w ≠ 0) (H : Con w l Z EL n0 y bytes maxL rt rm argsL.toArray D0 h Q')
    (K : ∀ v h' D', Q' v h' D' → h.size ≤ h'.size → Runs w l Z EL n0 own nm code ml ret R Q (D' ++ D) h' (kc + rm.cells) (ks + rm.slots) pc' ls (v.toList ++ rest)) : Runs w l Z EL n0 own nm code ml ret R Q D h kc ks pc ls st := by
  obtain ⟨hd, rfl⟩ := hd
  intro p e s vm0 m args below meth c T locs C X eT N O Hd Kw
  obtain ⟨v, vm₁, B, -, XB, hS, -, P, S⟩ := callSS X C.1 (y := y) C.2.2.2.2.1 (mvT C.2.1 w1) (mvT C.2.1 w2) (mvT C.2.1 w3) (mvT C.2.1 w4) hy (H.backW w0 Kw (W := W) O Hd.2.1 Hd.2.2.1.1 (fun x hx => Hd.2.2.2 x (hD0 x hx)) C.2.1 w4 w3 hf hl) (g := mkF m pc ls st) rfl (by rw [C.2.2.2.1]; exact hls) (argsL := argsL) (rest := rest) (lenOf pd hn) hst (by show 2 * 0 + _ ≤ _; omega) (Jvm.hb C.2.2.1 hd) (fun _ _ => ⟨rfl, eT, hc, hs⟩)
  exact goOnW K w0 Kw C Hd N XB hS P S
theorem Runs.callVW {y z : MethodName} {index : Nat} {CC : String} {bytes : ByteArray} {maxL : Nat} {rt : Option FieldType} {rm : Room} {b : Addr} {argsL : List Value} {Q' : Option Value → Heap → List Addr → Prop} {W : Nat} {ps : List FieldType} {rr : Option FieldType}
    (hd : Ins code pc (.invokevirtual index) 3 pc') (w1 : (Cond.methodLink own index y).before a0 Z = true) (w2 : (Cond.declares y).before a0 Z = true) (nf : ∀ s : State, Z.Warmed39 s.vm → NotFace s y) (w3 : (Cond.selects CC y z).before a0 Z = true) (w4 : (Cond.instanceMethod z).before a0 Z = true) (w5 : (Cond.code z bytes maxL rt).before a0 Z = true) (w6 : (Cond.initialized z.cls).before a0 Z = true) (hy : y.cls ≠ "java/lang/invoke/MethodHandle" ∧ y.cls ≠ "java/lang/invoke/VarHandle")
    (E : Exa Z h b CC) (pd : parseMethodDescriptor y.desc = some ⟨ps, rr⟩) (hn : argsL.length = ps.length) (hls : ls.size = ml) (hst : st = argsL.reverse ++ .ref b :: rest) (hW : (rest.map fun v => v.category).sum = W) (hf : rm.frames + 1 ≤ R.frames) (hl : W + (maxL + 11) + rm.locals ≤ R.locals) (hc : kc + rm.cells ≤ R.cells) (hs : ks + rm.slots ≤ R.slots)
    {D0 : List Addr} (hD0 : ∀ x ∈ D0, x ∈ D) (w0 : w ≠ 0) (H : Con w l Z EL n0 z bytes maxL rt rm (.ref b :: argsL).toArray D0 h Q')
    (K : ∀ v h' D', Q' v h' D' → h.size ≤ h'.size → Runs w l Z EL n0 own nm code ml ret R Q (D' ++ D) h' (kc + rm.cells) (ks + rm.slots) pc' ls (v.toList ++ rest)) : Runs w l Z EL n0 own nm code ml ret R Q D h kc ks pc ls st := by
  obtain ⟨hd, rfl⟩ := hd
  intro p e s vm0 m args below meth c T locs C X eT N O Hd Kw
  obtain ⟨cB, kB, q1, -, q3⟩ := isOf C.2.1 eT E
  obtain ⟨v, vm₁, B, -, XB, hS, -, P, S⟩ := X.virtualBackS C.1 (y := y) (z := z) C.2.2.2.2.1 (mvT C.2.1 w1) (mvT C.2.1 w2) (nf _ C.2.1) (mvT C.2.1 w3) (mvT C.2.1 w4) hy (H.backW w0 Kw (W := W) O Hd.2.1 Hd.2.2.1.1 (fun x hx => Hd.2.2.2 x (hD0 x hx)) C.2.1 w5 w6 hf hl) q1 q3 (g := mkF m pc ls st) rfl (by rw [C.2.2.2.1]; exact hls) (Steps.refl _) (argsL := argsL) (rest := rest) (lenOf pd hn) hst (by show 2 * 0 + _ ≤ _; omega) (Jvm.hb C.2.2.1 hd) (fun _ _ => ⟨rfl, eT, hc, hs⟩)
  exact goOnW K w0 Kw C Hd N XB hS P S
theorem Runs.callCW {y : MethodName} {index : Nat} {bytes : ByteArray} {maxL : Nat} {rm : Room} {b : Addr} {argsL : List Value} {Q' : Option Value → Heap → List Addr → Prop} {W : Nat} {ps : List FieldType} {rr : Option FieldType}
    (hd : Ins code pc (.invokespecial index) 3 pc') (hi : y.name = "<init>") (w1 : (Cond.methodLink own index y).before a0 Z = true) (w2 : (Cond.instanceMethod y).before a0 Z = true) (w3 : (Cond.code y bytes maxL none).before a0 Z = true) (w4 : (Cond.initialized y.cls).before a0 Z = true) (hy : y.cls ≠ "java/lang/invoke/MethodHandle" ∧ y.cls ≠ "java/lang/invoke/VarHandle")
    (pd : parseMethodDescriptor y.desc = some ⟨ps, rr⟩) (hn : argsL.length = ps.length) (hls : ls.size = ml) (hst : st = argsL.reverse ++ .ref b :: rest) (hW : (rest.map fun v => v.category).sum = W) (hf : rm.frames + 1 ≤ R.frames) (hl : W + (maxL + 11) + rm.locals ≤ R.locals) (hc : kc + rm.cells ≤ R.cells) (hs : ks + rm.slots ≤ R.slots)
    {D0 : List Addr} (hD0 : ∀ x ∈ D0, x ∈ D) (w0 : w ≠ 0) (H : Con w l Z EL n0 y bytes maxL none rm (.ref b :: argsL).toArray D0 h Q')
    (K : ∀ v h' D', Q' v h' D' → h.size ≤ h'.size → Runs w l Z EL n0 own nm code ml ret R Q (D' ++ D) h' (kc + rm.cells) (ks + rm.slots) pc' ls (v.toList ++ rest)) : Runs w l Z EL n0 own nm code ml ret R Q D h kc ks pc ls st := by
  obtain ⟨hd, rfl⟩ := hd
  intro p e s vm0 m args below meth c T locs C X eT N O Hd Kw
  obtain ⟨v, vm₁, B, -, XB, hS, -, P, S⟩ := X.specialBackS C.1 (y := y) hi C.2.2.2.2.1 (mvT C.2.1 w1) (mvT C.2.1 w2) (mvT C.2.1 w3) hy (H.backW w0 Kw (W := W) O Hd.2.1 Hd.2.2.1.1 (fun x hx => Hd.2.2.2 x (hD0 x hx)) C.2.1 w3 w4 hf hl) (g := mkF m pc ls st) rfl (by rw [C.2.2.2.1]; exact hls) (Steps.refl _) (a := b) (argsL := argsL) (rest := rest) (lenOf pd hn) hst (by show 2 * 0 + _ ≤ _; omega) (Jvm.hb C.2.2.1 hd) (fun _ _ => ⟨rfl, eT, hc, hs⟩)
  exact goOnW K w0 Kw C Hd N XB hS P S
theorem declares_of {y : MethodName} {bytes : ByteArray} {maxL : Nat} {rt : Option FieldType} (w1 : (Cond.instanceMethod y).before a0 Z = true) (w2 : (Cond.code y bytes maxL rt).before a0 Z = true) : (Cond.declares y).before a0 Z = true := by
  obtain ⟨m, meth, h1, h2, h3, -⟩ := Cond.instanceMethod_spec w1
  obtain ⟨meth', c, g1, -, -, -, -, -, -, g2⟩ := Cond.code_spec h1 w2
  cases h2.symm.trans g1
  simp [Cond.before, Cond.holds, Cond.value, h1, h2, h3, g2]
theorem nf_same {s : State} {y y' : MethodName} (h : NotFace s y) (w1 : (Cond.instanceMethod y).before a0 s = true) (e : y'.cls = y.cls) : NotFace s y' := fun r0 h0 => by
  obtain ⟨m, meth, h1, -⟩ := Cond.instanceMethod_spec w1
  obtain ⟨kr, k1, k2⟩ := h m h1
  have c1 := findClass_of_methodNamed h1
  have c0 := findClass_of_methodNamed h0
  rw [e] at c0
  have e1 : m.cls = r0.cls := Option.some.inj (c1.symm.trans c0)
  exact ⟨kr, e1 ▸ k1, k2⟩
theorem same_of {y : MethodName} (w1 : (Cond.declares y).before a0 Z = true) (nf : NotFace Z y) (hy : y.cls ≠ "java/lang/invoke/MethodHandle" ∧ y.cls ≠ "java/lang/invoke/VarHandle") : (Cond.sameMethod y.cls y.cls y.name y.desc).before a0 Z = true := by
  obtain ⟨m, meth, h1, h2, -⟩ := Cond.declares_spec w1
  obtain ⟨kr, k1, k2⟩ := nf m h1
  have hf := State.methodFound?_of_named h1 hy
  have hc := findClass_of_methodNamed h1
  have h1' : Z.methodNamed? ⟨y.cls, y.name, y.desc⟩ = some m := h1
  simp [Cond.before, Cond.holds, Cond.value, hc, hf, h1', k1, k2]
theorem Runs.callUW {y : MethodName} {index : Nat} {K : String} {bytes : ByteArray} {maxL : Nat} {rt : Option FieldType} {rm : Room} {b : Addr} {argsL : List Value} {Q' : Option Value → Heap → List Addr → Prop} {W : Nat} {ps : List FieldType} {rr : Option FieldType}
    (hd : Ins code pc (.invokespecial index) 3 pc') (w1 : (Cond.methodLink own index y).before a0 Z = true) (w2 : (Cond.sameMethod y.cls y.cls y.name y.desc).before a0 Z = true) (w3 : (Cond.instanceMethod y).before a0 Z = true) (w4 : (Cond.superclass own y.cls).before a0 Z = true) (w5 : (Cond.code y bytes maxL rt).before a0 Z = true) (w6 : (Cond.initialized y.cls).before a0 Z = true) (hi : y.name ≠ "<init>")
    (E : Exa Z h b K) (pd : parseMethodDescriptor y.desc = some ⟨ps, rr⟩) (hn : argsL.length = ps.length) (hls : ls.size = ml) (hst : st = argsL.reverse ++ .ref b :: rest) (hW : (rest.map fun v => v.category).sum = W) (hf : rm.frames + 1 ≤ R.frames) (hl : W + (maxL + 11) + rm.locals ≤ R.locals) (hc : kc + rm.cells ≤ R.cells) (hs : ks + rm.slots ≤ R.slots)
    {D0 : List Addr} (hD0 : ∀ x ∈ D0, x ∈ D) (w0 : w ≠ 0) (H : Con w l Z EL n0 y bytes maxL rt rm (.ref b :: argsL).toArray D0 h Q')
    (K' : ∀ v h' D', Q' v h' D' → h.size ≤ h'.size → Runs w l Z EL n0 own nm code ml ret R Q (D' ++ D) h' (kc + rm.cells) (ks + rm.slots) pc' ls (v.toList ++ rest)) : Runs w l Z EL n0 own nm code ml ret R Q D h kc ks pc ls st := by
  obtain ⟨hd, rfl⟩ := hd
  intro p e s vm0 m args below meth c T locs C X eT N O Hd Kw
  obtain ⟨v, vm₁, B, -, XB, hS, -, P, S⟩ := superBackS X C.1 C.2.1 (y := y) C.2.2.2.2.1 w1 w2 w3 w4 hi (H.backW w0 Kw (W := W) O Hd.2.1 Hd.2.2.1.1 (fun x hx => Hd.2.2.2 x (hD0 x hx)) C.2.1 w5 w6 hf hl) eT (RoadKit.Ins.self E) (g := mkF m pc ls st) rfl (by rw [C.2.2.2.1]; exact hls) w5 (argsL := argsL) (rest := rest) (lenOf pd hn) hst (by show 2 * 0 + _ ≤ _; omega) (Jvm.hb C.2.2.1 hd) (fun _ _ => ⟨rfl, eT, hc, hs⟩)
  exact goOnW K' w0 Kw C Hd N XB hS P S
/-- ldc of a String constant that is held: its text -/
theorem Runs.ldcT {text : String} {index n : Nat} {vs : List Value} {z : Int32} (w0 : w ≠ 0) (hd : Ins code pc (.ldc index) 2 pc') (wl : (Cond.stringLink own index text).before a0 Z = true) (wS : ∀ a ∈ Bundle.stringAtoms, a.before a0 Z = true) (hEL : EW Z a0 EL) (hmem : (own, index) ∈ EL)
    (ht : (∀ c ∈ text.toList, c.toNat < 256) ∧ text.toList.map (fun c => Value.int (Jvm.Lit.byteI c.toNat.toUInt16)) = vs) (hz : ¬ z < 0) (hzl : z.toNatClampNeg = vs.length) (hn : 4 * text.toList.length ≤ n) (hbig : n ≤ 536870912) (hc : kc + 2 ≤ R.cells) (hl : ks + (n + 4) ≤ R.slots)
    (K : ∀ h' a b k, Keep h h' [] → Obj Z h' a "java/lang/String" [("java/lang/String", "value", "[B", .ref b), ("java/lang/String", "coder", "B", .int 0)] → Arv Z h' b k .byte z vs (.int 0) → (∀ x ∈ D, x ≠ a ∧ x ≠ b) → Runs w l Z EL n0 own nm code ml ret R Q D h' (kc + 2) (ks + (n + 4)) pc' ls (.ref a :: st)) : Runs w l Z EL n0 own nm code ml ret R Q D h kc ks pc ls st := by
  obtain ⟨hd, rfl⟩ := hd
  intro p e s vm0 m args below meth c T locs C X eT N O Hd Kw
  obtain ⟨H1, H2, H3, H4⟩ := Hd
  obtain ⟨k0, g1, g2⟩ : ∃ k0, s.Since vm0 k0 ∧ k0 ≤ h.size := by rw [if_neg w0] at H1; exact H1
  obtain ⟨a, T', h', k1, b, k, X', e', E', S1, hk1, W1, F1, x1, x2, x3, x4, -, -, C1, -, D1, st1⟩ := ldcCH X C.1 C.2.1 C.2.2.2.2.1 wl wS eT g1 g2 hEL hmem H3.1 ht hz hzl (g := mkF m pc ls st) rfl (Jvm.hb C.2.2.1 hd) hn hbig hc hl
  subst e'
  have hD : ∀ x ∈ D, x < T'.heap.size ∧ Safe Z EL T'.vm T'.heap x := fun x hx => ⟨Nat.lt_of_lt_of_le (H4 x hx).1 E'.1, C1.safe (H4 x hx).1 (H4 x hx).2⟩
  obtain ⟨s₂, o, S, r⟩ := K _ a b k (keepE E') ⟨x1, fun f hf => by simp only [List.mem_cons, List.not_mem_nil, or_false] at hf; rcases hf with rfl | rfl; exact x3; exact x2⟩ x4 (fun x hx => D1 x (hD x hx).2) p e s T'.vm m args below meth c T' locs ⟨C.1, W1, C.2.2.1, C.2.2.2.1, F1, C.2.2.2.2.2⟩ X' rfl N (O.ext E') ⟨by rw [if_neg w0]; exact ⟨k1, S1, hk1⟩, H2, H3.trans C1, hD⟩ Kw
  exact ⟨s₂, o, st1 _ S, r⟩
end Wd


section W3
variable {w : Nat} {l : Launch} {Z : State} {EL : List (String × Nat)} {n0 : Nat} {own nm : String} {code : ByteArray} {ml : Nat} {ret : Option FieldType} {R : Room} {Q : Option Value → Heap → List Addr → Prop} {D : List Addr} {h h' : Heap} {kc ks pc pc' : Nat} {ls ls' : Array Slot} {st st' rest : List Value} {a0 : Array Value}
theorem Runs.instN {K CC : String} {index : Nat} {a : Addr} (hd : Ins code pc (.instanceof index) 3 pc') (wl : (Cond.classLink own index K).before a0 Z = true) (E : Exa Z h a CC) (F : ∃ c t, Z.vm.findClass CC = some c ∧ Z.vm.findClass K = some t ∧ Z.vm.assignable c t = false) (k : Runs w l Z EL n0 own nm code ml ret R Q D h kc ks pc' ls (.int 0 :: rest)) : Runs w l Z EL n0 own nm code ml ret R Q D h kc ks pc ls (.ref a :: rest) := by
  obtain ⟨hd, rfl⟩ := hd
  exact k.warm fun p e s m args below meth c T locs C X eT O => RoadKit.instNo X C.1 C.2.1 C.2.2.2.2.1 wl eT E F (g := mkF m pc ls (.ref a :: rest)) rfl rfl (Jvm.hb C.2.2.1 hd)
theorem Runs.castY {K : String} {index : Nat} {a : Addr} (hd : Ins code pc (.checkcast index) 3 pc') (wl : (Cond.classLink own index K).before a0 Z = true) (F : RoadKit.Ins Z h a K true) (k : Runs w l Z EL n0 own nm code ml ret R Q D h kc ks pc' ls (.ref a :: rest)) : Runs w l Z EL n0 own nm code ml ret R Q D h kc ks pc ls (.ref a :: rest) := by
  obtain ⟨hd, rfl⟩ := hd
  exact k.warm fun p e s m args below meth c T locs C X eT O => RoadKit.castY X C.1 C.2.1 C.2.2.2.2.1 wl eT F (g := mkF m pc ls (.ref a :: rest)) rfl rfl (Jvm.hb C.2.2.1 hd)
end W3


section W4
variable {w : Nat} {l : Launch} {Z : State} {EL : List (String × Nat)} {n0 : Nat} {own nm : String} {code : ByteArray} {ml : Nat} {ret : Option FieldType} {R : Room} {Q : Option Value → Heap → List Addr → Prop} {D : List Addr} {h h' : Heap} {kc ks pc pc' : Nat} {ls ls' : Array Slot} {st st' rest : List Value} {a0 : Array Value}
/-- System.arraycopy of bytes, chars or ints -/
theorem Runs.acopy {index W : Nat} {a b : Addr} {k k' : ClassId} {ty : FieldType} {z z' sp dp nn : Int32} {vs vd us : List Value} {dv dd : Value} (hd : Ins code pc (.invokestatic index) 3 pc')
    (w1 : (Cond.methodLink own index Jvm.Stand.acN).before a0 Z = true) (w2 : (Cond.native Jvm.Stand.acN).before a0 Z = true) (w3 : (Cond.static Jvm.Stand.acN).before a0 Z = true) (w4 : (Cond.initialized "java/lang/System").before a0 Z = true)
    (A : Arv Z h a k ty z vs dv) (B : Arv Z h b k' ty z' vd dd) (hty : refKind ty = false) (h1 : ¬ sp < 0) (h2 : ¬ dp < 0) (h3 : ¬ nn < 0) (h4 : sp.toNatClampNeg + nn.toNatClampNeg ≤ z.toNatClampNeg) (h5 : dp.toNatClampNeg + nn.toNatClampNeg ≤ z'.toNatClampNeg)
    (hus : us = (List.range nn.toNatClampNeg).map fun i => vs.getD (sp.toNatClampNeg + i) dv) (hlv : dp.toNatClampNeg + nn.toNatClampNeg ≤ vd.length) (hg : n0 ≤ b) (hs : b ∈ D ∨ ty ≠ .byte) (hls : ls.size = ml) (hf : 1 ≤ R.frames) (hW : (rest.map fun v => v.category).sum = W) (hlo : W + (nativeFrameWords "java/lang/System" "arraycopy" 5 + 11) ≤ R.locals)
    (K : ∀ h', Keep h h' [b] → Arv Z h' b k' ty z' (vd.take dp.toNatClampNeg ++ us ++ vd.drop (dp.toNatClampNeg + nn.toNatClampNeg)) dd → Runs w l Z EL n0 own nm code ml ret R Q D h' kc ks pc' ls rest) : Runs w l Z EL n0 own nm code ml ret R Q D h kc ks pc ls (.int nn :: .int dp :: .ref b :: .int sp :: .ref a :: rest) := by
  obtain ⟨hd, rfl⟩ := hd
  refine Runs.write (P := fun h' => Arv Z h' b k' ty z' (vd.take dp.toNatClampNeg ++ us ++ vd.drop (dp.toNatClampNeg + nn.toNatClampNeg)) dd) (one_ge hg) (safeA B hs) K fun p e s m args below meth c T locs C X eT Ol N => ?_
  obtain ⟨T', h1', L', X', e1, N', K', A', S'⟩ := cpA X C.1 C.2.1 C.2.2.2.2.1 w1 w2 w3 w4 eT A B (Or.inl ⟨rfl, hty⟩) h1 h2 h3 h4 h5 hus hlv N hg (g := mkF m pc ls (.int nn :: .int dp :: .ref b :: .int sp :: .ref a :: rest)) rfl (by rw [C.2.2.2.1]; exact hls) rfl (Jvm.hb C.2.2.1 hd) hf (W := W) (by show 2 * 0 + _ ≤ _; omega) hlo
  subst e1
  exact ⟨T', L', X', N', K', A', S'⟩
/-- the clone of an array -/
theorem Runs.clone {index W cap : Nat} {ad : String} {a : Addr} {k : ClassId} {ty : FieldType} {z : Int32} {vs : List Value} {dv : Value} (hd : Ins code pc (.invokevirtual index) 3 pc')
    (w1 : (Cond.methodLink own index ⟨ad, "clone", "()Ljava/lang/Object;"⟩).before a0 Z = true) (w2 : (Cond.sameMethod ad "java/lang/Object" "clone" "()Ljava/lang/Object;").before a0 Z = true) (w3 : (Cond.native ⟨"java/lang/Object", "clone", "()Ljava/lang/Object;"⟩).before a0 Z = true)
    (w4 : (Cond.instanceMethod ⟨"java/lang/Object", "clone", "()Ljava/lang/Object;"⟩).before a0 Z = true) (w5 : (Cond.selects ad ⟨ad, "clone", "()Ljava/lang/Object;"⟩ ⟨"java/lang/Object", "clone", "()Ljava/lang/Object;"⟩).before a0 Z = true) (w6 : (Cond.castable ad "java/lang/Cloneable").before a0 Z = true)
    (A : Arv Z h a k ty z vs dv) (E : Exa Z h a ad) (hls : ls.size = ml) (hf : 1 ≤ R.frames) (hW : (rest.map fun v => v.category).sum = W) (hlo : W + 14 ≤ R.locals) (hcap : z.toNatClampNeg ≤ cap) (hc : kc + 1 ≤ R.cells) (hl : ks + cap ≤ R.slots)
    (K : ∀ h' b, h.size ≤ b → n0 ≤ b → Keep h h' [] → Arv Z h' b k ty z vs dv → Exa Z h' b ad → Runs w l Z EL n0 own nm code ml ret R Q (b :: D) h' (kc + 1) (ks + cap) pc' ls (.ref b :: rest)) : Runs w l Z EL n0 own nm code ml ret R Q D h kc ks pc ls (.ref a :: rest) := by
  obtain ⟨hd, rfl⟩ := hd
  intro p e s vm0 m args below meth c T locs C X eT N O H Kw
  obtain ⟨T', h1, X', e1, E1, F1, x1, S1⟩ := cloneH X C.1 C.2.1 C.2.2.2.2.1 w1 w2 w3 w4 w5 w6 eT (hs := []) (vs := vs) (dv := dv) (by obtain ⟨cl, q1, q2, q3, q4, q5, q6⟩ := A; exact ⟨cl, q1, q2, q3, q4, fun i hi => q5 i hi, fun i hi => q6 i hi⟩) E (g := mkF m pc ls (.ref a :: rest)) rfl (by rw [C.2.2.2.1]; exact hls) rfl (Jvm.hb C.2.2.1 hd) hf (W := W) (by show 2 * 0 + _ ≤ _; omega) hlo hcap hc hl
  subst e1
  have hO : n0 ≤ h.size := by rw [← O.1]; exact O.2.1
  obtain ⟨s₂, o, S, r⟩ := K _ h.size (Nat.le_refl _) hO (keepE E1) (by obtain ⟨cl, q1, q2, q3, q4, q5, q6⟩ := F1; exact ⟨cl, q1, q2, q3, q4, fun i hi => q5 i hi, fun i hi => q6 i hi⟩) x1 p e s vm0 m args below meth c T' locs C X' rfl N (O.ext E1) (H.more E1 (Nat.le_refl _) x1.lt) Kw
  exact ⟨s₂, o, S1 _ S, r⟩
end W4


section W5
variable {w : Nat} {l : Launch} {Z : State} {EL : List (String × Nat)} {n0 : Nat} {own nm : String} {code : ByteArray} {ml : Nat} {ret : Option FieldType} {R : Room} {Q : Option Value → Heap → List Addr → Prop} {D : List Addr} {h : Heap} {kc ks pc pc' : Nat} {ls : Array Slot} {st rest : List Value} {a0 : Array Value}
/-- a virtual call of a method that a class above the named one declares -/
theorem Runs.callVUW {x z : MethodName} {owner : String} {index : Nat} {CC : String} {bytes : ByteArray} {maxL : Nat} {rt : Option FieldType} {rm : Room} {b : Addr} {argsL : List Value} {Q' : Option Value → Heap → List Addr → Prop} {W : Nat} {ps : List FieldType} {rr : Option FieldType}
    (hd : Ins code pc (.invokevirtual index) 3 pc') (w1 : (Cond.methodLink own index x).before a0 Z = true) (w2 : (Cond.sameMethod x.cls owner x.name x.desc).before a0 Z = true) (w2' : (Cond.declares ⟨owner, x.name, x.desc⟩).before a0 Z = true) (hy : owner ≠ "java/lang/invoke/MethodHandle" ∧ owner ≠ "java/lang/invoke/VarHandle") (w3 : (Cond.selects CC x z).before a0 Z = true) (w4 : (Cond.instanceMethod z).before a0 Z = true) (w5 : (Cond.code z bytes maxL rt).before a0 Z = true) (w6 : (Cond.initialized z.cls).before a0 Z = true)
    (E : Exa Z h b CC) (pd : parseMethodDescriptor x.desc = some ⟨ps, rr⟩) (hn : argsL.length = ps.length) (hls : ls.size = ml) (hst : st = argsL.reverse ++ .ref b :: rest) (hW : (rest.map fun v => v.category).sum = W) (hf : rm.frames + 1 ≤ R.frames) (hl : W + (maxL + 11) + rm.locals ≤ R.locals) (hc : kc + rm.cells ≤ R.cells) (hs : ks + rm.slots ≤ R.slots)
    {D0 : List Addr} (hD0 : ∀ x ∈ D0, x ∈ D) (w0 : w ≠ 0) (H : Con w l Z EL n0 z bytes maxL rt rm (.ref b :: argsL).toArray D0 h Q')
    (K : ∀ v h' D', Q' v h' D' → h.size ≤ h'.size → Runs w l Z EL n0 own nm code ml ret R Q (D' ++ D) h' (kc + rm.cells) (ks + rm.slots) pc' ls (v.toList ++ rest)) : Runs w l Z EL n0 own nm code ml ret R Q D h kc ks pc ls st := by
  obtain ⟨hd, rfl⟩ := hd
  intro p e s vm0 m args below meth c T locs C X eT N O Hd Kw
  obtain ⟨cB, kB, q1, -, q3⟩ := isOf C.2.1 eT E
  obtain ⟨v, vm₁, B, -, XB, hS, -, P, S⟩ := X.virtualBackUpS C.1 (x := x) (y := z) C.2.2.2.2.1 (mvT C.2.1 w1) (mvT C.2.1 w2) (mvT C.2.1 w2') hy (mvT C.2.1 w3) (mvT C.2.1 w4) (H.backW w0 Kw (W := W) O Hd.2.1 Hd.2.2.1.1 (fun x hx => Hd.2.2.2 x (hD0 x hx)) C.2.1 w5 w6 hf hl) q1 q3 (g := mkF m pc ls st) rfl (by rw [C.2.2.2.1]; exact hls) (Steps.refl _) (argsL := argsL) (rest := rest) (lenOf pd hn) hst (by show 2 * 0 + _ ≤ _; omega) (Jvm.hb C.2.2.1 hd) (fun _ _ => ⟨rfl, eT, hc, hs⟩)
  exact goOnW K w0 Kw C Hd N XB hS P S
end W5



/-! methods with an exception table whose walk throws nothing (the word codeWith), in the wide walk -/
section Hd
open Jvm.Free
variable {w : Nat} {l : Launch} {Z : State} {EL : List (String × Nat)} {n0 : Nat} {own nm : String} {code : ByteArray} {ml : Nat} {ret : Option FieldType} {R : Room} {Q : Option Value → Heap → List Addr → Prop} {D : List Addr} {h : Heap} {kc ks pc pc' : Nat} {ls : Array Slot} {st rest : List Value} {a0 : Array Value}
def ConH (w : Nat) (l : Launch) (Z : State) (EL : List (String × Nat)) (n0 : Nat) (y : MethodName) (code : ByteArray) (ml : Nat) (ret : Option FieldType) (hs : List (Nat × Nat × Nat × Nat)) (R : Room) (as' : Array Value) (D : List Addr) (h : Heap) (Q : Option Value → Heap → List Addr → Prop) : Prop :=
  ∀ ws : List Jvm.Cond, MetFree l y (head1 (Jvm.Cond.codeWith y code ml ret hs :: ws) R) (fun a U => a = as' ∧ Z.Warmed39 U.vm ∧ U.heap = h ∧ Old Z n0 h ∧ (∃ a0, EW Z a0 EL) ∧ CHv Z EL U.vm h ∧ ∀ x ∈ D, x < h.size ∧ Safe Z EL U.vm h x) (fun _ _ bl _ _ => Kn w Z bl) (fun _ U o U' => Done w Z EL n0 R Q U o U')
theorem ConH.of_runs {y : MethodName} {as' : Array Value} {hs : List (Nat × Nat × Nat × Nat)} (hp : plainFor y = true) (he : ∀ m, entryFrame m as' ml = mkF m 0 ls []) (K : Runs w l Z EL n0 y.cls y.name code ml ret R Q D h 0 0 0 ls []) : ConH w l Z EL n0 y code ml ret hs R as' D h Q := by
  intro ws
  refine MetFree.of_bodySF hp RoadKit.hisWith ?_
  intro p e s m args below meth c s₁ Bd hml0 hP hK
  obtain ⟨rfl, hZ, hh, hO, hE, hC, hD⟩ := hP
  have hnm := (name_of_methodNamed Bd.named Bd.method).1
  have hown : s.vm.findClass y.cls = some m.cls := findClass_of_methodNamed Bd.named
  have X0 : Stand p l e R s m args below meth c s₁ [] 0 0 := Stand.of_body Bd
  have e0 : s₁.heap = h := by rw [← hh, Bd.state]; rfl
  obtain ⟨s₂, o, S, r1, r2, r3⟩ := K p e s s.vm m args below meth c s₁ [] ⟨Bd.exec, hZ, Bd.bytes, hml0, hown, Bd.returns, Bd.notSynchronized, hnm, by show ThS Z s.heap; rw [hh]; exact ThS.start.ext hO.2⟩ X0 e0 (Fr.nil n0) hO
    ⟨by split; rfl; exact ⟨0, (State.WarmedH.refl s).since 0, Nat.zero_le _⟩, hE, by rw [← hh] at hC ⊢; exact CHr.refl hC, hD⟩ hK
  exact ⟨s₂, o, castTop (he m) S, r1, r2, r3⟩
/-- such a method's contract pays its call: from the caller's frame over the callee's end back to the caller's frame. (The library has this law over the word code, BackS.of_freeWG, and over codeWith for calls that intern nothing, Back.of_freeWith.) -/
theorem ConH.backW {p : Program} {e : Env} {s : State} {vm0 : Vm} {args : Array Value} {below : List Frame} {y : MethodName} {bytes : ByteArray} {maxL : Nat} {rt : Option FieldType} {hs : List (Nat × Nat × Nat × Nat)} {rm : Room} {as' : Array Value} {D0 : List Addr} {Q' : Option Value → Heap → List Addr → Prop} {len W : Nat}
    (w0 : w ≠ 0) (Kw : Kn w Z below) (H : ConH w l Z EL n0 y bytes maxL rt hs rm as' D0 h Q') (hO : Old Z n0 h) (hE : ∃ a0, EW Z a0 EL) (hC : CHv Z EL vm0 h) (hD : ∀ x ∈ D0, x < h.size ∧ Safe Z EL vm0 h x) (hZ : Z.Warmed39 vm0) (wc : (Cond.codeWith y bytes maxL rt hs).before a0 Z = true) (wz : (Cond.initialized y.cls).before a0 Z = true) (hf : rm.frames + 1 ≤ R.frames) (hl : W + (maxL + 11) + rm.locals ≤ R.locals) :
    BackS l R p e below (s.setVm vm0) args y len W (fun A a => a = as' ∧ A.U.heap = h ∧ A.cells + rm.cells ≤ R.cells ∧ A.slots + rm.slots ≤ R.slots)
      (fun A _ v B => ∃ L D', Q' v B.U.heap D' ∧ Old Z n0 B.U.heap ∧ Fr n0 L ∧ CHr Z EL vm0 h B.U.vm B.U.heap ∧ (∀ x ∈ D', x < B.U.heap.size ∧ Safe Z EL B.U.vm B.U.heap x) ∧ B.locs = A.locs ++ L ∧ B.cells = A.cells + rm.cells ∧ B.slots = A.slots + rm.slots) := by
  intro m meth c ⟨U, locs, k0, n0'⟩ g ig mk a Y hg hsz hd hW hn ⟨ha, hUh, hc, hsl⟩
  subst hg
  dsimp only [Pt.U, Pt.locs, Pt.cells, Pt.slots] at *
  obtain ⟨a1, hE1⟩ := id hE
  have hU : Z.Warmed39 U.vm := wtrans (s := s.setVm vm0) hZ Y.warmed
  have wcU : (Cond.codeWith y bytes maxL rt hs).before a U = true := mv hU wc
  obtain ⟨mY, methY, cY, q1, q2, q3, -, q4, -⟩ := Cond.codeWith_spec wcU
  cases hn.symm.trans q1
  obtain ⟨kY, hkY, -⟩ := className_of_methodNamed hn
  have hini := Cond.initialized_spec (findClass_of_methodNamed hn) hkY (mv (args := a) hU wz)
  have hAt : At U g.method c below := Y.here
  have happ : (head1 (Jvm.Cond.codeWith y bytes maxL rt hs :: []) rm).appliesLoose y e.platform (U.calling g mk a) = true :=
    Spec.appliesLoose_calling (g := g) hAt hd hn hkY hini (Y.room_calling (g := g) (R' := rm) hsz q2 q3 hf (by rw [q4]; omega) hc hsl) (by show (Cond.and _ .tt).before a U = true; rw [Cond.before_and, wcU]; rfl)
  obtain ⟨mid, hmid⟩ := hAt.above
  obtain ⟨o, V, hsteps, -, hend, hq⟩ := Steps.callFree (H []) p Y.admits Y.cas Y.clock (acts := []) (s := U.setTop g) (m := mk) (args := a) (mid := .java g :: mid) (below := below) (by rw [State.frames_setTop' g hAt.top, hmid]; rfl) happ
    ⟨ha, hU, hUh, hO, hE, (CHv.at Y hZ hE1 hC).1, fun x hx => ⟨(hD x hx).1, (CHv.at Y hZ hE1 hC).safe (hD x hx).1 (hD x hx).2⟩⟩
    (fun q => by
      have kk := known_frames Y rfl (Vm.MethodsKnown.alikeC hZ.alike (Kw q).1) (Vm.FramesKnown.alikeC hZ.alike (Kw q).2)
      exact ⟨Vm.MethodsKnown.alikeC hU.alike.symm kk.1, Vm.FramesKnown.alikeC hU.alike.symm kk.2⟩)
  obtain ⟨v, L, D', rfl, h2, h3, h4, h5, h6⟩ := hq
  have h6' : ReturnedEndW (U.calling g mk a) (.returned v) V L rm.cells rm.slots := by unfold En at h6; rw [if_neg w0] at h6; exact h6
  obtain ⟨-, hWv, hBv, eV, z2, z3, z4, z5, z6⟩ := id h6'
  have hWU : U.Warmed39 V.vm := hWv
  rw [State.frames_setTop' g hAt.top] at hend
  obtain ⟨c', i', len', hc', hd', hfV⟩ := hend
  obtain rfl : c' = c := Option.some.inj (hc'.symm.trans ((by rw [State.code?_eq, State.code?_eq, hWU.alike.method?] : V.code? g.method = U.code? g.method).trans hAt.code))
  obtain rfl : len' = len := by rw [hd] at hd'; cases hd'; rfl
  obtain ⟨g0, hg0⟩ := Option.isSome_iff_exists.mp hAt.top
  obtain ⟨r, hr⟩ := State.topJava?_eq_some.mp hg0
  obtain ⟨t, ht, -⟩ := State.frames_cons hr
  let N : State := { U with heap := V.heap, slotsUsed := V.slotsUsed }
  have hsame : U.sameButNew N L rm.cells rm.slots := ⟨by show N = { U.setFrames U.frames with heap := V.heap, slotsUsed := V.slotsUsed }; rw [State.setFrames_self ht], z2, z3, z4, z5, z6⟩
  have hV : V = (N.setVm V.vm).setTop { g with pc := g.pc + len', stack := v.toList ++ g.stack } := by
    have e1 : V = ({ (U.calling g mk a).setFrames V.frames with heap := V.heap, slotsUsed := V.slotsUsed } : State).setVm V.vm := by
      have e0 : V = ({ V with vm := (U.calling g mk a).vm } : State).setVm V.vm := rfl
      rw [eV] at e0
      exact e0
    have e2 : (N.setVm V.vm).frames = .java g0 :: r := hr
    refine e1.trans ?_
    rw [hfV, State.calling_eq hAt.top, State.setFrames_setFrames, State.setTop_of_frames _ e2, hr]
    rfl
  obtain ⟨X', hS⟩ := Y.movedW (T₂ := N.setVm V.vm) ((Y.here.setHeapUsed V.heap V.slotsUsed).setVm hWU.alike) Y.tail rfl rfl hWU hBv hsame
  refine ⟨v, ⟨N.setVm V.vm, locs ++ L, k0 + rm.cells, n0' + rm.slots⟩, X', hS, hsame.2.1, ⟨L, D', h2, h3, h4, (CHv.at Y hZ hE1 hC).trans ?_, h5.2, rfl, rfl, rfl⟩, ?_⟩
  · rw [← hUh]; exact h5.1
  · show Steps p.tables e below _ ((N.setVm V.vm).setTop { g with pc := g.pc + len', stack := v.toList ++ g.stack })
    rw [← hV]; exact hsteps
end Hd


/-! arrays of references, calls through interfaces, Class objects, tableswitch -/
section Rf
open Jvm.Free
variable {w : Nat} {l : Launch} {Z : State} {EL : List (String × Nat)} {n0 : Nat} {own nm : String} {code : ByteArray} {ml : Nat} {ret : Option FieldType} {R : Room} {Q : Option Value → Heap → List Addr → Prop} {D : List Addr} {h : Heap} {kc ks pc pc' : Nat} {ls : Array Slot} {st rest : List Value} {a0 : Array Value}
theorem Runs.newA {C : String} {index : Nat} {n : Int32} {cap : Nat} {ad : String} (hd : Ins code pc (.anewarray index) 3 pc') (w1 : (Cond.classLink own index C).before a0 Z = true) (w2 : (Cond.arrayOver (.object C)).before a0 Z = true) (hn : ¬ n < 0) (hcap : n.toNatClampNeg ≤ cap) (hb : cap * 8 ≤ 536870912) (hc : kc + 1 ≤ R.cells) (hl : ks + cap ≤ R.slots) (had : "[" ++ (FieldType.object C).toString = ad)
    (K : ∀ h' b k, h.size ≤ b → n0 ≤ b → Keep h h' [] → Arv Z h' b k (.object C) n [] .null → Exa Z h' b ad → RoadKit.Ovr Z k C → Runs w l Z EL n0 own nm code ml ret R Q (b :: D) h' (kc + 1) (ks + cap) pc' ls (.ref b :: rest)) : Runs w l Z EL n0 own nm code ml ret R Q D h kc ks pc ls (.int n :: rest) := by
  obtain ⟨hd, rfl⟩ := hd
  intro p e s vm0 m args below meth c T locs C' X eT N O H Kw
  obtain ⟨T', h1, cA, X', e1, E1, A1, x1, o1, S1⟩ := RoadKit.newRE X C'.1 C'.2.1 C'.2.2.2.2.1 w1 w2 eT (g := mkF m pc ls (.int n :: rest)) rfl (Jvm.hb C'.2.2.1 hd) rfl hn hcap hb hc hl had
  subst e1
  have hO : n0 ≤ h.size := by rw [← O.1]; exact O.2.1
  obtain ⟨s₂, o, S, r⟩ := K _ h.size cA (Nat.le_refl _) hO (keepE E1) (Arv.new A1 hn) x1 o1 p e s vm0 m args below meth c T' locs C' X' rfl N (O.ext E1) (H.more E1 (Nat.le_refl _) x1.lt) Kw
  exact ⟨s₂, o, S1 _ S, r⟩
theorem Runs.aastore {a : Addr} {k : ClassId} {ty : FieldType} {z j : Int32} {vs : List Value} {d v : Value} {i : Nat} (hd : Ins code pc .aastore 1 pc') (A : Arv Z h a k ty z vs d) (hty : ty.isReference = true) (hj : ¬ j < 0 ∧ j < z) (hi : j.toNatClampNeg = i) (hil : i < vs.length) (F : RoadKit.Sto Z h a v) (hv : fits ty v = true) (hg : n0 ≤ a) (hs : a ∈ D ∨ ty ≠ .byte)
    (K : ∀ h', Keep h h' [a] → Arv Z h' a k ty z (vs.set i v) d → Runs w l Z EL n0 own nm code ml ret R Q D h' kc ks pc' ls rest) : Runs w l Z EL n0 own nm code ml ret R Q D h kc ks pc ls (v :: .int j :: .ref a :: rest) := by
  obtain ⟨hd, rfl⟩ := hd
  refine Runs.write (P := fun h' => Arv Z h' a k ty z (vs.set i v) d) (one_ge hg) (safeA A hs) K fun p e s m args below meth c T locs Cx X eT Ol N => ?_
  obtain ⟨cl, A1, q1, S1, q, H1, G1⟩ := A
  obtain ⟨T', h1, X', e1, W1, st1⟩ := RoadKit.stR X Cx.1 Cx.2.1 eT A1 (inb_of S1 hj) hty F (g := mkF m pc ls (v :: .int j :: .ref a :: rest)) rfl rfl (Jvm.hb Cx.2.2.1 hd)
  subst e1
  exact ⟨T', _, X', Fr.snoc X' N hg, Keep.of_wr W1, Arv.set A1 q1 S1 q H1 G1 hv W1 i hi hil, st1⟩
theorem Runs.tsw {dflt low high : Int} {offs : Array Int} {len t nx : Nat} {o : Int} {i : Int32} (hd : Ins code pc (.tableswitch dflt low high offs) len nx) (hin : ¬ (i.toInt < low ∨ i.toInt > high)) (hoff : offs[(i.toInt - low).toNat]? = some o) (hj : Jmp pc o t) (K : Runs w l Z EL n0 own nm code ml ret R Q D h kc ks t ls rest) : Runs w l Z EL n0 own nm code ml ret R Q D h kc ks pc ls (.int i :: rest) :=
  K.plain fun p e m below c T tg hx hb X S => XS.tswIn (g := mkF m pc ls (.int i :: rest)) X hx rfl (pc0 := pc) rfl (Jvm.hb hb hd.1) rfl hin hoff hj.1 hj.2 S
/-- getClass of an object that is exactly a C -/
theorem Runs.gcls {C : String} {index W : Nat} {a mr : Addr} (hd : Ins code pc (.invokevirtual index) 3 pc') (w1 : (Cond.methodLink own index ⟨"java/lang/Object", "getClass", "()Ljava/lang/Class;"⟩).before a0 Z = true) (w2 : (Cond.declares ⟨"java/lang/Object", "getClass", "()Ljava/lang/Class;"⟩).before a0 Z = true) (w3 : (Cond.noSuperclass "java/lang/Object").before a0 Z = true) (w4 : (Cond.selects C ⟨"java/lang/Object", "getClass", "()Ljava/lang/Class;"⟩ ⟨"java/lang/Object", "getClass", "()Ljava/lang/Class;"⟩).before a0 Z = true)
    (w5 : (Cond.instanceMethod ⟨"java/lang/Object", "getClass", "()Ljava/lang/Class;"⟩).before a0 Z = true) (w6 : (Cond.native ⟨"java/lang/Object", "getClass", "()Ljava/lang/Class;"⟩).before a0 Z = true) (E : Exa Z h a C) (M : RoadKit.Mir Z C mr) (hls : ls.size = ml) (hf : 1 ≤ R.frames) (hW : (rest.map fun v => v.category).sum = W) (hl : W + (nativeFrameWords "java/lang/Object" "getClass" 1 + 11) ≤ R.locals)
    (K : Runs w l Z EL n0 own nm code ml ret R Q D h kc ks pc' ls (.ref mr :: rest)) : Runs w l Z EL n0 own nm code ml ret R Q D h kc ks pc ls (.ref a :: rest) := by
  obtain ⟨hd, rfl⟩ := hd
  exact K.warm fun p e s m args below meth c T locs C' X eT O => RoadKit.gcls X C'.1 C'.2.1 C'.2.2.2.2.1 w1 w2 w3 w4 w5 w6 eT E M (g := mkF m pc ls (.ref a :: rest)) rfl (by rw [C'.2.2.2.1]; exact hls) rfl (Jvm.hb C'.2.2.1 hd) hf (W := W) (by show 2 * 0 + _ ≤ _; omega) hl
/-- ldc of a class whose Class object has been made -/
theorem Runs.ldcMir {C : String} {index : Nat} {mr : Addr} (hd : Ins code pc (.ldc index) 2 pc') (w1 : (Cond.classLink own index C).before a0 Z = true) (M : RoadKit.Mir Z C mr) (K : Runs w l Z EL n0 own nm code ml ret R Q D h kc ks pc' ls (.ref mr :: st)) : Runs w l Z EL n0 own nm code ml ret R Q D h kc ks pc ls st := by
  obtain ⟨hd, rfl⟩ := hd
  exact K.warm fun p e s m args below meth c T locs C' X eT O => by
    obtain ⟨cc, kk, m1, m2, m3, -⟩ := M
    obtain ⟨k', q, ek⟩ := C'.2.1.alike.2.2 _ _ m2
    have hev : (Term.mirror C).eval args s none [] s = some (.ref mr) := by
      simp only [Term.eval, Option.bind_eq_bind, Option.bind_eq_some_iff, Option.pure_def, Option.some.injEq]
      exact ⟨cc, by rw [C'.2.1.alike.findClass]; exact m1, k', q, mr, by rw [ek]; exact m3, rfl⟩
    obtain ⟨vm', X', st'⟩ := X.ldcMirror C'.1 C'.2.2.2.2.1 (mv C'.2.1 w1) hev (g := mkF m pc ls st) rfl (Jvm.hb C'.2.2.1 hd)
    exact ⟨_, X', eT, st'⟩
/-- System.arraycopy of references -/
theorem Runs.acopyR {index W : Nat} {a b : Addr} {k k' : ClassId} {ty ty' : FieldType} {z z' sp dp nn : Int32} {vs vd us : List Value} {dv dd : Value} (hd : Ins code pc (.invokestatic index) 3 pc')
    (w1 : (Cond.methodLink own index Jvm.Stand.acN).before a0 Z = true) (w2 : (Cond.native Jvm.Stand.acN).before a0 Z = true) (w3 : (Cond.static Jvm.Stand.acN).before a0 Z = true) (w4 : (Cond.initialized "java/lang/System").before a0 Z = true)
    (A : Arv Z h a k ty z vs dv) (B : Arv Z h b k' ty' z' vd dd) (hty : refKind ty = true ∧ refKind ty' = true ∧ RoadKit.StoL Z h b us) (h1 : ¬ sp < 0) (h2 : ¬ dp < 0) (h3 : ¬ nn < 0) (h4 : sp.toNatClampNeg + nn.toNatClampNeg ≤ z.toNatClampNeg) (h5 : dp.toNatClampNeg + nn.toNatClampNeg ≤ z'.toNatClampNeg)
    (hus : us = (List.range nn.toNatClampNeg).map fun i => vs.getD (sp.toNatClampNeg + i) dv) (hlv : dp.toNatClampNeg + nn.toNatClampNeg ≤ vd.length) (hg : n0 ≤ b) (hs : b ∈ D ∨ ty' ≠ .byte) (hls : ls.size = ml) (hf : 1 ≤ R.frames) (hW : (rest.map fun v => v.category).sum = W) (hlo : W + (nativeFrameWords "java/lang/System" "arraycopy" 5 + 11) ≤ R.locals)
    (K : ∀ h', Keep h h' [b] → Arv Z h' b k' ty' z' (vd.take dp.toNatClampNeg ++ us ++ vd.drop (dp.toNatClampNeg + nn.toNatClampNeg)) dd → Runs w l Z EL n0 own nm code ml ret R Q D h' kc ks pc' ls rest) : Runs w l Z EL n0 own nm code ml ret R Q D h kc ks pc ls (.int nn :: .int dp :: .ref b :: .int sp :: .ref a :: rest) := by
  obtain ⟨hd, rfl⟩ := hd
  refine Runs.write (P := fun h' => Arv Z h' b k' ty' z' (vd.take dp.toNatClampNeg ++ us ++ vd.drop (dp.toNatClampNeg + nn.toNatClampNeg)) dd) (one_ge hg) (safeA B hs) K fun p e s m args below meth c T locs C X eT Ol N => ?_
  obtain ⟨T', h1', L', X', e1, N', K', A', S'⟩ := cpA X C.1 C.2.1 C.2.2.2.2.1 w1 w2 w3 w4 eT A B (Or.inr hty) h1 h2 h3 h4 h5 hus hlv N hg (g := mkF m pc ls (.int nn :: .int dp :: .ref b :: .int sp :: .ref a :: rest)) rfl (by rw [C.2.2.2.1]; exact hls) rfl (Jvm.hb C.2.2.1 hd) hf (W := W) (by show 2 * 0 + _ ≤ _; omega) hlo
  subst e1
  exact ⟨T', L', X', N', K', A', S'⟩
/-- a call through an interface -/
theorem Runs.callIW {xi z : MethodName} {index count : Nat} {CC : String} {bytes : ByteArray} {maxL : Nat} {rt : Option FieldType} {rm : Room} {b : Addr} {argsL : List Value} {Q' : Option Value → Heap → List Addr → Prop} {W : Nat} {ps : List FieldType} {rr : Option FieldType}
    (hd : Ins code pc (.invokeinterface index count) 5 pc') (w1 : (Cond.methodLink own index xi).before a0 Z = true) (w2 : (Cond.declares xi).before a0 Z = true) (w3 : (Cond.interfaceMethod xi.cls xi.cls xi.name xi.desc).before a0 Z = true) (w4 : (Cond.selects CC xi z).before a0 Z = true) (w5 : (Cond.instanceMethod z).before a0 Z = true) (w6 : (Cond.publicMethod z).before a0 Z = true) (w7 : (Cond.unhidden CC xi.name xi.desc).before a0 Z = true) (w8 : (Cond.castable CC xi.cls).before a0 Z = true) (wc : (Cond.code z bytes maxL rt).before a0 Z = true) (wz : (Cond.initialized z.cls).before a0 Z = true) (hy : xi.cls ≠ "java/lang/invoke/MethodHandle" ∧ xi.cls ≠ "java/lang/invoke/VarHandle")
    (E : Exa Z h b CC) (pd : parseMethodDescriptor xi.desc = some ⟨ps, rr⟩) (hn : argsL.length = ps.length) (hls : ls.size = ml) (hst : st = argsL.reverse ++ .ref b :: rest) (hW : (rest.map fun v => v.category).sum = W) (hf : rm.frames + 1 ≤ R.frames) (hl : W + (maxL + 11) + rm.locals ≤ R.locals) (hc : kc + rm.cells ≤ R.cells) (hs : ks + rm.slots ≤ R.slots)
    {D0 : List Addr} (hD0 : ∀ x ∈ D0, x ∈ D) (w0 : w ≠ 0) (H : Con w l Z EL n0 z bytes maxL rt rm (.ref b :: argsL).toArray D0 h Q')
    (K : ∀ v h' D', Q' v h' D' → h.size ≤ h'.size → Runs w l Z EL n0 own nm code ml ret R Q (D' ++ D) h' (kc + rm.cells) (ks + rm.slots) pc' ls (v.toList ++ rest)) : Runs w l Z EL n0 own nm code ml ret R Q D h kc ks pc ls st := by
  obtain ⟨hd, rfl⟩ := hd
  intro p e s vm0 m args below meth c T locs C X eT N O Hd Kw
  obtain ⟨cB, kB, q1, q2, q3⟩ := isOf C.2.1 eT E
  obtain ⟨v, vm₁, B, -, XB, hS, -, P, S⟩ := X.interfaceBackS C.1 (xi := xi) (y := z) C.2.2.2.2.1 (mvT C.2.1 w1) (mvT C.2.1 w2) (mvT C.2.1 w3 (by simp [Cond.onTables, Cond.keepsFace, Cond.keeps, Cond.steady, Cond.faceAtom]; exact hy)) (mvT C.2.1 w4) (mvT C.2.1 w5) (mvT C.2.1 w6) (mvT C.2.1 w7 (by first | rfl | simp [Cond.onTables, Cond.keepsFace, Cond.keeps, Cond.steady, Cond.faceAtom])) (mvT C.2.1 w8) hy (H.backW w0 Kw (W := W) O Hd.2.1 Hd.2.2.1.1 (fun x hx => Hd.2.2.2 x (hD0 x hx)) C.2.1 wc wz hf hl) q1 q2 q3 (g := mkF m pc ls st) rfl (by rw [C.2.2.2.1]; exact hls) (Steps.refl _) (argsL := argsL) (rest := rest) (lenOf pd hn) hst (by show 2 * 0 + _ ≤ _; omega) (Jvm.hb C.2.2.1 hd) (fun _ _ => ⟨rfl, eT, hc, hs⟩)
  exact goOnW K w0 Kw C Hd N XB hS P S
theorem Runs.callIH {xi z : MethodName} {index count : Nat} {CC : String} {bytes : ByteArray} {maxL : Nat} {rt : Option FieldType} {hs' : List (Nat × Nat × Nat × Nat)} {rm : Room} {b : Addr} {argsL : List Value} {Q' : Option Value → Heap → List Addr → Prop} {W : Nat} {ps : List FieldType} {rr : Option FieldType}
    (hd : Ins code pc (.invokeinterface index count) 5 pc') (w1 : (Cond.methodLink own index xi).before a0 Z = true) (w2 : (Cond.declares xi).before a0 Z = true) (w3 : (Cond.interfaceMethod xi.cls xi.cls xi.name xi.desc).before a0 Z = true) (w4 : (Cond.selects CC xi z).before a0 Z = true) (w5 : (Cond.instanceMethod z).before a0 Z = true) (w6 : (Cond.publicMethod z).before a0 Z = true) (w7 : (Cond.unhidden CC xi.name xi.desc).before a0 Z = true) (w8 : (Cond.castable CC xi.cls).before a0 Z = true) (wc : (Cond.codeWith z bytes maxL rt hs').before a0 Z = true) (wz : (Cond.initialized z.cls).before a0 Z = true) (hy : xi.cls ≠ "java/lang/invoke/MethodHandle" ∧ xi.cls ≠ "java/lang/invoke/VarHandle")
    (E : Exa Z h b CC) (pd : parseMethodDescriptor xi.desc = some ⟨ps, rr⟩) (hn : argsL.length = ps.length) (hls : ls.size = ml) (hst : st = argsL.reverse ++ .ref b :: rest) (hW : (rest.map fun v => v.category).sum = W) (hf : rm.frames + 1 ≤ R.frames) (hl : W + (maxL + 11) + rm.locals ≤ R.locals) (hc : kc + rm.cells ≤ R.cells) (hs : ks + rm.slots ≤ R.slots)
    {D0 : List Addr} (hD0 : ∀ x ∈ D0, x ∈ D) (w0 : w ≠ 0) (H : ConH w l Z EL n0 z bytes maxL rt hs' rm (.ref b :: argsL).toArray D0 h Q')
    (K : ∀ v h' D', Q' v h' D' → h.size ≤ h'.size → Runs w l Z EL n0 own nm code ml ret R Q (D' ++ D) h' (kc + rm.cells) (ks + rm.slots) pc' ls (v.toList ++ rest)) : Runs w l Z EL n0 own nm code ml ret R Q D h kc ks pc ls st := by
  obtain ⟨hd, rfl⟩ := hd
  intro p e s vm0 m args below meth c T locs C X eT N O Hd Kw
  obtain ⟨cB, kB, q1, q2, q3⟩ := isOf C.2.1 eT E
  obtain ⟨v, vm₁, B, -, XB, hS, -, P, S⟩ := X.interfaceBackS C.1 (xi := xi) (y := z) C.2.2.2.2.1 (mvT C.2.1 w1) (mvT C.2.1 w2) (mvT C.2.1 w3 (by simp [Cond.onTables, Cond.keepsFace, Cond.keeps, Cond.steady, Cond.faceAtom]; exact hy)) (mvT C.2.1 w4) (mvT C.2.1 w5) (mvT C.2.1 w6) (mvT C.2.1 w7 (by first | rfl | simp [Cond.onTables, Cond.keepsFace, Cond.keeps, Cond.steady, Cond.faceAtom])) (mvT C.2.1 w8) hy (H.backW w0 Kw (W := W) O Hd.2.1 Hd.2.2.1.1 (fun x hx => Hd.2.2.2 x (hD0 x hx)) C.2.1 wc wz hf hl) q1 q2 q3 (g := mkF m pc ls st) rfl (by rw [C.2.2.2.1]; exact hls) (Steps.refl _) (argsL := argsL) (rest := rest) (lenOf pd hn) hst (by show 2 * 0 + _ ≤ _; omega) (Jvm.hb C.2.2.1 hd) (fun _ _ => ⟨rfl, eT, hc, hs⟩)
  exact goOnW K w0 Kw C Hd N XB hS P S
end Rf

end Jvm.OwnW
namespace Jvm.Pilot.@@N@@
open Jvm Jvm.ClassFile Sem Op Lib Jvm.Free Jvm.Stand Jvm.LawKit Jvm.RoadKit Bundle Jvm.OwnW Jvm.Pilot.@@N@@.Jvm.D
abbrev m6_ : MethodName := ⟨"java/lang/StringLatin1", "canEncode", "(C)Z"⟩
abbrev m9_ : MethodName := ⟨"java/util/ArrayList", "add", "(Ljava/lang/Object;)Z"⟩
abbrev m10_ : MethodName := ⟨"java/util/ArrayList", "add", "(Ljava/lang/Object;[Ljava/lang/Object;I)V"⟩
abbrev m14_ : MethodName := ⟨"com/example/gatewarden/gatewarden/model/Client", "<init>", "(Ljava/lang/String;Ljava/lang/String;Ljava/lang/String;Ljava/util/List;Z)V"⟩
abbrev m16_ : MethodName := ⟨"java/util/List", "copyOf", "(Ljava/util/Collection;)Ljava/util/List;"⟩
abbrev m17_ : MethodName := ⟨"java/util/ImmutableCollections", "listCopy", "(Ljava/util/Collection;)Ljava/util/List;"⟩
abbrev m18_ : MethodName := ⟨"java/util/ArrayList", "isEmpty", "()Z"⟩
abbrev m19_ : MethodName := ⟨"java/util/ArrayList", "toArray", "()[Ljava/lang/Object;"⟩
abbrev m20_ : MethodName := ⟨"java/util/Arrays", "copyOf", "([Ljava/lang/Object;I)[Ljava/lang/Object;"⟩
abbrev m21_ : MethodName := ⟨"java/util/Arrays", "copyOf", "([Ljava/lang/Object;ILjava/lang/Class;)[Ljava/lang/Object;"⟩
abbrev m23_ : MethodName := ⟨"java/util/List", "of", "([Ljava/lang/Object;)Ljava/util/List;"⟩
abbrev m31_ : MethodName := ⟨"java/lang/StringBuilder", "append", "(Ljava/lang/String;)Ljava/lang/StringBuilder;"⟩
abbrev m32_ : MethodName := ⟨"java/lang/AbstractStringBuilder", "append", "(Ljava/lang/String;)Ljava/lang/AbstractStringBuilder;"⟩
abbrev m33_ : MethodName := ⟨"java/lang/String", "length", "()I"⟩
abbrev m34_ : MethodName := ⟨"java/lang/String", "coder", "()B"⟩
abbrev m35_ : MethodName := ⟨"java/lang/AbstractStringBuilder", "ensureCapacityInternal", "(I)V"⟩
abbrev m36_ : MethodName := ⟨"java/lang/AbstractStringBuilder", "putStringAt", "(ILjava/lang/String;)V"⟩
abbrev m37_ : MethodName := ⟨"java/lang/AbstractStringBuilder", "inflateIfNeededFor", "(Ljava/lang/String;)V"⟩
abbrev m38_ : MethodName := ⟨"java/lang/String", "getBytes", "([BIB)V"⟩
abbrev m39_ : MethodName := ⟨"java/lang/AbstractStringBuilder", "newCapacity", "(I)I"⟩
abbrev m42_ : MethodName := ⟨"java/lang/StringBuilder", "append", "(Ljava/lang/Object;)Ljava/lang/StringBuilder;"⟩
abbrev m43_ : MethodName := ⟨"java/lang/String", "valueOf", "(Ljava/lang/Object;)Ljava/lang/String;"⟩
abbrev m44_ : MethodName := ⟨"java/util/AbstractCollection", "toString", "()Ljava/lang/String;"⟩
abbrev m45_ : MethodName := ⟨"java/util/ImmutableCollections$AbstractImmutableList", "iterator", "()Ljava/util/Iterator;"⟩
abbrev m46_ : MethodName := ⟨"java/util/ImmutableCollections$List12", "size", "()I"⟩
abbrev m48_ : MethodName := ⟨"java/util/ImmutableCollections$ListItr", "hasNext", "()Z"⟩
abbrev m50_ : MethodName := ⟨"java/lang/AbstractStringBuilder", "append", "(C)Ljava/lang/AbstractStringBuilder;"⟩
abbrev m51_ : MethodName := ⟨"java/lang/AbstractStringBuilder", "isLatin1", "()Z"⟩
abbrev m52_ : MethodName := ⟨"java/util/ImmutableCollections$ListItr", "next", "()Ljava/lang/Object;"⟩
abbrev m53_ : MethodName := ⟨"java/util/ImmutableCollections$List12", "get", "(I)Ljava/lang/Object;"⟩
abbrev m57_ : MethodName := ⟨"java/lang/String", "<init>", "(Ljava/lang/AbstractStringBuilder;Ljava/lang/Void;)V"⟩
abbrev m58_ : MethodName := ⟨"java/lang/AbstractStringBuilder", "getValue", "()[B"⟩
abbrev m59_ : MethodName := ⟨"java/lang/StringBuilder", "length", "()I"⟩
abbrev m60_ : MethodName := ⟨"java/lang/AbstractStringBuilder", "length", "()I"⟩
abbrev m61_ : MethodName := ⟨"java/util/Arrays", "copyOfRange", "([BII)[B"⟩
abbrev m64_ : MethodName := ⟨"java/lang/StringBuilder", "append", "(Z)Ljava/lang/StringBuilder;"⟩
abbrev m65_ : MethodName := ⟨"java/lang/AbstractStringBuilder", "append", "(Z)Ljava/lang/AbstractStringBuilder;"⟩
abbrev m66_ : MethodName := ⟨"java/lang/String", "charAt", "(I)C"⟩
abbrev m67_ : MethodName := ⟨"java/lang/String", "isLatin1", "()Z"⟩
abbrev m76_ : MethodName := ⟨"java/lang/AbstractStringBuilder", "inflate", "()V"⟩
abbrev m79_ : MethodName := ⟨"java/lang/StringLatin1", "inflate", "([BI[BII)V"⟩
abbrev m80_ : MethodName := ⟨"java/lang/StringUTF16", "inflate", "([BI[BII)V"⟩
abbrev m81_ : MethodName := ⟨"java/lang/StringUTF16", "checkBoundsOffCount", "(II[B)V"⟩
abbrev m83_ : MethodName := ⟨"java/lang/String", "checkBoundsOffCount", "(III)I"⟩
abbrev m84_ : MethodName := ⟨"jdk/internal/util/Preconditions", "checkFromIndexSize", "(IIILjava/util/function/BiFunction;)I"⟩
abbrev S1_ : String := "com/example/gatewarden/gatewarden/model/Client"
abbrev S2_ : String := "java/lang/AbstractStringBuilder"
abbrev S3_ : String := "java/util/ImmutableCollections$ListItr"
abbrev S4_ : String := "java/util/ImmutableCollections$List12"
abbrev S5_ : String := "java/util/ArrayList"
abbrev S6_ : String := "java/lang/String"
abbrev S7_ : String := "[Ljava/lang/Object;"
abbrev S8_ : String := "java/lang/Object"
abbrev S9_ : String := "Ljava/lang/Object;"
abbrev S10_ : String := "java/lang/StringBuilder"
abbrev S11_ : String := "Ljava/lang/String;"
abbrev S12_ : String := "java/util/ImmutableCollections"
abbrev S13_ : String := "java/util/AbstractList"
abbrev S14_ : String := "com/example/gatewarden/gatewarden/model/ClientToStringPinLaw"
abbrev S15_ : String := "java/util/ImmutableCollections$ListN"
abbrev S16_ : String := "Ljava/util/List;"
abbrev S17_ : String := "java/lang/StringUTF16"
abbrev S18_ : String := "elementData"
abbrev S19_ : String := "Ljava/util/ImmutableCollections$ListN;"
abbrev S20_ : String := "DEFAULTCAPACITY_EMPTY_ELEMENTDATA"
abbrev S21_ : String := "maybeLatin1"
abbrev S22_ : String := "isListIterator"
abbrev S23_ : String := "offlineAccess"
abbrev S24_ : String := "clientSecret"
abbrev S25_ : String := "redirectUris"
abbrev S26_ : String := "java/util/List"
abbrev S27_ : String := "modCount"
set_option maxRecDepth 65536
set_option maxHeartbeats 4000000
abbrev vi (x : Int32) : Slot := .val (.int x)
abbrev vr (x : Addr) : Slot := .val (.ref x)
theorem mi {α : Type} {l : List α} {a : α} (i : Nat) (h : l[i]? = some a) : a ∈ l := List.mem_of_getElem? h
abbrev EL_ : List (String × Nat) := [(S1_, 58), (S1_, 64), (S1_, 66), (S1_, 71), (S1_, 76), (S14_, 44), (S14_, 46), (S14_, 48), (S14_, 54), (S14_, 56), (S14_, 58), ("java/util/AbstractCollection", 92)]
abbrev SC (Z : State) (cpt : Int32) : Prop := Sta Z Z.heap S6_ "COMPACT_STRINGS" "Z" (.int cpt)
abbrev SA (Z : State) : Prop := Sta Z Z.heap S17_ "$assertionsDisabled" "Z" (.int 1)
abbrev SH (Z : State) : Prop := Sta Z Z.heap S17_ "HI_BYTE_SHIFT" "I" (.int 0)
abbrev SL (Z : State) : Prop := Sta Z Z.heap S17_ "LO_BYTE_SHIFT" "I" (.int 8)
abbrev SF (Z : State) (fm : Value) : Prop := Sta Z Z.heap "jdk/internal/util/Preconditions" "SIOOBE_FORMATTER" "Ljava/util/function/BiFunction;" fm
abbrev c1_ := jdk_38_method_2_code
abbrev c2_ := jdk_39_method_1_code
abbrev c3_ := jdk_22_method_1_code
abbrev c5_ := jdk_42_method_139_code
abbrev c6_ := jdk_43_method_3_code
abbrev c7_ := jdk_43_method_46_code
abbrev c8_ := jdk_42_method_151_code
abbrev c9_ := jdk_38_method_25_code
abbrev c10_ := jdk_38_method_24_code
abbrev c11_ := jdk_38_method_7_code
abbrev c12_ := jdk_38_method_6_code
abbrev c13_ := jdk_29_method_65_code
abbrev c14_ := prog_23_method_1_code
abbrev c15_ := jdk_30_method_1_code
abbrev c16_ := jdk_40_method_48_code
abbrev c17_ := jdk_56_method_3_code
abbrev c18_ := jdk_38_method_9_code
abbrev c19_ := jdk_38_method_16_code
abbrev c20_ := jdk_65_method_119_code
abbrev c21_ := jdk_65_method_120_code
abbrev c22_ := jdk_29_method_69_code
abbrev c23_ := jdk_40_method_47_code
abbrev c24_ := jdk_44_method_1_code
abbrev c25_ := jdk_46_method_1_code
abbrev c26_ := jdk_47_method_1_code
abbrev c27_ := jdk_31_method_10_code
abbrev c28_ := prog_23_method_3_code
abbrev c29_ := jdk_67_method_1_code
abbrev c30_ := jdk_68_method_2_code
abbrev c31_ := jdk_67_method_7_code
abbrev c32_ := jdk_68_method_22_code
abbrev c33_ := jdk_42_method_54_code
abbrev c34_ := jdk_42_method_152_code
abbrev c35_ := jdk_68_method_9_code
abbrev c36_ := jdk_68_method_73_code
abbrev c37_ := jdk_68_method_71_code
abbrev c38_ := jdk_42_method_147_code
abbrev c39_ := jdk_68_method_10_code
abbrev c40_ := jdk_48_method_27_code
abbrev c41_ := jdk_65_method_121_code
abbrev c42_ := jdk_67_method_6_code
abbrev c43_ := jdk_42_method_133_code
abbrev c44_ := jdk_22_method_16_code
abbrev c45_ := jdk_46_method_10_code
abbrev c46_ := jdk_44_method_3_code
abbrev c47_ := jdk_53_method_1_code
abbrev c48_ := jdk_53_method_3_code
abbrev c49_ := jdk_67_method_14_code
abbrev c50_ := jdk_68_method_31_code
abbrev c51_ := jdk_68_method_68_code
abbrev c52_ := jdk_53_method_4_code
abbrev c53_ := jdk_44_method_5_code
abbrev c54_ := jdk_42_method_126_code
abbrev c55_ := jdk_67_method_42_code
abbrev c56_ := jdk_42_method_53_code
abbrev c57_ := jdk_42_method_150_code
abbrev c58_ := jdk_68_method_64_code
abbrev c59_ := jdk_67_method_93_code
abbrev c60_ := jdk_68_method_6_code
abbrev c61_ := jdk_65_method_132_code
abbrev c62_ := jdk_65_method_133_code
abbrev c63_ := jdk_65_method_131_code
abbrev c64_ := jdk_67_method_13_code
abbrev c65_ := jdk_68_method_30_code
abbrev c66_ := jdk_42_method_56_code
abbrev c67_ := jdk_42_method_154_code
abbrev c68_ := jdk_43_method_2_code
abbrev c69_ := jdk_42_method_155_code
abbrev c70_ := jdk_41_method_11_code
abbrev c71_ := method_3_code
abbrev c72_ := method_2_code
abbrev c73_ := jdk_52_method_24_code
abbrev c74_ := jdk_52_method_4_code
abbrev c75_ := jdk_40_method_36_code
abbrev c76_ := jdk_68_method_11_code
abbrev c77_ := jdk_52_method_2_code
abbrev c78_ := jdk_52_method_3_code
abbrev c79_ := jdk_43_method_50_code
abbrev c80_ := jdk_52_method_86_code
abbrev c81_ := jdk_52_method_94_code
abbrev c82_ := jdk_52_method_6_code
abbrev c83_ := jdk_42_method_157_code
abbrev c84_ := jdk_41_method_13_code
abbrev c85_ := jdk_45_method_3_code
abbrev c86_ := jdk_52_method_81_code
abbrev c87_ := jdk_52_method_93_code
abbrev c88_ := jdk_42_method_158_code
abbrev c89_ := jdk_41_method_12_code
abbrev c90_ := jdk_52_method_83_code
abbrev c91_ := jdk_52_method_91_code
abbrev c92_ := jdk_52_method_5_code
abbrev c93_ := jdk_52_method_82_code
abbrev c94_ := jdk_52_method_71_code
abbrev c95_ := jdk_44_method_2_code
abbrev Wds (Z : State) (a0 : Array Value) : Prop := ∀ d ∈ tables_1, d.before a0 Z = true
abbrev Al (code : ByteArray) (L : List (Nat × Instr × Nat × Nat)) : Prop := ∀ x ∈ L, decode code x.1 = .ok (x.2.1, x.2.2.1) ∧ x.1 + x.2.2.1 = x.2.2.2
theorem g {code : ByteArray} {L : List (Nat × Instr × Nat × Nat)} (h : Al code L) (k : Nat) {pc : Nat} {i : Instr} {n nx : Nat} (e : L[k]? = some (pc, i, n, nx)) : Ins code pc i n nx := by
 have q := h (pc, i, n, nx) (List.mem_of_getElem? e)
 exact ⟨q.1, q.2⟩
theorem wd {Z : State} {a0 : Array Value} (hw : Wds Z a0) (i : Nat) {d : Jvm.Cond} (e : tables_1[i]? = some d) : d.before a0 Z = true := hw _ (List.mem_of_getElem? e)
def pad : Nat → List Value → List Slot
 | 0, _ => []
 | n + 1, [] => .unset :: pad n []
 | n + 1, v :: vs => .val v :: pad n vs
theorem pad_eq : ∀ (n : Nat) (vs : List Value), vs.length ≤ n → pad n vs = vs.map Slot.val ++ List.replicate (n - vs.length) Slot.unset
 | 0, [], _ => rfl
 | n + 1, [], _ => by rw [pad, pad_eq n [] (Nat.zero_le _)]; simp [List.replicate_succ]
 | n + 1, v :: vs, h => by rw [pad, pad_eq n vs (Nat.le_of_succ_le_succ h)]; simp
theorem fill_eq : ∀ (vs : List Value) (acc : Array Slot), vs.all (fun v => v.category != 2) = true → vs.foldl (fun acc v => if v.category = 2 then (acc.push (.val v)).push .second else acc.push (.val v)) acc = acc ++ (vs.map Slot.val).toArray
 | [], acc, _ => by simp
 | v :: vs, acc, h => by
  rw [List.all_cons, Bool.and_eq_true] at h
  rw [List.foldl_cons, if_neg (by simpa using h.1), fill_eq vs _ h.2]; simp
theorem ef {vs : List Value} {n : Nat} (hc : vs.all (fun v => v.category != 2) = true) (hl : Nat.ble vs.length n = true) (m : MethodId) : entryFrame m vs.toArray n = mkF m 0 (pad n vs).toArray [] := by
 rw [pad_eq n vs (Nat.le_of_ble_eq_true hl)]
 simp only [entryFrame, argsToLocals, List.foldl_toArray', List.size_toArray, fill_eq vs #[] hc]
 simp
variable (l : Launch) (Z : State) (a0 : Array Value)
theorem lay_0 {Z : State} {a0 : Array Value} (hw : Wds Z a0) : LayD Z a0 S6_ [(S6_, "value", "[B", .null), (S6_, "coder", "B", (.int 0))] := ⟨fun f hf => by
 simp only [List.mem_cons, List.not_mem_nil, or_false] at hf
 rcases hf with rfl | rfl
 · exact ⟨Or.inr (wd hw 48 rfl), (.array .byte), by decide, rfl⟩
 · exact ⟨Or.inr (wd hw 50 rfl), .byte, by decide, rfl⟩, by decide⟩
theorem lay_1 {Z : State} {a0 : Array Value} (hw : Wds Z a0) : LayD Z a0 S3_ [(S3_, "list", S16_, .null), (S3_, "size", "I", (.int 0)), (S3_, "cursor", "I", (.int 0)), (S3_, S22_, "Z", (.int 0))] := ⟨fun f hf => by
 simp only [List.mem_cons, List.not_mem_nil, or_false] at hf
 rcases hf with rfl | rfl | rfl | rfl
 · exact ⟨Or.inr (wd hw 311 rfl), (.object S26_), by decide, rfl⟩
 · exact ⟨Or.inr (wd hw 313 rfl), .int, by decide, rfl⟩
 · exact ⟨Or.inl (wd hw 315 rfl), .int, by decide, rfl⟩
 · exact ⟨Or.inr (wd hw 317 rfl), .boolean, by decide, rfl⟩, by decide⟩
theorem lay_2 {Z : State} {a0 : Array Value} (hw : Wds Z a0) : LayD Z a0 S10_ [(S2_, "value", "[B", .null), (S2_, "coder", "B", (.int 0)), (S2_, "count", "I", (.int 0)), (S2_, S21_, "Z", (.int 0))] := ⟨fun f hf => by
 simp only [List.mem_cons, List.not_mem_nil, or_false] at hf
 rcases hf with rfl | rfl | rfl | rfl
 · exact ⟨Or.inl (wd hw 210 rfl), (.array .byte), by decide, rfl⟩
 · exact ⟨Or.inl (wd hw 212 rfl), .byte, by decide, rfl⟩
 · exact ⟨Or.inl (wd hw 237 rfl), .int, by decide, rfl⟩
 · exact ⟨Or.inl (wd hw 525 rfl), .boolean, by decide, rfl⟩, by decide⟩
theorem lay_3 {Z : State} {a0 : Array Value} (hw : Wds Z a0) : LayD Z a0 S5_ [(S13_, S27_, "I", (.int 0)), (S5_, S18_, S7_, .null), (S5_, "size", "I", (.int 0))] := ⟨fun f hf => by
 simp only [List.mem_cons, List.not_mem_nil, or_false] at hf
 rcases hf with rfl | rfl | rfl
 · exact ⟨Or.inl (wd hw 23 rfl), .int, by decide, rfl⟩
 · exact ⟨Or.inl (wd hw 26 rfl), (.array (.object S8_)), by decide, rfl⟩
 · exact ⟨Or.inl (wd hw 59 rfl), .int, by decide, rfl⟩, by decide⟩
theorem lay_4 {Z : State} {a0 : Array Value} (hw : Wds Z a0) : LayD Z a0 S1_ [(S1_, "clientId", S11_, .null), (S1_, "clientName", S11_, .null), (S1_, S24_, S11_, .null), (S1_, S25_, S16_, .null), (S1_, S23_, "Z", (.int 0))] := ⟨fun f hf => by
 simp only [List.mem_cons, List.not_mem_nil, or_false] at hf
 rcases hf with rfl | rfl | rfl | rfl | rfl
 · exact ⟨Or.inr (wd hw 181 rfl), (.object S6_), by decide, rfl⟩
 · exact ⟨Or.inr (wd hw 183 rfl), (.object S6_), by decide, rfl⟩
 · exact ⟨Or.inr (wd hw 185 rfl), (.object S6_), by decide, rfl⟩
 · exact ⟨Or.inr (wd hw 187 rfl), (.object S26_), by decide, rfl⟩
 · exact ⟨Or.inr (wd hw 189 rfl), .boolean, by decide, rfl⟩, by decide⟩
theorem lay_5 {Z : State} {a0 : Array Value} (hw : Wds Z a0) : LayD Z a0 S4_ [(S4_, "e0", S9_, .null), (S4_, "e1", S9_, .null)] := ⟨fun f hf => by
 simp only [List.mem_cons, List.not_mem_nil, or_false] at hf
 rcases hf with rfl | rfl
 · exact ⟨Or.inr (wd hw 176 rfl), (.object S8_), by decide, rfl⟩
 · exact ⟨Or.inr (wd hw 179 rfl), (.object S8_), by decide, rfl⟩, by decide⟩
theorem j0 : Al code [(0, .iload_n 0, 1, 1), (1, .ldc 23, 2, 3), (3, .iand, 1, 4), (4, .i2c, 1, 5), (5, .istore 6, 2, 7), (7, .iload_n 1, 1, 8), (8, .ldc 23, 2, 10), (10, .iand, 1, 11), (11, .i2c, 1, 12), (12, .istore 7, 2, 14), (14, .iload_n 2, 1, 15), (15, .ldc 23, 2, 17), (17, .iand, 1, 18), (18, .i2c, 1, 19), (19, .istore 8, 2, 21), (21, .iload_n 3, 1, 22), (22, .ldc 23, 2, 24), (24, .iand, 1, 25), (25, .i2c, 1, 26), (26, .istore 9, 2, 28), (28, .iload 4, 2, 30), (30, .ldc 23, 2, 32), (32, .iand, 1, 33), (33, .i2c, 1, 34), (34, .istore 10, 2, 36), (36, .iload 5, 2, 38), (38, .iconst 1, 1, 39), (39, .iand, 1, 40), (40, .ifCond .eq 7, 3, 43), (43, .iconst 1, 1, 44), (44, .goto 4, 3, 47), (47, .iconst 0, 1, 48), (48, .istore 11, 2, 50), (50, .iload 5, 2, 52), (52, .iconst 1, 1, 53), (53, .iushr, 1, 54), (54, .iconst 3, 1, 55), (55, .irem, 1, 56), (56, .istore 12, 2, 58), (58, .new 24, 3, 61), (61, .dup, 1, 62), (62, .invokespecial 26, 3, 65), (65, .astore 13, 2, 67), (67, .iload 12, 2, 69), (69, .iconst 1, 1, 70), (70, .if_icmp .lt 14, 3, 73), (73, .aload 13, 2, 75), (75, .iload 9, 2, 77), (77, .invokestatic 27, 3, 80), (80, .invokevirtual 31, 3, 83), (83, .pop, 1, 84), (84, .iload 12, 2, 86), (86, .iconst 2, 1, 87), (87, .if_icmp .ne 14, 3, 90), (90, .aload 13, 2, 92), (92, .iload 10, 2, 94), (94, .invokestatic 27, 3, 97), (97, .invokevirtual 31, 3, 100), (100, .pop, 1, 101), (101, .new 35, 3, 104), (104, .dup, 1, 105), (105, .iload 6, 2, 107), (107, .invokestatic 27, 3, 110), (110, .iload 7, 2, 112), (112, .invokestatic 27, 3, 115), (115, .iload 8, 2, 117), (117, .invokestatic 27, 3, 120), (120, .aload 13, 2, 122), (122, .iload 11, 2, 124), (124, .invokespecial 37, 3, 127), (127, .astore 14, 2, 129), (129, .aload 14, 2, 131), (131, .invokevirtual 40, 3, 134), (134, .astore 15, 2, 136), (136, .iload 12, 2, 138), (138, .ifCond .ne 7, 3, 141), (141, .iconst 2, 1, 142), (142, .goto 15, 3, 145), (145, .iload 12, 2, 147), (147, .iconst 1, 1, 148), (148, .if_icmp .ne 7, 3, 151), (151, .iconst 3, 1, 152), (152, .goto 5, 3, 155), (155, .bipush 6, 2, 157), (157, .istore 16, 2, 159), (159, .bipush 46, 2, 161), (161, .iload 16, 2, 163), (163, .iadd, 1, 164), (164, .istore 17, 2, 166), (166, .iload 11, 2, 168), (168, .ifCond .eq 8, 3, 171), (171, .ldc 44, 2, 173), (173, .goto 5, 3, 176), (176, .ldc 46, 2, 178), (178, .astore 18, 2, 180), (180, .iload 17, 2, 182), (182, .bipush 17, 2, 184), (184, .iadd, 1, 185), (185, .aload 18, 2, 187), (187, .invokevirtual 7, 3, 190), (190, .iadd, 1, 191), (191, .istore 19, 2, 193), (193, .aload 15, 2, 195), (195, .ifnull 13, 3, 198), (198, .aload 15, 2, 200), (200, .invokevirtual 7, 3, 203), (203, .iload 19, 2, 205), (205, .if_icmp .eq 5, 3, 208), (210, .aload 15, 2, 212), (212, .bipush 46, 2, 214), (214, .invokevirtual 13, 3, 217), (217, .bipush 91, 2, 219), (219, .if_icmp .ne 80, 3, 222), (222, .aload 15, 2, 224), (224, .iload 17, 2, 226), (226, .iconst 1, 1, 227), (227, .isub, 1, 228), (228, .invokevirtual 13, 3, 231), (231, .bipush 93, 2, 233), (233, .if_icmp .ne 66, 3, 236), (236, .iload 12, 2, 238), (238, .ifCond .eq 15, 3, 241), (241, .aload 15, 2, 243), (243, .bipush 47, 2, 245), (245, .invokevirtual 13, 3, 248), (248, .iload 9, 2, 250), (250, .if_icmp .ne 49, 3, 253), (253, .iload 12, 2, 255), (255, .iconst 2, 1, 256), (256, .if_icmp .ne 39, 3, 259), (259, .aload 15, 2, 261), (261, .bipush 48, 2, 263), (263, .invokevirtual 13, 3, 266), (266, .bipush 44, 2, 268), (268, .if_icmp .ne 31, 3, 271), (271, .aload 15, 2, 273), (273, .bipush 49, 2, 275), (275, .invokevirtual 13, 3, 278), (278, .bipush 32, 2, 280), (280, .if_icmp .ne 19, 3, 283), (283, .aload 15, 2, 285), (285, .bipush 50, 2, 287), (287, .invokevirtual 13, 3, 290), (290, .iload 10, 2, 292), (292, .if_icmp .ne 7, 3, 295), (295, .iconst 1, 1, 296), (296, .goto 4, 3, 299), (300, .istore 20, 2, 302), (302, .aload 15, 2, 304), (304, .iconst 0, 1, 305), (305, .ldc 48, 2, 307), (307, .invokestatic 50, 3, 310), (310, .ifCond .eq 101, 3, 313), (313, .aload 15, 2, 315), (315, .bipush 16, 2, 317), (317, .invokevirtual 13, 3, 320), (320, .iload 6, 2, 322), (322, .if_icmp .ne 89, 3, 325), (325, .aload 15, 2, 327), (327, .bipush 17, 2, 329), (329, .ldc 54, 2, 331), (331, .invokestatic 50, 3, 334), (334, .ifCond .eq 77, 3, 337), (337, .aload 15, 2, 339), (339, .bipush 30, 2, 341), (341, .invokevirtual 13, 3, 344), (344, .iload 7, 2, 346), (346, .if_icmp .ne 65, 3, 349), (349, .aload 15, 2, 351), (351, .bipush 31, 2, 353), (353, .ldc 56, 2, 355), (355, .invokestatic 50, 3, 358), (358, .ifCond .eq 53, 3, 361), (361, .iload 20, 2, 363), (363, .ifCond .eq 48, 3, 366), (366, .aload 15, 2, 368), (368, .iload 17, 2, 370), (370, .ldc 58, 2, 372), (372, .invokestatic 50, 3, 375), (375, .ifCond .eq 36, 3, 378), (378, .aload 15, 2, 380), (380, .iload 17, 2, 382), (382, .bipush 16, 2, 384), (384, .iadd, 1, 385), (385, .aload 18, 2, 387), (387, .invokestatic 50, 3, 390), (390, .ifCond .eq 21, 3, 393), (393, .aload 15, 2, 395), (395, .iload 19, 2, 397), (397, .iconst 1, 1, 398), (398, .isub, 1, 399), (399, .invokevirtual 13, 3, 402), (402, .bipush 93, 2, 404), (404, .if_icmp .ne 7, 3, 407), (407, .iconst 1, 1, 408), (408, .goto 4, 3, 411), (412, .ireturn, 1, 413)] := by decide +kernel
theorem j1 : Al c1_ [(0, .aload_n 0, 1, 1), (1, .invokespecial 1, 3, 4), (4, .aload_n 0, 1, 5), (5, .getstatic 39, 3, 8), (8, .putfield 9, 3, 11), (11, .return_, 1, 12)] := by decide +kernel
theorem j2 : Al c2_ [(0, .aload_n 0, 1, 1), (1, .invokespecial 1, 3, 4), (4, .aload_n 0, 1, 5), (5, .iconst 0, 1, 6), (6, .putfield 7, 3, 9), (9, .return_, 1, 10)] := by decide +kernel
theorem j3 : Al c3_ [(0, .aload_n 0, 1, 1), (1, .invokespecial 1, 3, 4), (4, .return_, 1, 5)] := by decide +kernel
theorem j5 : Al c5_ [(0, .getstatic 38, 3, 3), (3, .ifCond .eq 23, 3, 6), (6, .iload_n 0, 1, 7), (7, .invokestatic 1015, 3, 10), (10, .ifCond .eq 16, 3, 13), (13, .new 10, 3, 16), (16, .dup, 1, 17), (17, .iload_n 0, 1, 18), (18, .invokestatic 1018, 3, 21), (21, .iconst 0, 1, 22), (22, .invokespecial 209, 3, 25), (25, .areturn, 1, 26), (26, .new 10, 3, 29), (29, .dup, 1, 30), (30, .iload_n 0, 1, 31), (31, .invokestatic 1021, 3, 34), (34, .iconst 1, 1, 35), (35, .invokespecial 209, 3, 38), (38, .areturn, 1, 39)] := by decide +kernel
theorem j6 : Al c6_ [(0, .iload_n 0, 1, 1), (1, .sipush 255, 3, 4), (4, .if_icmp .gt 7, 3, 7), (7, .iconst 1, 1, 8), (8, .goto 4, 3, 11), (11, .iconst 0, 1, 12), (12, .ireturn, 1, 13)] := by decide +kernel
theorem j7 : Al c7_ [(0, .iconst 1, 1, 1), (1, .newarray .byte, 2, 3), (3, .dup, 1, 4), (4, .iconst 0, 1, 5), (5, .iload_n 0, 1, 6), (6, .i2b, 1, 7), (7, .bastore, 1, 8), (8, .areturn, 1, 9)] := by decide +kernel
theorem j8 : Al c8_ [(0, .aload_n 0, 1, 1), (1, .invokespecial 1, 3, 4), (4, .aload_n 0, 1, 5), (5, .aload_n 1, 1, 6), (6, .putfield 9, 3, 9), (9, .aload_n 0, 1, 10), (10, .iload_n 2, 1, 11), (11, .putfield 15, 3, 14), (14, .return_, 1, 15)] := by decide +kernel
theorem j9 : Al c9_ [(0, .aload_n 0, 1, 1), (1, .dup, 1, 2), (2, .getfield 63, 3, 5), (5, .iconst 1, 1, 6), (6, .iadd, 1, 7), (7, .putfield 63, 3, 10), (10, .aload_n 0, 1, 11), (11, .aload_n 1, 1, 12), (12, .aload_n 0, 1, 13), (13, .getfield 9, 3, 16), (16, .aload_n 0, 1, 17), (17, .getfield 48, 3, 20), (20, .invokevirtual 131, 3, 23), (23, .iconst 1, 1, 24), (24, .ireturn, 1, 25)] := by decide +kernel
theorem j10 : Al c10_ [(0, .iload_n 3, 1, 1), (1, .aload_n 2, 1, 2), (2, .arraylength, 1, 3), (3, .if_icmp .ne 8, 3, 6), (6, .aload_n 0, 1, 7), (7, .invokevirtual 129, 3, 10), (10, .astore_n 2, 1, 11), (11, .aload_n 2, 1, 12), (12, .iload_n 3, 1, 13), (13, .aload_n 1, 1, 14), (14, .aastore, 1, 15), (15, .aload_n 0, 1, 16), (16, .iload_n 3, 1, 17), (17, .iconst 1, 1, 18), (18, .iadd, 1, 19), (19, .putfield 48, 3, 22), (22, .return_, 1, 23)] := by decide +kernel
theorem j11 : Al c11_ [(0, .aload_n 0, 1, 1), (1, .aload_n 0, 1, 2), (2, .getfield 48, 3, 5), (5, .iconst 1, 1, 6), (6, .iadd, 1, 7), (7, .invokevirtual 69, 3, 10), (10, .areturn, 1, 11)] := by decide +kernel
theorem j12 : Al c12_ [(0, .aload_n 0, 1, 1), (1, .getfield 9, 3, 4), (4, .arraylength, 1, 5), (5, .istore_n 2, 1, 6), (6, .iload_n 2, 1, 7), (7, .ifCond .gt 13, 3, 10), (10, .aload_n 0, 1, 11), (11, .getfield 9, 3, 14), (14, .getstatic 39, 3, 17), (17, .if_acmp .eq 28, 3, 20), (45, .aload_n 0, 1, 46), (46, .bipush 10, 2, 48), (48, .iload_n 1, 1, 49), (49, .invokestatic 79, 3, 52), (52, .anewarray 7, 3, 55), (55, .dup_x1, 1, 56), (56, .putfield 9, 3, 59), (59, .areturn, 1, 60)] := by decide +kernel
theorem j13 : Al c13_ [(0, .iload_n 0, 1, 1), (1, .iload_n 1, 1, 2), (2, .if_icmp .lt 7, 3, 5), (5, .iload_n 0, 1, 6), (6, .goto 4, 3, 9), (9, .iload_n 1, 1, 10), (10, .ireturn, 1, 11)] := by decide +kernel
theorem j14 : Al c14_ [(0, .aload_n 0, 1, 1), (1, .invokespecial 1, 3, 4), (4, .aload 4, 2, 6), (6, .invokestatic 7, 3, 9), (9, .astore 4, 2, 11), (11, .aload_n 0, 1, 12), (12, .aload_n 1, 1, 13), (13, .putfield 13, 3, 16), (16, .aload_n 0, 1, 17), (17, .aload_n 2, 1, 18), (18, .putfield 19, 3, 21), (21, .aload_n 0, 1, 22), (22, .aload_n 3, 1, 23), (23, .putfield 22, 3, 26), (26, .aload_n 0, 1, 27), (27, .aload 4, 2, 29), (29, .putfield 25, 3, 32), (32, .aload_n 0, 1, 33), (33, .iload 5, 2, 35), (35, .putfield 29, 3, 38), (38, .return_, 1, 39)] := by decide +kernel
theorem j15 : Al c15_ [(0, .aload_n 0, 1, 1), (1, .invokespecial 1, 3, 4), (4, .return_, 1, 5)] := by decide +kernel
theorem j16 : Al c16_ [(0, .aload_n 0, 1, 1), (1, .invokestatic 112, 3, 4), (4, .areturn, 1, 5)] := by decide +kernel
theorem j17 : Al c17_ [(0, .aload_n 0, 1, 1), (1, .instanceof 10, 3, 4), (4, .ifCond .ne 22, 3, 7), (7, .aload_n 0, 1, 8), (8, .instanceof 12, 3, 11), (11, .ifCond .eq 20, 3, 14), (31, .aload_n 0, 1, 32), (32, .invokeinterface 20 1, 5, 37), (37, .ifCond .eq 7, 3, 40), (40, .invokestatic 26, 3, 43), (43, .areturn, 1, 44), (44, .aload_n 0, 1, 45), (45, .invokeinterface 30 1, 5, 50), (50, .invokestatic 34, 3, 53), (53, .areturn, 1, 54)] := by decide +kernel
theorem j18 : Al c18_ [(0, .aload_n 0, 1, 1), (1, .getfield 48, 3, 4), (4, .ifCond .ne 7, 3, 7), (7, .iconst 1, 1, 8), (8, .goto 4, 3, 11), (11, .iconst 0, 1, 12), (12, .ireturn, 1, 13)] := by decide +kernel
theorem j19 : Al c19_ [(0, .aload_n 0, 1, 1), (1, .getfield 9, 3, 4), (4, .aload_n 0, 1, 5), (5, .getfield 48, 3, 8), (8, .invokestatic 66, 3, 11), (11, .areturn, 1, 12)] := by decide +kernel
theorem j20 : Al c20_ [(0, .aload_n 0, 1, 1), (1, .iload_n 1, 1, 2), (2, .aload_n 0, 1, 3), (3, .invokevirtual 86, 3, 6), (6, .invokestatic 300, 3, 9), (9, .areturn, 1, 10)] := by decide +kernel
theorem j21 : Al c21_ [(0, .aload_n 2, 1, 1), (1, .ldc 110, 2, 3), (3, .if_acmp .ne 10, 3, 6), (6, .iload_n 1, 1, 7), (7, .anewarray 2, 3, 10), (10, .goto 14, 3, 13), (24, .astore_n 3, 1, 25), (25, .aload_n 0, 1, 26), (26, .iconst 0, 1, 27), (27, .aload_n 3, 1, 28), (28, .iconst 0, 1, 29), (29, .aload_n 0, 1, 30), (30, .arraylength, 1, 31), (31, .iload_n 1, 1, 32), (32, .invokestatic 304, 3, 35), (35, .invokestatic 150, 3, 38), (38, .aload_n 3, 1, 39), (39, .areturn, 1, 40)] := by decide +kernel
theorem j22 : Al c22_ [(0, .iload_n 0, 1, 1), (1, .iload_n 1, 1, 2), (2, .if_icmp .gt 7, 3, 5), (5, .iload_n 0, 1, 6), (6, .goto 4, 3, 9), (9, .iload_n 1, 1, 10), (10, .ireturn, 1, 11)] := by decide +kernel
theorem j23 : Al c23_ [(0, .aload_n 0, 1, 1), (1, .arraylength, 1, 2), (2, .tableswitch 57 0 2 #[26, 32, 43], 26, 28), (34, .new 96, 3, 37), (37, .dup, 1, 38), (38, .aload_n 0, 1, 39), (39, .iconst 0, 1, 40), (40, .aaload, 1, 41), (41, .invokespecial 98, 3, 44), (44, .areturn, 1, 45), (45, .new 96, 3, 48), (48, .dup, 1, 49), (49, .aload_n 0, 1, 50), (50, .iconst 0, 1, 51), (51, .aaload, 1, 52), (52, .aload_n 0, 1, 53), (53, .iconst 1, 1, 54), (54, .aaload, 1, 55), (55, .invokespecial 100, 3, 58), (58, .areturn, 1, 59)] := by decide +kernel
theorem j24 : Al c24_ [(0, .aload_n 0, 1, 1), (1, .invokespecial 1, 3, 4), (4, .aload_n 0, 1, 5), (5, .aload_n 1, 1, 6), (6, .invokestatic 7, 3, 9), (9, .putfield 13, 3, 12), (12, .aload_n 0, 1, 13), (13, .getstatic 19, 3, 16), (16, .putfield 24, 3, 19), (19, .return_, 1, 20)] := by decide +kernel
theorem j25 : Al c25_ [(0, .aload_n 0, 1, 1), (1, .invokespecial 1, 3, 4), (4, .return_, 1, 5)] := by decide +kernel
theorem j26 : Al c26_ [(0, .aload_n 0, 1, 1), (1, .invokespecial 1, 3, 4), (4, .return_, 1, 5)] := by decide +kernel
theorem j27 : Al c27_ [(0, .aload_n 0, 1, 1), (1, .ifnonnull 11, 3, 4), (12, .aload_n 0, 1, 13), (13, .areturn, 1, 14)] := by decide +kernel
theorem j28 : Al c28_ [(0, .new 55, 3, 3), (3, .dup, 1, 4), (4, .invokespecial 57, 3, 7), (7, .ldc 58, 2, 9), (9, .invokevirtual 60, 3, 12), (12, .aload_n 0, 1, 13), (13, .getfield 13, 3, 16), (16, .invokevirtual 60, 3, 19), (19, .ldc 64, 2, 21), (21, .invokevirtual 60, 3, 24), (24, .aload_n 0, 1, 25), (25, .getfield 19, 3, 28), (28, .invokevirtual 60, 3, 31), (31, .ldc 66, 2, 33), (33, .invokevirtual 60, 3, 36), (36, .aload_n 0, 1, 37), (37, .getfield 25, 3, 40), (40, .invokevirtual 68, 3, 43), (43, .ldc 71, 2, 45), (45, .invokevirtual 60, 3, 48), (48, .aload_n 0, 1, 49), (49, .getfield 29, 3, 52), (52, .invokevirtual 73, 3, 55), (55, .ldc 76, 2, 57), (57, .invokevirtual 60, 3, 60), (60, .invokevirtual 78, 3, 63), (63, .areturn, 1, 64)] := by decide +kernel
theorem j29 : Al c29_ [(0, .aload_n 0, 1, 1), (1, .bipush 16, 2, 3), (3, .invokespecial 1, 3, 6), (6, .return_, 1, 7)] := by decide +kernel
theorem j30 : Al c30_ [(0, .aload_n 0, 1, 1), (1, .invokespecial 3, 3, 4), (4, .getstatic 18, 3, 7), (7, .ifCond .eq 18, 3, 10), (10, .aload_n 0, 1, 11), (11, .iload_n 1, 1, 12), (12, .newarray .byte, 2, 14), (14, .putfield 15, 3, 17), (17, .aload_n 0, 1, 18), (18, .iconst 0, 1, 19), (19, .putfield 22, 3, 22), (22, .goto 16, 3, 25), (38, .return_, 1, 39)] := by decide +kernel
theorem j31 : Al c31_ [(0, .aload_n 0, 1, 1), (1, .aload_n 1, 1, 2), (2, .invokespecial 29, 3, 5), (5, .pop, 1, 6), (6, .aload_n 0, 1, 7), (7, .areturn, 1, 8)] := by decide +kernel
theorem j32 : Al c32_ [(0, .aload_n 1, 1, 1), (1, .ifnonnull 8, 3, 4), (9, .aload_n 1, 1, 10), (10, .invokevirtual 32, 3, 13), (13, .istore_n 2, 1, 14), (14, .aload_n 0, 1, 15), (15, .aload_n 0, 1, 16), (16, .getfield 79, 3, 19), (19, .iload_n 2, 1, 20), (20, .iadd, 1, 21), (21, .invokevirtual 100, 3, 24), (24, .aload_n 0, 1, 25), (25, .aload_n 0, 1, 26), (26, .getfield 79, 3, 29), (29, .aload_n 1, 1, 30), (30, .invokevirtual 208, 3, 33), (33, .aload_n 0, 1, 34), (34, .dup, 1, 35), (35, .getfield 79, 3, 38), (38, .iload_n 2, 1, 39), (39, .iadd, 1, 40), (40, .putfield 79, 3, 43), (43, .aload_n 0, 1, 44), (44, .areturn, 1, 45)] := by decide +kernel
theorem j33 : Al c33_ [(0, .aload_n 0, 1, 1), (1, .getfield 9, 3, 4), (4, .arraylength, 1, 5), (5, .aload_n 0, 1, 6), (6, .invokevirtual 335, 3, 9), (9, .ishr, 1, 10), (10, .ireturn, 1, 11)] := by decide +kernel
theorem j34 : Al c34_ [(0, .getstatic 38, 3, 3), (3, .ifCond .eq 10, 3, 6), (6, .aload_n 0, 1, 7), (7, .getfield 15, 3, 10), (10, .goto 4, 3, 13), (14, .ireturn, 1, 15)] := by decide +kernel
theorem j35 : Al c35_ [(0, .aload_n 0, 1, 1), (1, .getfield 15, 3, 4), (4, .arraylength, 1, 5), (5, .aload_n 0, 1, 6), (6, .getfield 22, 3, 9), (9, .ishr, 1, 10), (10, .istore_n 2, 1, 11), (11, .iload_n 1, 1, 12), (12, .iload_n 2, 1, 13), (13, .isub, 1, 14), (14, .ifCond .le 24, 3, 17), (17, .aload_n 0, 1, 18), (18, .aload_n 0, 1, 19), (19, .getfield 15, 3, 22), (22, .aload_n 0, 1, 23), (23, .iload_n 1, 1, 24), (24, .invokevirtual 104, 3, 27), (27, .aload_n 0, 1, 28), (28, .getfield 22, 3, 31), (31, .ishl, 1, 32), (32, .invokestatic 108, 3, 35), (35, .putfield 15, 3, 38), (38, .return_, 1, 39)] := by decide +kernel
theorem j36 : Al c36_ [(0, .aload_n 0, 1, 1), (1, .aload_n 2, 1, 2), (2, .invokevirtual 397, 3, 5), (5, .aload_n 2, 1, 6), (6, .aload_n 0, 1, 7), (7, .getfield 15, 3, 10), (10, .iload_n 1, 1, 11), (11, .aload_n 0, 1, 12), (12, .getfield 22, 3, 15), (15, .invokevirtual 399, 3, 18), (18, .return_, 1, 19)] := by decide +kernel
theorem j37 : Al c37_ [(0, .getstatic 18, 3, 3), (3, .ifCond .eq 18, 3, 6), (6, .aload_n 0, 1, 7), (7, .getfield 22, 3, 10), (10, .aload_n 1, 1, 11), (11, .invokevirtual 40, 3, 14), (14, .if_icmp .eq 7, 3, 17), (17, .aload_n 0, 1, 18), (18, .invokevirtual 195, 3, 21), (21, .return_, 1, 22)] := by decide +kernel
theorem j38 : Al c38_ [(0, .aload_n 0, 1, 1), (1, .invokevirtual 335, 3, 4), (4, .iload_n 3, 1, 5), (5, .if_icmp .ne 23, 3, 8), (8, .aload_n 0, 1, 9), (9, .getfield 9, 3, 12), (12, .iconst 0, 1, 13), (13, .aload_n 1, 1, 14), (14, .iload_n 2, 1, 15), (15, .iload_n 3, 1, 16), (16, .ishl, 1, 17), (17, .aload_n 0, 1, 18), (18, .getfield 9, 3, 21), (21, .arraylength, 1, 22), (22, .invokestatic 212, 3, 25), (25, .goto 18, 3, 28), (28, .aload_n 0, 1, 29), (29, .getfield 9, 3, 32), (32, .iconst 0, 1, 33), (33, .aload_n 1, 1, 34), (34, .iload_n 2, 1, 35), (35, .aload_n 0, 1, 36), (36, .getfield 9, 3, 39), (39, .arraylength, 1, 40), (40, .invokestatic 106, 3, 43), (43, .return_, 1, 44)] := by decide +kernel
theorem j39 : Al c39_ [(0, .aload_n 0, 1, 1), (1, .getfield 15, 3, 4), (4, .arraylength, 1, 5), (5, .istore_n 2, 1, 6), (6, .iload_n 1, 1, 7), (7, .aload_n 0, 1, 8), (8, .getfield 22, 3, 11), (11, .ishl, 1, 12), (12, .istore_n 3, 1, 13), (13, .iload_n 3, 1, 14), (14, .iload_n 2, 1, 15), (15, .isub, 1, 16), (16, .istore 4, 2, 18), (18, .iload_n 2, 1, 19), (19, .iload 4, 2, 21), (21, .iload_n 2, 1, 22), (22, .iconst 2, 1, 23), (23, .aload_n 0, 1, 24), (24, .getfield 22, 3, 27), (27, .ishl, 1, 28), (28, .iadd, 1, 29), (29, .invokestatic 114, 3, 32), (32, .istore 5, 2, 34), (34, .iload 5, 2, 36), (36, .ldc 39, 2, 38), (38, .if_icmp .ne 13, 3, 41), (51, .iload 5, 2, 53), (53, .aload_n 0, 1, 54), (54, .getfield 22, 3, 57), (57, .ishr, 1, 58), (58, .ireturn, 1, 59)] := by decide +kernel
theorem j40 : Al c40_ [(0, .iload_n 0, 1, 1), (1, .iload_n 1, 1, 2), (2, .iload_n 2, 1, 3), (3, .invokestatic 194, 3, 6), (6, .iadd, 1, 7), (7, .istore_n 3, 1, 8), (8, .iconst 0, 1, 9), (9, .iload_n 3, 1, 10), (10, .if_icmp .ge 11, 3, 13), (13, .iload_n 3, 1, 14), (14, .ldc 200, 2, 16), (16, .if_icmp .gt 5, 3, 19), (19, .iload_n 3, 1, 20), (20, .ireturn, 1, 21)] := by decide +kernel
theorem j41 : Al c41_ [(0, .iload_n 1, 1, 1), (1, .aload_n 0, 1, 2), (2, .arraylength, 1, 3), (3, .if_icmp .ne 11, 3, 6), (14, .iload_n 1, 1, 15), (15, .newarray .byte, 2, 17), (17, .astore_n 2, 1, 18), (18, .aload_n 0, 1, 19), (19, .iconst 0, 1, 20), (20, .aload_n 2, 1, 21), (21, .iconst 0, 1, 22), (22, .aload_n 0, 1, 23), (23, .arraylength, 1, 24), (24, .iload_n 1, 1, 25), (25, .invokestatic 304, 3, 28), (28, .invokestatic 150, 3, 31), (31, .aload_n 2, 1, 32), (32, .areturn, 1, 33)] := by decide +kernel
theorem j42 : Al c42_ [(0, .aload_n 0, 1, 1), (1, .aload_n 1, 1, 2), (2, .invokestatic 17, 3, 5), (5, .invokevirtual 23, 3, 8), (8, .areturn, 1, 9)] := by decide +kernel
theorem j43 : Al c43_ [(0, .aload_n 0, 1, 1), (1, .ifnonnull 9, 3, 4), (10, .aload_n 0, 1, 11), (11, .invokevirtual 1007, 3, 14), (14, .areturn, 1, 15)] := by decide +kernel
theorem j44 : Al c44_ [(0, .aload_n 0, 1, 1), (1, .invokevirtual 13, 3, 4), (4, .astore_n 1, 1, 5), (5, .aload_n 1, 1, 6), (6, .invokeinterface 17 1, 5, 11), (11, .ifCond .ne 6, 3, 14), (14, .ldc 92, 2, 16), (16, .areturn, 1, 17), (17, .new 94, 3, 20), (20, .dup, 1, 21), (21, .invokespecial 96, 3, 24), (24, .astore_n 2, 1, 25), (25, .aload_n 2, 1, 26), (26, .bipush 91, 2, 28), (28, .invokevirtual 97, 3, 31), (31, .pop, 1, 32), (32, .aload_n 1, 1, 33), (33, .invokeinterface 23 1, 5, 38), (38, .astore_n 3, 1, 39), (39, .aload_n 2, 1, 40), (40, .aload_n 3, 1, 41), (41, .aload_n 0, 1, 42), (42, .if_acmp .ne 8, 3, 45), (50, .aload_n 3, 1, 51), (51, .invokevirtual 103, 3, 54), (54, .pop, 1, 55), (55, .aload_n 1, 1, 56), (56, .invokeinterface 17 1, 5, 61), (61, .ifCond .ne 13, 3, 64), (64, .aload_n 2, 1, 65), (65, .bipush 93, 2, 67), (67, .invokevirtual 97, 3, 70), (70, .invokevirtual 106, 3, 73), (73, .areturn, 1, 74), (74, .aload_n 2, 1, 75), (75, .bipush 44, 2, 77), (77, .invokevirtual 97, 3, 80), (80, .bipush 32, 2, 82), (82, .invokevirtual 97, 3, 85), (85, .pop, 1, 86), (86, .goto (-54), 3, 89)] := by decide +kernel
theorem j45 : Al c45_ [(0, .new 61, 3, 3), (3, .dup, 1, 4), (4, .aload_n 0, 1, 5), (5, .aload_n 0, 1, 6), (6, .invokevirtual 13, 3, 9), (9, .invokespecial 63, 3, 12), (12, .areturn, 1, 13)] := by decide +kernel
theorem j46 : Al c46_ [(0, .aload_n 0, 1, 1), (1, .getfield 24, 3, 4), (4, .getstatic 19, 3, 7), (7, .if_acmp .eq 7, 3, 10), (10, .iconst 2, 1, 11), (11, .goto 4, 3, 14), (14, .iconst 1, 1, 15), (15, .ireturn, 1, 16)] := by decide +kernel
theorem j47 : Al c47_ [(0, .aload_n 0, 1, 1), (1, .invokespecial 1, 3, 4), (4, .aload_n 0, 1, 5), (5, .aload_n 1, 1, 6), (6, .putfield 7, 3, 9), (9, .aload_n 0, 1, 10), (10, .iload_n 2, 1, 11), (11, .putfield 13, 3, 14), (14, .aload_n 0, 1, 15), (15, .iconst 0, 1, 16), (16, .putfield 17, 3, 19), (19, .aload_n 0, 1, 20), (20, .iconst 0, 1, 21), (21, .putfield 20, 3, 24), (24, .return_, 1, 25)] := by decide +kernel
theorem j48 : Al c48_ [(0, .aload_n 0, 1, 1), (1, .getfield 17, 3, 4), (4, .aload_n 0, 1, 5), (5, .getfield 13, 3, 8), (8, .if_icmp .eq 7, 3, 11), (11, .iconst 1, 1, 12), (12, .goto 4, 3, 15), (15, .iconst 0, 1, 16), (16, .ireturn, 1, 17)] := by decide +kernel
theorem j49 : Al c49_ [(0, .aload_n 0, 1, 1), (1, .iload_n 1, 1, 2), (2, .invokespecial 50, 3, 5), (5, .pop, 1, 6), (6, .aload_n 0, 1, 7), (7, .areturn, 1, 8)] := by decide +kernel
theorem j50 : Al c50_ [(0, .aload_n 0, 1, 1), (1, .aload_n 0, 1, 2), (2, .getfield 79, 3, 5), (5, .iconst 1, 1, 6), (6, .iadd, 1, 7), (7, .invokevirtual 100, 3, 10), (10, .aload_n 0, 1, 11), (11, .invokevirtual 83, 3, 14), (14, .ifCond .eq 31, 3, 17), (17, .iload_n 1, 1, 18), (18, .invokestatic 191, 3, 21), (21, .ifCond .eq 24, 3, 24), (24, .aload_n 0, 1, 25), (25, .getfield 15, 3, 28), (28, .aload_n 0, 1, 29), (29, .dup, 1, 30), (30, .getfield 79, 3, 33), (33, .dup_x1, 1, 34), (34, .iconst 1, 1, 35), (35, .iadd, 1, 36), (36, .putfield 79, 3, 39), (39, .iload_n 1, 1, 40), (40, .i2b, 1, 41), (41, .bastore, 1, 42), (42, .goto 33, 3, 45), (45, .aload_n 0, 1, 46), (46, .invokevirtual 83, 3, 49), (49, .ifCond .eq 7, 3, 52), (56, .aload_n 0, 1, 57), (57, .getfield 15, 3, 60), (60, .aload_n 0, 1, 61), (61, .dup, 1, 62), (62, .getfield 79, 3, 65), (65, .dup_x1, 1, 66), (66, .iconst 1, 1, 67), (67, .iadd, 1, 68), (68, .putfield 79, 3, 71), (71, .iload_n 1, 1, 72), (72, .invokestatic 197, 3, 75), (75, .aload_n 0, 1, 76), (76, .areturn, 1, 77)] := by decide +kernel
theorem j51 : Al c51_ [(0, .getstatic 18, 3, 3), (3, .ifCond .eq 14, 3, 6), (6, .aload_n 0, 1, 7), (7, .getfield 22, 3, 10), (10, .ifCond .ne 7, 3, 13), (13, .iconst 1, 1, 14), (14, .goto 4, 3, 17), (17, .iconst 0, 1, 18), (18, .ireturn, 1, 19)] := by decide +kernel
theorem j52 : Al c52_ [(0, .aload_n 0, 1, 1), (1, .getfield 17, 3, 4), (4, .istore_n 1, 1, 5), (5, .aload_n 0, 1, 6), (6, .getfield 7, 3, 9), (9, .iload_n 1, 1, 10), (10, .invokeinterface 24 2, 5, 15), (15, .astore_n 2, 1, 16), (16, .aload_n 0, 1, 17), (17, .iload_n 1, 1, 18), (18, .iconst 1, 1, 19), (19, .iadd, 1, 20), (20, .putfield 17, 3, 23), (23, .aload_n 2, 1, 24), (24, .areturn, 1, 25)] := by decide +kernel
theorem j53 : Al c53_ [(0, .iload_n 1, 1, 1), (1, .ifCond .ne 8, 3, 4), (4, .aload_n 0, 1, 5), (5, .getfield 13, 3, 8), (8, .areturn, 1, 9), (9, .iload_n 1, 1, 10), (10, .iconst 1, 1, 11), (11, .if_icmp .ne 18, 3, 14), (14, .aload_n 0, 1, 15), (15, .getfield 24, 3, 18), (18, .getstatic 19, 3, 21), (21, .if_acmp .eq 8, 3, 24), (24, .aload_n 0, 1, 25), (25, .getfield 24, 3, 28), (28, .areturn, 1, 29)] := by decide +kernel
theorem j54 : Al c54_ [(0, .aload_n 0, 1, 1), (1, .areturn, 1, 2)] := by decide +kernel
theorem j55 : Al c55_ [(0, .new 18, 3, 3), (3, .dup, 1, 4), (4, .aload_n 0, 1, 5), (5, .invokespecial 137, 3, 8), (8, .areturn, 1, 9)] := by decide +kernel
theorem j56 : Al c56_ [(0, .aload_n 0, 1, 1), (1, .aload_n 1, 1, 2), (2, .aconst_null, 1, 3), (3, .invokespecial 489, 3, 6), (6, .return_, 1, 7)] := by decide +kernel
theorem j57 : Al c57_ [(0, .aload_n 0, 1, 1), (1, .invokespecial 1, 3, 4), (4, .aload_n 1, 1, 5), (5, .invokevirtual 552, 3, 8), (8, .astore_n 3, 1, 9), (9, .aload_n 1, 1, 10), (10, .invokevirtual 549, 3, 13), (13, .istore 4, 2, 15), (15, .aload_n 1, 1, 16), (16, .invokevirtual 1047, 3, 19), (19, .ifCond .eq 22, 3, 22), (22, .aload_n 0, 1, 23), (23, .iconst 0, 1, 24), (24, .putfield 15, 3, 27), (27, .aload_n 0, 1, 28), (28, .aload_n 3, 1, 29), (29, .iconst 0, 1, 30), (30, .iload 4, 2, 32), (32, .invokestatic 54, 3, 35), (35, .putfield 9, 3, 38), (38, .goto 59, 3, 41), (41, .getstatic 38, 3, 44), (44, .ifCond .eq 35, 3, 47), (47, .aload_n 1, 1, 48), (48, .getfield 1048, 3, 51), (51, .ifCond .eq 28, 3, 54), (79, .aload_n 0, 1, 80), (80, .iconst 1, 1, 81), (81, .putfield 15, 3, 84), (84, .aload_n 0, 1, 85), (85, .aload_n 3, 1, 86), (86, .iconst 0, 1, 87), (87, .iload 4, 2, 89), (89, .iconst 1, 1, 90), (90, .ishl, 1, 91), (91, .invokestatic 54, 3, 94), (94, .putfield 9, 3, 97), (97, .return_, 1, 98)] := by decide +kernel
theorem j58 : Al c58_ [(0, .aload_n 0, 1, 1), (1, .getfield 15, 3, 4), (4, .areturn, 1, 5)] := by decide +kernel
theorem j59 : Al c59_ [(0, .aload_n 0, 1, 1), (1, .invokespecial 343, 3, 4), (4, .ireturn, 1, 5)] := by decide +kernel
theorem j60 : Al c60_ [(0, .aload_n 0, 1, 1), (1, .getfield 79, 3, 4), (4, .ireturn, 1, 5)] := by decide +kernel
theorem j61 : Al c61_ [(0, .iload_n 1, 1, 1), (1, .ifCond .ne 9, 3, 4), (4, .iload_n 2, 1, 5), (5, .aload_n 0, 1, 6), (6, .arraylength, 1, 7), (7, .if_icmp .eq 10, 3, 10), (10, .aload_n 0, 1, 11), (11, .iload_n 1, 1, 12), (12, .iload_n 2, 1, 13), (13, .invokestatic 339, 3, 16), (16, .areturn, 1, 17), (17, .aload_n 0, 1, 18), (18, .invokevirtual 310, 3, 21), (21, .checkcast 311, 3, 24), (24, .areturn, 1, 25)] := by decide +kernel
theorem j62 : Al c62_ [(0, .iload_n 1, 1, 1), (1, .iload_n 2, 1, 2), (2, .invokestatic 343, 3, 5), (5, .iload_n 2, 1, 6), (6, .iload_n 1, 1, 7), (7, .isub, 1, 8), (8, .istore_n 3, 1, 9), (9, .iload_n 3, 1, 10), (10, .newarray .byte, 2, 12), (12, .astore 4, 2, 14), (14, .aload_n 0, 1, 15), (15, .iload_n 1, 1, 16), (16, .aload 4, 2, 18), (18, .iconst 0, 1, 19), (19, .aload_n 0, 1, 20), (20, .arraylength, 1, 21), (21, .iload_n 1, 1, 22), (22, .isub, 1, 23), (23, .iload_n 3, 1, 24), (24, .invokestatic 304, 3, 27), (27, .invokestatic 150, 3, 30), (30, .aload 4, 2, 32), (32, .areturn, 1, 33)] := by decide +kernel
theorem j63 : Al c63_ [(0, .iload_n 1, 1, 1), (1, .iload_n 0, 1, 2), (2, .if_icmp .ge 35, 3, 5), (37, .return_, 1, 38)] := by decide +kernel
theorem j64 : Al c64_ [(0, .aload_n 0, 1, 1), (1, .iload_n 1, 1, 2), (2, .invokespecial 47, 3, 5), (5, .pop, 1, 6), (6, .aload_n 0, 1, 7), (7, .areturn, 1, 8)] := by decide +kernel
theorem j65 : Al c65_ [(0, .aload_n 0, 1, 1), (1, .aload_n 0, 1, 2), (2, .getfield 79, 3, 5), (5, .iload_n 1, 1, 6), (6, .ifCond .eq 7, 3, 9), (9, .iconst 4, 1, 10), (10, .goto 4, 3, 13), (13, .iconst 5, 1, 14), (14, .iadd, 1, 15), (15, .invokevirtual 100, 3, 18), (18, .aload_n 0, 1, 19), (19, .getfield 79, 3, 22), (22, .istore_n 2, 1, 23), (23, .aload_n 0, 1, 24), (24, .getfield 15, 3, 27), (27, .astore_n 3, 1, 28), (28, .aload_n 0, 1, 29), (29, .invokevirtual 83, 3, 32), (32, .ifCond .eq 85, 3, 35), (35, .iload_n 1, 1, 36), (36, .ifCond .eq 38, 3, 39), (39, .aload_n 3, 1, 40), (40, .iload_n 2, 1, 41), (41, .iinc 2 1, 3, 44), (44, .bipush 116, 2, 46), (46, .bastore, 1, 47), (47, .aload_n 3, 1, 48), (48, .iload_n 2, 1, 49), (49, .iinc 2 1, 3, 52), (52, .bipush 114, 2, 54), (54, .bastore, 1, 55), (55, .aload_n 3, 1, 56), (56, .iload_n 2, 1, 57), (57, .iinc 2 1, 3, 60), (60, .bipush 117, 2, 62), (62, .bastore, 1, 63), (63, .aload_n 3, 1, 64), (64, .iload_n 2, 1, 65), (65, .iinc 2 1, 3, 68), (68, .bipush 101, 2, 70), (70, .bastore, 1, 71), (71, .goto 83, 3, 74), (74, .aload_n 3, 1, 75), (75, .iload_n 2, 1, 76), (76, .iinc 2 1, 3, 79), (79, .bipush 102, 2, 81), (81, .bastore, 1, 82), (82, .aload_n 3, 1, 83), (83, .iload_n 2, 1, 84), (84, .iinc 2 1, 3, 87), (87, .bipush 97, 2, 89), (89, .bastore, 1, 90), (90, .aload_n 3, 1, 91), (91, .iload_n 2, 1, 92), (92, .iinc 2 1, 3, 95), (95, .bipush 108, 2, 97), (97, .bastore, 1, 98), (98, .aload_n 3, 1, 99), (99, .iload_n 2, 1, 100), (100, .iinc 2 1, 3, 103), (103, .bipush 115, 2, 105), (105, .bastore, 1, 106), (106, .aload_n 3, 1, 107), (107, .iload_n 2, 1, 108), (108, .iinc 2 1, 3, 111), (111, .bipush 101, 2, 113), (113, .bastore, 1, 114), (114, .goto 40, 3, 117), (117, .iload_n 1, 1, 118), (118, .ifCond .eq 20, 3, 121), (121, .aload_n 3, 1, 122), (122, .iload_n 2, 1, 123), (123, .bipush 116, 2, 125), (125, .bipush 114, 2, 127), (127, .bipush 117, 2, 129), (129, .bipush 101, 2, 131), (131, .invokestatic 226, 3, 134), (134, .istore_n 2, 1, 135), (135, .goto 19, 3, 138), (138, .aload_n 3, 1, 139), (139, .iload_n 2, 1, 140), (140, .bipush 102, 2, 142), (142, .bipush 97, 2, 144), (144, .bipush 108, 2, 146), (146, .bipush 115, 2, 148), (148, .bipush 101, 2, 150), (150, .invokestatic 242, 3, 153), (153, .istore_n 2, 1, 154), (154, .aload_n 0, 1, 155), (155, .iload_n 2, 1, 156), (156, .putfield 79, 3, 159), (159, .aload_n 0, 1, 160), (160, .areturn, 1, 161)] := by decide +kernel
theorem j66 : Al c66_ [(0, .aload_n 0, 1, 1), (1, .invokevirtual 492, 3, 4), (4, .ifCond .eq 12, 3, 7), (7, .aload_n 0, 1, 8), (8, .getfield 9, 3, 11), (11, .iload_n 1, 1, 12), (12, .invokestatic 495, 3, 15), (15, .ireturn, 1, 16), (16, .aload_n 0, 1, 17), (17, .getfield 9, 3, 20), (20, .iload_n 1, 1, 21), (21, .invokestatic 498, 3, 24), (24, .ireturn, 1, 25)] := by decide +kernel
theorem j67 : Al c67_ [(0, .getstatic 38, 3, 3), (3, .ifCond .eq 14, 3, 6), (6, .aload_n 0, 1, 7), (7, .getfield 15, 3, 10), (10, .ifCond .ne 7, 3, 13), (13, .iconst 1, 1, 14), (14, .goto 4, 3, 17), (17, .iconst 0, 1, 18), (18, .ireturn, 1, 19)] := by decide +kernel
theorem j68 : Al c68_ [(0, .iload_n 1, 1, 1), (1, .aload_n 0, 1, 2), (2, .arraylength, 1, 3), (3, .invokestatic 9, 3, 6), (6, .aload_n 0, 1, 7), (7, .iload_n 1, 1, 8), (8, .baload, 1, 9), (9, .sipush 255, 3, 12), (12, .iand, 1, 13), (13, .i2c, 1, 14), (14, .ireturn, 1, 15)] := by decide +kernel
theorem j69 : Al c69_ [(0, .iload_n 0, 1, 1), (1, .iload_n 1, 1, 2), (2, .getstatic 1053, 3, 5), (5, .invokestatic 1059, 3, 8), (8, .pop, 1, 9), (9, .return_, 1, 10)] := by decide +kernel
theorem j70 : Al c70_ [(0, .iload_n 0, 1, 1), (1, .ifCond .lt 8, 3, 4), (4, .iload_n 0, 1, 5), (5, .iload_n 1, 1, 6), (6, .if_icmp .lt 10, 3, 9), (16, .iload_n 0, 1, 17), (17, .ireturn, 1, 18)] := by decide +kernel
theorem j71 : Al c71_ [(0, .aload_n 2, 1, 1), (1, .invokevirtual 7, 3, 4), (4, .bipush 16, 2, 6), (6, .if_icmp .gt 177, 3, 9), (9, .aload_n 0, 1, 10), (10, .iload_n 1, 1, 11), (11, .aload_n 2, 1, 12), (12, .iconst 0, 1, 13), (13, .invokestatic 17, 3, 16), (16, .ifCond .eq 167, 3, 19), (19, .aload_n 0, 1, 20), (20, .iload_n 1, 1, 21), (21, .aload_n 2, 1, 22), (22, .iconst 1, 1, 23), (23, .invokestatic 17, 3, 26), (26, .ifCond .eq 157, 3, 29), (29, .aload_n 0, 1, 30), (30, .iload_n 1, 1, 31), (31, .aload_n 2, 1, 32), (32, .iconst 2, 1, 33), (33, .invokestatic 17, 3, 36), (36, .ifCond .eq 147, 3, 39), (39, .aload_n 0, 1, 40), (40, .iload_n 1, 1, 41), (41, .aload_n 2, 1, 42), (42, .iconst 3, 1, 43), (43, .invokestatic 17, 3, 46), (46, .ifCond .eq 137, 3, 49), (49, .aload_n 0, 1, 50), (50, .iload_n 1, 1, 51), (51, .aload_n 2, 1, 52), (52, .iconst 4, 1, 53), (53, .invokestatic 17, 3, 56), (56, .ifCond .eq 127, 3, 59), (59, .aload_n 0, 1, 60), (60, .iload_n 1, 1, 61), (61, .aload_n 2, 1, 62), (62, .iconst 5, 1, 63), (63, .invokestatic 17, 3, 66), (66, .ifCond .eq 117, 3, 69), (69, .aload_n 0, 1, 70), (70, .iload_n 1, 1, 71), (71, .aload_n 2, 1, 72), (72, .bipush 6, 2, 74), (74, .invokestatic 17, 3, 77), (77, .ifCond .eq 106, 3, 80), (80, .aload_n 0, 1, 81), (81, .iload_n 1, 1, 82), (82, .aload_n 2, 1, 83), (83, .bipush 7, 2, 85), (85, .invokestatic 17, 3, 88), (88, .ifCond .eq 95, 3, 91), (91, .aload_n 0, 1, 92), (92, .iload_n 1, 1, 93), (93, .aload_n 2, 1, 94), (94, .bipush 8, 2, 96), (96, .invokestatic 17, 3, 99), (99, .ifCond .eq 84, 3, 102), (102, .aload_n 0, 1, 103), (103, .iload_n 1, 1, 104), (104, .aload_n 2, 1, 105), (105, .bipush 9, 2, 107), (107, .invokestatic 17, 3, 110), (110, .ifCond .eq 73, 3, 113), (113, .aload_n 0, 1, 114), (114, .iload_n 1, 1, 115), (115, .aload_n 2, 1, 116), (116, .bipush 10, 2, 118), (118, .invokestatic 17, 3, 121), (121, .ifCond .eq 62, 3, 124), (124, .aload_n 0, 1, 125), (125, .iload_n 1, 1, 126), (126, .aload_n 2, 1, 127), (127, .bipush 11, 2, 129), (129, .invokestatic 17, 3, 132), (132, .ifCond .eq 51, 3, 135), (135, .aload_n 0, 1, 136), (136, .iload_n 1, 1, 137), (137, .aload_n 2, 1, 138), (138, .bipush 12, 2, 140), (140, .invokestatic 17, 3, 143), (143, .ifCond .eq 40, 3, 146), (146, .aload_n 0, 1, 147), (147, .iload_n 1, 1, 148), (148, .aload_n 2, 1, 149), (149, .bipush 13, 2, 151), (151, .invokestatic 17, 3, 154), (154, .ifCond .eq 29, 3, 157), (157, .aload_n 0, 1, 158), (158, .iload_n 1, 1, 159), (159, .aload_n 2, 1, 160), (160, .bipush 14, 2, 162), (162, .invokestatic 17, 3, 165), (165, .ifCond .eq 18, 3, 168), (168, .aload_n 0, 1, 169), (169, .iload_n 1, 1, 170), (170, .aload_n 2, 1, 171), (171, .bipush 15, 2, 173), (173, .invokestatic 17, 3, 176), (176, .ifCond .eq 7, 3, 179), (179, .iconst 1, 1, 180), (180, .goto 4, 3, 183), (184, .ireturn, 1, 185)] := by decide +kernel
theorem j72 : Al c72_ [(0, .iload_n 3, 1, 1), (1, .aload_n 2, 1, 2), (2, .invokevirtual 7, 3, 5), (5, .if_icmp .ge 18, 3, 8), (8, .aload_n 0, 1, 9), (9, .iload_n 1, 1, 10), (10, .iload_n 3, 1, 11), (11, .iadd, 1, 12), (12, .invokevirtual 13, 3, 15), (15, .aload_n 2, 1, 16), (16, .iload_n 3, 1, 17), (17, .invokevirtual 13, 3, 20), (20, .if_icmp .ne 7, 3, 23), (23, .iconst 1, 1, 24), (24, .goto 4, 3, 27), (28, .ireturn, 1, 29)] := by decide +kernel
theorem j73 : Al c73_ [(0, .iconst 2, 1, 1), (1, .newarray .byte, 2, 3), (3, .astore_n 1, 1, 4), (4, .aload_n 1, 1, 5), (5, .iconst 0, 1, 6), (6, .iload_n 0, 1, 7), (7, .invokestatic 111, 3, 10), (10, .aload_n 1, 1, 11), (11, .areturn, 1, 12)] := by decide +kernel
theorem j74 : Al c74_ [(0, .getstatic 44, 3, 3), (3, .ifCond .ne 25, 3, 6), (28, .iload_n 1, 1, 29), (29, .iconst 1, 1, 30), (30, .ishl, 1, 31), (31, .istore_n 1, 1, 32), (32, .aload_n 0, 1, 33), (33, .iload_n 1, 1, 34), (34, .iinc 1 1, 3, 37), (37, .iload_n 2, 1, 38), (38, .getstatic 59, 3, 41), (41, .ishr, 1, 42), (42, .i2b, 1, 43), (43, .bastore, 1, 44), (44, .aload_n 0, 1, 45), (45, .iload_n 1, 1, 46), (46, .iload_n 2, 1, 47), (47, .getstatic 63, 3, 50), (50, .ishr, 1, 51), (51, .i2b, 1, 52), (52, .bastore, 1, 53), (53, .return_, 1, 54)] := by decide +kernel
theorem j75 : Al c75_ [(0, .getstatic 90, 3, 3), (3, .areturn, 1, 4)] := by decide +kernel
theorem j76 : Al c76_ [(0, .aload_n 0, 1, 1), (1, .invokevirtual 83, 3, 4), (4, .ifCond .ne 4, 3, 7), (7, .return_, 1, 8), (8, .aload_n 0, 1, 9), (9, .getfield 15, 3, 12), (12, .arraylength, 1, 13), (13, .invokestatic 26, 3, 16), (16, .astore_n 1, 1, 17), (17, .aload_n 0, 1, 18), (18, .getfield 15, 3, 21), (21, .iconst 0, 1, 22), (22, .aload_n 1, 1, 23), (23, .iconst 0, 1, 24), (24, .aload_n 0, 1, 25), (25, .getfield 79, 3, 28), (28, .invokestatic 125, 3, 31), (31, .aload_n 0, 1, 32), (32, .aload_n 1, 1, 33), (33, .putfield 15, 3, 36), (36, .aload_n 0, 1, 37), (37, .iconst 1, 1, 38), (38, .putfield 22, 3, 41), (41, .return_, 1, 42)] := by decide +kernel
theorem j77 : Al c77_ [(0, .iload_n 0, 1, 1), (1, .invokestatic 11, 3, 4), (4, .newarray .byte, 2, 6), (6, .areturn, 1, 7)] := by decide +kernel
theorem j78 : Al c78_ [(0, .iload_n 0, 1, 1), (1, .ifCond .ge 11, 3, 4), (12, .iload_n 0, 1, 13), (13, .ldc 20, 2, 15), (15, .if_icmp .lt 40, 3, 18), (55, .iload_n 0, 1, 56), (56, .iconst 1, 1, 57), (57, .ishl, 1, 58), (58, .ireturn, 1, 59)] := by decide +kernel
theorem j79 : Al c79_ [(0, .aload_n 0, 1, 1), (1, .iload_n 1, 1, 2), (2, .aload_n 2, 1, 3), (3, .iload_n 3, 1, 4), (4, .iload 4, 2, 6), (6, .invokestatic 240, 3, 9), (9, .return_, 1, 10)] := by decide +kernel
theorem j80 : Al c80_ [(0, .iload_n 3, 1, 1), (1, .iload 4, 2, 3), (3, .aload_n 2, 1, 4), (4, .invokestatic 173, 3, 7), (7, .iconst 0, 1, 8), (8, .istore 5, 2, 10), (10, .iload 5, 2, 12), (12, .iload 4, 2, 14), (14, .if_icmp .ge 27, 3, 17), (17, .aload_n 2, 1, 18), (18, .iload_n 3, 1, 19), (19, .iinc 3 1, 3, 22), (22, .aload_n 0, 1, 23), (23, .iload_n 1, 1, 24), (24, .iinc 1 1, 3, 27), (27, .baload, 1, 28), (28, .sipush 255, 3, 31), (31, .iand, 1, 32), (32, .invokestatic 111, 3, 35), (35, .iinc 5 1, 3, 38), (38, .goto (-28), 3, 41), (41, .return_, 1, 42)] := by decide +kernel
theorem j81 : Al c81_ [(0, .iload_n 0, 1, 1), (1, .iload_n 1, 1, 2), (2, .aload_n 2, 1, 3), (3, .invokestatic 48, 3, 6), (6, .invokestatic 419, 3, 9), (9, .pop, 1, 10), (10, .return_, 1, 11)] := by decide +kernel
theorem j82 : Al c82_ [(0, .aload_n 0, 1, 1), (1, .arraylength, 1, 2), (2, .iconst 1, 1, 3), (3, .ishr, 1, 4), (4, .ireturn, 1, 5)] := by decide +kernel
theorem j83 : Al c83_ [(0, .iload_n 0, 1, 1), (1, .iload_n 1, 1, 2), (2, .iload_n 2, 1, 3), (3, .getstatic 1053, 3, 6), (6, .invokestatic 1065, 3, 9), (9, .ireturn, 1, 10)] := by decide +kernel
theorem j84 : Al c84_ [(0, .iload_n 2, 1, 1), (1, .iload_n 0, 1, 2), (2, .ior, 1, 3), (3, .iload_n 1, 1, 4), (4, .ior, 1, 5), (5, .ifCond .lt 10, 3, 8), (8, .iload_n 1, 1, 9), (9, .iload_n 2, 1, 10), (10, .iload_n 0, 1, 11), (11, .isub, 1, 12), (12, .if_icmp .le 11, 3, 15), (23, .iload_n 0, 1, 24), (24, .ireturn, 1, 25)] := by decide +kernel
theorem j85 : Al c85_ [(0, .aload_n 0, 1, 1), (1, .getfield 7, 3, 4), (4, .arraylength, 1, 5), (5, .ireturn, 1, 6)] := by decide +kernel
theorem j86 : Al c86_ [(0, .iload_n 1, 1, 1), (1, .iconst 4, 1, 2), (2, .iadd, 1, 3), (3, .istore 6, 2, 5), (5, .iload_n 1, 1, 6), (6, .iload 6, 2, 8), (8, .aload_n 0, 1, 9), (9, .invokestatic 96, 3, 12), (12, .aload_n 0, 1, 13), (13, .iload_n 1, 1, 14), (14, .iinc 1 1, 3, 17), (17, .iload_n 2, 1, 18), (18, .invokestatic 111, 3, 21), (21, .aload_n 0, 1, 22), (22, .iload_n 1, 1, 23), (23, .iinc 1 1, 3, 26), (26, .iload_n 3, 1, 27), (27, .invokestatic 111, 3, 30), (30, .aload_n 0, 1, 31), (31, .iload_n 1, 1, 32), (32, .iinc 1 1, 3, 35), (35, .iload 4, 2, 37), (37, .invokestatic 111, 3, 40), (40, .aload_n 0, 1, 41), (41, .iload_n 1, 1, 42), (42, .iinc 1 1, 3, 45), (45, .iload 5, 2, 47), (47, .invokestatic 111, 3, 50), (50, .getstatic 44, 3, 53), (53, .ifCond .ne 17, 3, 56), (70, .iload 6, 2, 72), (72, .ireturn, 1, 73)] := by decide +kernel
theorem j87 : Al c87_ [(0, .iload_n 0, 1, 1), (1, .iload_n 1, 1, 2), (2, .aload_n 2, 1, 3), (3, .invokestatic 48, 3, 6), (6, .invokestatic 241, 3, 9), (9, .return_, 1, 10)] := by decide +kernel
theorem j88 : Al c88_ [(0, .iload_n 0, 1, 1), (1, .iload_n 1, 1, 2), (2, .iload_n 2, 1, 3), (3, .getstatic 1053, 3, 6), (6, .invokestatic 1062, 3, 9), (9, .pop, 1, 10), (10, .return_, 1, 11)] := by decide +kernel
theorem j89 : Al c89_ [(0, .iload_n 0, 1, 1), (1, .ifCond .lt 13, 3, 4), (4, .iload_n 0, 1, 5), (5, .iload_n 1, 1, 6), (6, .if_icmp .gt 8, 3, 9), (9, .iload_n 1, 1, 10), (10, .iload_n 2, 1, 11), (11, .if_icmp .le 11, 3, 14), (22, .iload_n 0, 1, 23), (23, .ireturn, 1, 24)] := by decide +kernel
theorem j90 : Al c90_ [(0, .iload_n 1, 1, 1), (1, .aload_n 0, 1, 2), (2, .invokestatic 67, 3, 5), (5, .aload_n 0, 1, 6), (6, .iload_n 1, 1, 7), (7, .invokestatic 71, 3, 10), (10, .ireturn, 1, 11)] := by decide +kernel
theorem j91 : Al c91_ [(0, .iload_n 0, 1, 1), (1, .aload_n 1, 1, 2), (2, .invokestatic 48, 3, 5), (5, .invokestatic 414, 3, 8), (8, .return_, 1, 9)] := by decide +kernel
theorem j92 : Al c92_ [(0, .getstatic 44, 3, 3), (3, .ifCond .ne 25, 3, 6), (28, .iload_n 1, 1, 29), (29, .iconst 1, 1, 30), (30, .ishl, 1, 31), (31, .istore_n 1, 1, 32), (32, .aload_n 0, 1, 33), (33, .iload_n 1, 1, 34), (34, .iinc 1 1, 3, 37), (37, .baload, 1, 38), (38, .sipush 255, 3, 41), (41, .iand, 1, 42), (42, .getstatic 59, 3, 45), (45, .ishl, 1, 46), (46, .aload_n 0, 1, 47), (47, .iload_n 1, 1, 48), (48, .baload, 1, 49), (49, .sipush 255, 3, 52), (52, .iand, 1, 53), (53, .getstatic 63, 3, 56), (56, .ishl, 1, 57), (57, .ior, 1, 58), (58, .i2c, 1, 59), (59, .ireturn, 1, 60)] := by decide +kernel
theorem j93 : Al c93_ [(0, .iload_n 1, 1, 1), (1, .iconst 5, 1, 2), (2, .iadd, 1, 3), (3, .istore 7, 2, 5), (5, .iload_n 1, 1, 6), (6, .iload 7, 2, 8), (8, .aload_n 0, 1, 9), (9, .invokestatic 96, 3, 12), (12, .aload_n 0, 1, 13), (13, .iload_n 1, 1, 14), (14, .iinc 1 1, 3, 17), (17, .iload_n 2, 1, 18), (18, .invokestatic 111, 3, 21), (21, .aload_n 0, 1, 22), (22, .iload_n 1, 1, 23), (23, .iinc 1 1, 3, 26), (26, .iload_n 3, 1, 27), (27, .invokestatic 111, 3, 30), (30, .aload_n 0, 1, 31), (31, .iload_n 1, 1, 32), (32, .iinc 1 1, 3, 35), (35, .iload 4, 2, 37), (37, .invokestatic 111, 3, 40), (40, .aload_n 0, 1, 41), (41, .iload_n 1, 1, 42), (42, .iinc 1 1, 3, 45), (45, .iload 5, 2, 47), (47, .invokestatic 111, 3, 50), (50, .aload_n 0, 1, 51), (51, .iload_n 1, 1, 52), (52, .iinc 1 1, 3, 55), (55, .iload 6, 2, 57), (57, .invokestatic 111, 3, 60), (60, .getstatic 44, 3, 63), (63, .ifCond .ne 17, 3, 66), (80, .iload 7, 2, 82), (82, .ireturn, 1, 83)] := by decide +kernel
theorem j94 : Al c94_ [(0, .iload_n 1, 1, 1), (1, .aload_n 0, 1, 2), (2, .invokestatic 67, 3, 5), (5, .aload_n 0, 1, 6), (6, .iload_n 1, 1, 7), (7, .iload_n 2, 1, 8), (8, .invokestatic 111, 3, 11), (11, .return_, 1, 12)] := by decide +kernel
theorem j95 : Al c95_ [(0, .aload_n 0, 1, 1), (1, .invokespecial 1, 3, 4), (4, .aload_n 0, 1, 5), (5, .aload_n 1, 1, 6), (6, .invokestatic 7, 3, 9), (9, .putfield 13, 3, 12), (12, .aload_n 0, 1, 13), (13, .aload_n 2, 1, 14), (14, .invokestatic 7, 3, 17), (17, .putfield 24, 3, 20), (20, .return_, 1, 21)] := by decide +kernel
theorem pd_0 : parseMethodDescriptor "([BII)V" = some ⟨[(.array .byte), .int, .int], none⟩ := by decide +kernel
theorem pd_1 : parseMethodDescriptor "(C)Z" = some ⟨[.char], some .boolean⟩ := by decide +kernel
theorem pd_2 : parseMethodDescriptor "(C)[B" = some ⟨[.char], some (.array .byte)⟩ := by decide +kernel
theorem pd_3 : parseMethodDescriptor "([BB)V" = some ⟨[(.array .byte), .byte], none⟩ := by decide +kernel
theorem pd_4 : parseMethodDescriptor "()I" = some ⟨[], some .int⟩ := by decide +kernel
theorem pd_5 : parseMethodDescriptor "(Ljava/util/List;I)V" = some ⟨[(.object S26_), .int], none⟩ := by decide +kernel
theorem pd_6 : parseMethodDescriptor "()Ljava/util/Iterator;" = some ⟨[], some (.object "java/util/Iterator")⟩ := by decide +kernel
theorem pd_7 : parseMethodDescriptor "()Z" = some ⟨[], some .boolean⟩ := by decide +kernel
theorem pd_8 : parseMethodDescriptor "(I)V" = some ⟨[.int], none⟩ := by decide +kernel
theorem pd_9 : parseMethodDescriptor "()B" = some ⟨[], some .byte⟩ := by decide +kernel
theorem pd_10 : parseMethodDescriptor "()V" = some ⟨[], none⟩ := by decide +kernel
theorem pd_11 : parseMethodDescriptor "(IIILjava/util/function/BiFunction;)I" = some ⟨[.int, .int, .int, (.object "java/util/function/BiFunction")], some .int⟩ := by decide +kernel
theorem pd_12 : parseMethodDescriptor "([B)I" = some ⟨[(.array .byte)], some .int⟩ := by decide +kernel
theorem pd_13 : parseMethodDescriptor "(III)I" = some ⟨[.int, .int, .int], some .int⟩ := by decide +kernel
theorem pd_14 : parseMethodDescriptor "(II[B)V" = some ⟨[.int, .int, (.array .byte)], none⟩ := by decide +kernel
theorem pd_15 : parseMethodDescriptor "([BI[BII)V" = some ⟨[(.array .byte), .int, (.array .byte), .int, .int], none⟩ := by decide +kernel
theorem pd_16 : parseMethodDescriptor "(IILjava/util/function/BiFunction;)I" = some ⟨[.int, .int, (.object "java/util/function/BiFunction")], some .int⟩ := by decide +kernel
theorem pd_17 : parseMethodDescriptor "(II)V" = some ⟨[.int, .int], none⟩ := by decide +kernel
theorem pd_18 : parseMethodDescriptor "([BI)C" = some ⟨[(.array .byte), .int], some .char⟩ := by decide +kernel
theorem pd_19 : parseMethodDescriptor "(I[B)V" = some ⟨[.int, (.array .byte)], none⟩ := by decide +kernel
theorem pd_20 : parseMethodDescriptor "(C)Ljava/lang/AbstractStringBuilder;" = some ⟨[.char], some (.object S2_)⟩ := by decide +kernel
theorem pd_21 : parseMethodDescriptor "()Ljava/lang/String;" = some ⟨[], some (.object S6_)⟩ := by decide +kernel
theorem pd_22 : parseMethodDescriptor "(Ljava/lang/String;)V" = some ⟨[(.object S6_)], none⟩ := by decide +kernel
theorem pd_23 : parseMethodDescriptor "([BIB)V" = some ⟨[(.array .byte), .int, .byte], none⟩ := by decide +kernel
theorem pd_24 : parseMethodDescriptor "(ILjava/lang/String;)V" = some ⟨[.int, (.object S6_)], none⟩ := by decide +kernel
theorem pd_25 : parseMethodDescriptor "(I)I" = some ⟨[.int], some .int⟩ := by decide +kernel
theorem pd_26 : parseMethodDescriptor "(I)[B" = some ⟨[.int], some (.array .byte)⟩ := by decide +kernel
theorem pd_27 : parseMethodDescriptor "(Ljava/lang/String;)Ljava/lang/AbstractStringBuilder;" = some ⟨[(.object S6_)], some (.object S2_)⟩ := by decide +kernel
theorem pd_28 : parseMethodDescriptor "(Ljava/lang/Object;)Ljava/lang/String;" = some ⟨[(.object S8_)], some (.object S6_)⟩ := by decide +kernel
theorem pd_29 : parseMethodDescriptor "(Ljava/lang/String;)Ljava/lang/StringBuilder;" = some ⟨[(.object S6_)], some (.object S10_)⟩ := by decide +kernel
theorem pd_30 : parseMethodDescriptor "(II)I" = some ⟨[.int, .int], some .int⟩ := by decide +kernel
theorem pd_31 : parseMethodDescriptor "([BII)[B" = some ⟨[(.array .byte), .int, .int], some (.array .byte)⟩ := by decide +kernel
theorem pd_32 : parseMethodDescriptor "()[B" = some ⟨[], some (.array .byte)⟩ := by decide +kernel
theorem pd_33 : parseMethodDescriptor "(Ljava/lang/AbstractStringBuilder;Ljava/lang/Void;)V" = some ⟨[(.object S2_), (.object "java/lang/Void")], none⟩ := by decide +kernel
theorem pd_34 : parseMethodDescriptor "(Ljava/lang/StringBuilder;)V" = some ⟨[(.object S10_)], none⟩ := by decide +kernel
theorem pd_35 : parseMethodDescriptor "(I)Ljava/lang/Object;" = some ⟨[.int], some (.object S8_)⟩ := by decide +kernel
theorem pd_36 : parseMethodDescriptor "(C)Ljava/lang/StringBuilder;" = some ⟨[.char], some (.object S10_)⟩ := by decide +kernel
theorem pd_37 : parseMethodDescriptor "()Ljava/lang/Object;" = some ⟨[], some (.object S8_)⟩ := by decide +kernel
theorem pd_38 : parseMethodDescriptor "(Ljava/lang/Object;)Ljava/lang/StringBuilder;" = some ⟨[(.object S8_)], some (.object S10_)⟩ := by decide +kernel
theorem pd_39 : parseMethodDescriptor "([BI)[B" = some ⟨[(.array .byte), .int], some (.array .byte)⟩ := by decide +kernel
theorem pd_40 : parseMethodDescriptor "(III)V" = some ⟨[.int, .int, .int], none⟩ := by decide +kernel
theorem pd_41 : parseMethodDescriptor "([BICCCCC)I" = some ⟨[(.array .byte), .int, .char, .char, .char, .char, .char], some .int⟩ := by decide +kernel
theorem pd_42 : parseMethodDescriptor "(Z)Ljava/lang/AbstractStringBuilder;" = some ⟨[.boolean], some (.object S2_)⟩ := by decide +kernel
theorem pd_43 : parseMethodDescriptor "([BICCCC)I" = some ⟨[(.array .byte), .int, .char, .char, .char, .char], some .int⟩ := by decide +kernel
theorem pd_44 : parseMethodDescriptor "(Z)Ljava/lang/StringBuilder;" = some ⟨[.boolean], some (.object S10_)⟩ := by decide +kernel
theorem pd_45 : parseMethodDescriptor "(I)[Ljava/lang/Object;" = some ⟨[.int], some (.array (.object S8_))⟩ := by decide +kernel
theorem pd_46 : parseMethodDescriptor "()[Ljava/lang/Object;" = some ⟨[], some (.array (.object S8_))⟩ := by decide +kernel
theorem pd_47 : parseMethodDescriptor "(Ljava/lang/Object;[Ljava/lang/Object;I)V" = some ⟨[(.object S8_), (.array (.object S8_)), .int], none⟩ := by decide +kernel
theorem pd_48 : parseMethodDescriptor "()Ljava/util/List;" = some ⟨[], some (.object S26_)⟩ := by decide +kernel
theorem pd_49 : parseMethodDescriptor "(Ljava/util/Collection;)Ljava/util/List;" = some ⟨[(.object "java/util/Collection")], some (.object S26_)⟩ := by decide +kernel
theorem pd_50 : parseMethodDescriptor "([Ljava/lang/Object;ILjava/lang/Class;)[Ljava/lang/Object;" = some ⟨[(.array (.object S8_)), .int, (.object "java/lang/Class")], some (.array (.object S8_))⟩ := by decide +kernel
theorem pd_51 : parseMethodDescriptor "([Ljava/lang/Object;I)[Ljava/lang/Object;" = some ⟨[(.array (.object S8_)), .int], some (.array (.object S8_))⟩ := by decide +kernel
theorem pd_52 : parseMethodDescriptor "(Ljava/lang/Object;)Ljava/lang/Object;" = some ⟨[(.object S8_)], some (.object S8_)⟩ := by decide +kernel
theorem pd_53 : parseMethodDescriptor "(Ljava/lang/Object;)V" = some ⟨[(.object S8_)], none⟩ := by decide +kernel
theorem pd_54 : parseMethodDescriptor "([Ljava/lang/Object;)Ljava/util/List;" = some ⟨[(.array (.object S8_))], some (.object S26_)⟩ := by decide +kernel
theorem pd_55 : parseMethodDescriptor "(Ljava/lang/Object;Ljava/lang/Object;)V" = some ⟨[(.object S8_), (.object S8_)], none⟩ := by decide +kernel
theorem pd_56 : parseMethodDescriptor "(I)C" = some ⟨[.int], some .char⟩ := by decide +kernel
theorem pd_57 : parseMethodDescriptor "(Ljava/lang/String;ILjava/lang/String;I)Z" = some ⟨[(.object S6_), .int, (.object S6_), .int], some .boolean⟩ := by decide +kernel
theorem pd_58 : parseMethodDescriptor "(C)Ljava/lang/String;" = some ⟨[.char], some (.object S6_)⟩ := by decide +kernel
theorem pd_59 : parseMethodDescriptor "(Ljava/lang/String;Ljava/lang/String;Ljava/lang/String;Ljava/util/List;Z)V" = some ⟨[(.object S6_), (.object S6_), (.object S6_), (.object S26_), .boolean], none⟩ := by decide +kernel
theorem pd_60 : parseMethodDescriptor "(Ljava/lang/Object;)Z" = some ⟨[(.object S8_)], some .boolean⟩ := by decide +kernel
theorem pd_61 : parseMethodDescriptor "(Ljava/lang/String;ILjava/lang/String;)Z" = some ⟨[(.object S6_), .int, (.object S6_)], some .boolean⟩ := by decide +kernel
theorem own_cc {x : Int32} (h : ¬ x < 0 ∧ ¬ (65535 : Int32) < x) : nar .char x = x := by
 have e1 : (0 : Int32).toInt = 0 := rfl
 have e2 : (65535 : Int32).toInt = 65535 := rfl
 rw [Int32.lt_iff_toInt_lt, Int32.lt_iff_toInt_lt] at h
 have := c_i2c x
 have e : nar .char x = x.toUInt32.toUInt16.toUInt32.toInt32 := rfl
 rw [e]
 apply Int32.toInt_inj.mp
 omega
theorem own_bb (b : Int32) : b.toInt8.toInt32.toInt8.toInt32 = b.toInt8.toInt32 := by simp
theorem own_255 {x : Int32} (h : ¬ x < 0 ∧ ¬ (255 : Int32) < x) : ¬ x < 0 ∧ ¬ (65535 : Int32) < x := by
 have e1 : (0 : Int32).toInt = 0 := rfl
 have e2 : (65535 : Int32).toInt = 65535 := rfl
 have e3 : (255 : Int32).toInt = 255 := rfl
 rw [Int32.lt_iff_toInt_lt, Int32.lt_iff_toInt_lt] at h ⊢
 omega
theorem own_i2c {x : Int32} (h : ¬ x < 0 ∧ ¬ (255 : Int32) < x) : x.toUInt32.toUInt16.toUInt32.toInt32 = x := own_cc (own_255 h)
theorem own_eqI {args : Array Value} {s : State} {t u : Term} {x y : Int32} (ht : t.eval args s none [] s = some (.int x)) (hu : u.eval args s none [] s = some (.int y)) : (Jvm.Cond.eq t u).value args s none s [] = some (decide (x = y)) := by simp [Cond.value, ht, hu]

def own_b (c : Int32) : Value := .int ((Int32.toInt8 c).toInt32)
def Lat (cs : List Int32) : Prop := ∀ c ∈ cs, ¬ c < 0 ∧ ¬ (255 : Int32) < c
/-- the String b, its bytes in the array t, says the chars cs, all of Latin-1 -/
def Str (Z : State) (h : Heap) (b t : Addr) (k : ClassId) (cs : List Int32) : Prop := Obj Z h b S6_ [(S6_, "value", "[B", .ref t), (S6_, "coder", "B", .int 0)] ∧ Arv Z h t k .byte (Int32.ofNat cs.length) (cs.map own_b) (.int 0) ∧ Lat cs ∧ cs.length < 1000000
theorem Str.keep {Z : State} {h h' : Heap} {b t : Addr} {k : ClassId} {cs : List Int32} {ws : List Addr} (S : Str Z h b t k cs) (K : Keep h h' ws) (q : b ∉ ws) (r : t ∉ ws) : Str Z h' b t k cs := ⟨S.1.keep K q, S.2.1.keep K r, S.2.2⟩
theorem own_n0 (n : Nat) (h : n < 2147483648) : (Int32.ofNat n).toInt = n := Int32.toInt_ofNat_small h
theorem own_nn {n : Nat} (h : n < 2147483648) : ¬ Int32.ofNat n < 0 := by rw [Int32.lt_iff_toInt_lt, own_n0 n h]; show ¬ (n : Int) < 0; omega
theorem own_lt {a b : Nat} (h : a < b) (hb : b < 2147483648) : Int32.ofNat a < Int32.ofNat b := by rw [Int32.lt_iff_toInt_lt, own_n0 a (by omega), own_n0 b hb]; omega
theorem own_nlt {a b : Nat} (h : b ≤ a) (hb : a < 2147483648) : ¬ Int32.ofNat a < Int32.ofNat b := by rw [Int32.lt_iff_toInt_lt, own_n0 a hb, own_n0 b (by omega)]; omega
theorem own_cl {n : Nat} (h : n < 2147483648) : (Int32.ofNat n).toNatClampNeg = n := by
 have := own_n0 n h
 simp only [Int32.toNatClampNeg, this]; rfl
theorem own_inj {a b : Nat} (ha : a < 2147483648) (hb : b < 2147483648) : Int32.ofNat a = Int32.ofNat b ↔ a = b := ⟨fun q => by have := congrArg Int32.toInt q; rw [own_n0 a ha, own_n0 b hb] at this; omega, fun q => by rw [q]⟩
theorem own_add {a b : Nat} (h : a + b < 2147483648) : Int32.ofNat a + Int32.ofNat b = Int32.ofNat (a + b) := by
 apply Int32.toInt_inj.mp
 rw [Int32.toInt_add, own_n0 a (by omega), own_n0 b (by omega), own_n0 _ h]
 rw [Int.bmod_eq_of_le (by omega) (by omega)]; omega
theorem own_getb (xs : List Int32) (i : Nat) : (xs.map Value.int).getD i (.int 0) = .int (xs.getD i 0) := by
 simp only [List.getD_eq_getElem?_getD, List.getElem?_map]; cases xs[i]? <;> rfl
theorem own_mapb (cs : List Int32) : cs.map own_b = (cs.map fun c => (Int32.toInt8 c).toInt32).map Value.int := by simp [own_b, Function.comp_def]
theorem own_sub {a b : Nat} (h : b ≤ a) (ha : a < 2147483648) : Int32.ofNat a - Int32.ofNat b = Int32.ofNat (a - b) := by
 apply Int32.toInt_inj.mp
 rw [Int32.toInt_sub, own_n0 a ha, own_n0 b (by omega), own_n0 _ (by omega)]
 rw [Int.bmod_eq_of_le (by omega) (by omega)]; omega
theorem own_shr0 (x : Int32) : x >>> ((0 : Int32) &&& 31) = x := by
 apply Int32.toInt_inj.mp
 have := c_ishr x 0 0 (by decide)
 rw [this]; simp
theorem own_shl0 (x : Int32) : x <<< ((0 : Int32) &&& 31) = x := by
 apply Int32.toInt_inj.mp
 have h := c_ishl x 0 0 (by decide)
 have h1 := Int32.toInt_lt (x <<< ((0 : Int32) &&& 31)); have h2 := Int32.le_toInt (x <<< ((0 : Int32) &&& 31)); have h3 := Int32.toInt_lt x; have h4 := Int32.le_toInt x
 omega
/-- a copy of a whole array's values into a longer fresh one says the same -/
theorem own_copy (vs : List Value) (d : Value) (n c : Nat) (h1 : vs.length ≤ c) (h2 : c ≤ n) (i : Nat) : (((List.replicate n d).take 0 ++ (List.range c).map fun i => vs.getD (0 + i) d) ++ (List.replicate n d).drop (0 + c)).getD i d = vs.getD i d := by
 simp only [List.take_zero, List.nil_append, Nat.zero_add, List.getD_eq_getElem?_getD]
 by_cases q : i < c
 · rw [List.getElem?_append_left (by simpa using q)]; simp [q]
 · rw [List.getElem?_append_right (by simpa using q), List.getElem?_eq_none (l := vs) (by omega)]
   simp only [List.getElem?_drop, List.getElem?_replicate]; split <;> rfl
/-- values written behind the first ones -/
theorem own_app (xs ys : List Value) (d : Value) (m : Nat) (i : Nat) : (((xs ++ List.replicate (ys.length + m) d).take xs.length ++ ys) ++ (xs ++ List.replicate (ys.length + m) d).drop (xs.length + ys.length)).getD i d = (xs ++ ys).getD i d := by
 rw [List.take_left, List.drop_append, List.drop_eq_nil_of_le (by omega), List.nil_append, show xs.length + ys.length - xs.length = ys.length by omega, List.drop_replicate]
 simp only [List.getD_eq_getElem?_getD]
 by_cases q : i < (xs ++ ys).length
 · rw [List.getElem?_append_left q]
 · rw [List.getElem?_append_right (by omega), List.getElem?_eq_none (l := xs ++ ys) (by omega), List.getElem?_replicate]; split <;> rfl
theorem own_rng (ys : List Value) (d : Value) : (List.range ys.length).map (fun i => ys.getD (0 + i) d) = ys := by
 apply List.ext_getElem?; intro i
 by_cases q : i < ys.length
 · simp [q]
 · rw [List.getElem?_eq_none (by simpa using q), List.getElem?_eq_none (by simpa using q)]
theorem own_lat0 : Lat [] := fun _ q => nomatch q
theorem own_lat_app {xs ys : List Int32} (h1 : Lat xs) (h2 : Lat ys) : Lat (xs ++ ys) := fun c hc => (List.mem_append.mp hc).elim (h1 c) (h2 c)
/-- the builder a, its bytes in the array t of length cap, holds the chars xs, all of Latin-1 -/
def SBd (Z : State) (h : Heap) (a t : Addr) (k : ClassId) (cap : Nat) (xs : List Int32) : Prop := Obj Z h a S10_ [(S2_, "value", "[B", (.ref t)), (S2_, "coder", "B", (.int 0)), (S2_, "count", "I", (.int (Int32.ofNat xs.length))), (S2_, S21_, "Z", (.int 0))] ∧ Arv Z h t k .byte (Int32.ofNat cap) (xs.map own_b) (.int 0) ∧ Exa Z h t "[B" ∧ Lat xs ∧ xs.length ≤ cap ∧ cap < 1000000
theorem own_ltI {a b : Nat} (ha : a < 2147483648) (hb : b < 2147483648) : Int32.ofNat a < Int32.ofNat b ↔ a < b := by rw [Int32.lt_iff_toInt_lt, own_n0 a ha, own_n0 b hb]; omega
def own_lo (c : Int32) : Int32 := (Int32.toInt8 c).toInt32
def own_hi (c : Int32) : Int32 := (Int32.toInt8 (c >>> ((8 : Int32) &&& 31))).toInt32
def own_w (c : Int32) : List Value := [.int (own_lo c), .int (own_hi c)]
def own_ws (cs : List Int32) : List Value := cs.flatMap own_w
theorem own_wsl (cs : List Int32) : (own_ws cs).length = 2 * cs.length := by
 induction cs with
 | nil => rfl
 | cons c cs ih => rw [own_ws, List.flatMap_cons, List.length_append, ← own_ws, ih, List.length_cons]; show 2 + _ = _; omega
theorem own_wsa (xs ys : List Int32) : own_ws (xs ++ ys) = own_ws xs ++ own_ws ys := List.flatMap_append ..
theorem own_shl1 {n : Nat} (h : n < 1073741824) : Int32.ofNat n <<< ((1 : Int32) &&& 31) = Int32.ofNat (2 * n) := by
 apply Int32.toInt_inj.mp
 have h1 := c_ishl (Int32.ofNat n) 1 1 (by decide)
 rw [own_n0 n (by omega)] at h1
 rw [own_n0 _ (by omega)]
 have h2 := Int32.toInt_lt (Int32.ofNat n <<< ((1 : Int32) &&& 31)); have h3 := Int32.le_toInt (Int32.ofNat n <<< ((1 : Int32) &&& 31))
 omega
theorem own_shr1 {n : Nat} (h : n < 1073741824) : Int32.ofNat (2 * n) >>> ((1 : Int32) &&& 31) = Int32.ofNat n := by
 apply Int32.toInt_inj.mp
 have h1 := c_ishr (Int32.ofNat (2 * n)) 1 1 (by decide)
 rw [h1, own_n0 _ (by omega), own_n0 _ (by omega)]; omega
theorem own_put (xs : List Int32) (c : Int32) : ((own_ws xs ++ List.replicate 2 (Value.int 0)).set (2 * xs.length) (.int (own_lo c))).set (2 * xs.length + 1) (.int (own_hi c)) = own_ws (xs ++ [c]) := by
 rw [own_wsa, ← own_wsl, List.set_append_right _ _ (Nat.le_refl _), List.set_append_right _ _ (Nat.le_succ _)]
 simp [own_ws, own_w]
theorem own_getw : ∀ (xs : List Int32) (i : Nat), i < xs.length → (own_ws xs).getD (2 * i) (.int 0) = .int (own_lo (xs.getD i 0)) ∧ (own_ws xs).getD (2 * i + 1) (.int 0) = .int (own_hi (xs.getD i 0))
 | [], i, h => absurd h (Nat.not_lt_zero _)
 | c :: xs, 0, _ => ⟨rfl, rfl⟩
 | c :: xs, i + 1, h => by
   have := own_getw xs i (Nat.lt_of_succ_lt_succ h)
   have e : own_ws (c :: xs) = .int (own_lo c) :: .int (own_hi c) :: own_ws xs := rfl
   rw [e, show 2 * (i + 1) = 2 * i + 1 + 1 by omega]
   exact this
theorem own_or {a b : Nat} (ha : a < 256) (hb : b < 256) : Int32.ofNat a ||| Int32.ofNat (256 * b) = Int32.ofNat (256 * b + a) := by
 have h : 256 * b + a = 256 * b ||| a := Nat.two_pow_add_eq_or_of_lt (i := 8) ha b
 rw [h, Nat.or_comm]
 apply Int32.toBitVec_inj.mp
 rw [Int32.toBitVec_or]
 show BitVec.ofNat 32 a ||| BitVec.ofNat 32 (256 * b) = BitVec.ofNat 32 (a ||| 256 * b)
 rw [BitVec.ofNat_or]
theorem own_wchar {c : Int32} (h : ¬ c < 0 ∧ ¬ (65535 : Int32) < c) : ((own_lo c &&& 255) <<< ((0 : Int32) &&& 31)) ||| ((own_hi c &&& 255) <<< ((8 : Int32) &&& 31)) = c := by
 have e1 : (0 : Int32).toInt = 0 := rfl
 have e2 : (65535 : Int32).toInt = 65535 := rfl
 rw [Int32.lt_iff_toInt_lt, Int32.lt_iff_toInt_lt] at h
 have h1 : (own_lo c &&& 255).toInt = (own_lo c).toInt % (2 ^ 8 : Nat) := c_mask _ 255 8 (by decide) (by decide)
 have h2 : (own_hi c &&& 255).toInt = (own_hi c).toInt % (2 ^ 8 : Nat) := c_mask _ 255 8 (by decide) (by decide)
 have h3 := c_i2b c
 have h4 := c_i2b (c >>> ((8 : Int32) &&& 31))
 have h5 := c_ishr c 8 8 (by decide)
 have h6 := c_ishl (own_lo c &&& 255) 0 0 (by decide)
 have h7 := c_ishl (own_hi c &&& 255) 8 8 (by decide)
 have b1 := Int32.toInt_lt ((own_lo c &&& 255) <<< ((0 : Int32) &&& 31)); have b2 := Int32.le_toInt ((own_lo c &&& 255) <<< ((0 : Int32) &&& 31))
 have b3 := Int32.toInt_lt ((own_hi c &&& 255) <<< ((8 : Int32) &&& 31)); have b4 := Int32.le_toInt ((own_hi c &&& 255) <<< ((8 : Int32) &&& 31))
 have d1 : (own_lo c).toInt = (Int32.toInt8 c).toInt32.toInt := rfl
 have d2 : (own_hi c).toInt = (Int32.toInt8 (c >>> ((8 : Int32) &&& 31))).toInt32.toInt := rfl
 obtain ⟨a, ha⟩ : ∃ a : Nat, (a : Int) = c.toInt % 256 := ⟨(c.toInt % 256).toNat, by omega⟩
 obtain ⟨b, hb⟩ : ∃ b : Nat, (b : Int) = c.toInt / 256 := ⟨(c.toInt / 256).toNat, by omega⟩
 have x1 : (own_lo c &&& 255) <<< ((0 : Int32) &&& 31) = Int32.ofNat a := Int32.toInt_inj.mp (by rw [own_n0 a (by omega)]; omega)
 have x2 : (own_hi c &&& 255) <<< ((8 : Int32) &&& 31) = Int32.ofNat (256 * b) := Int32.toInt_inj.mp (by rw [own_n0 _ (by omega)]; omega)
 rw [x1, x2, own_or (by omega) (by omega)]
 exact Int32.toInt_inj.mp (by rw [own_n0 _ (by omega)]; omega)
theorem own_take1 {cs : List Int32} {i : Nat} (h : i < cs.length) : cs.take i ++ [cs.getD i 0] = cs.take (i + 1) := by
 rw [List.take_succ_eq_append_getElem h, List.getD_eq_getElem?_getD, List.getElem?_eq_getElem h]; rfl
theorem own_tkl {cs : List Int32} {i : Nat} (h : i ≤ cs.length) : (cs.take i).length = i := by rw [List.length_take]; omega
theorem own_or2 {a b : Nat} : Int32.ofNat a ||| Int32.ofNat b = Int32.ofNat (a ||| b) := by
 apply Int32.toBitVec_inj.mp
 rw [Int32.toBitVec_or]
 show BitVec.ofNat 32 a ||| BitVec.ofNat 32 b = BitVec.ofNat 32 (a ||| b)
 rw [BitVec.ofNat_or]
theorem own_orlt {a b : Nat} (ha : a < 1073741824) (hb : b < 1073741824) : a ||| b < 1073741824 := Nat.or_lt_two_pow (n := 30) ha hb
/-- chars of Java -/
def Chs (cs : List Int32) : Prop := ∀ c ∈ cs, ¬ c < 0 ∧ ¬ (65535 : Int32) < c
/-- the String b, its bytes in the array t, says the chars cs, two bytes each -/
def Stw (Z : State) (h : Heap) (b t : Addr) (k : ClassId) (cs : List Int32) : Prop := Obj Z h b S6_ [(S6_, "value", "[B", .ref t), (S6_, "coder", "B", .int 1)] ∧ Arv Z h t k .byte (Int32.ofNat (2 * cs.length)) (own_ws cs) (.int 0) ∧ Chs cs ∧ cs.length < 1000000
theorem Stw.keep {Z : State} {h h' : Heap} {b t : Addr} {k : ClassId} {cs : List Int32} {ws : List Addr} (S : Stw Z h b t k cs) (K : Keep h h' ws) (q : b ∉ ws) (r : t ∉ ws) : Stw Z h' b t k cs := ⟨S.1.keep K q, S.2.1.keep K r, S.2.2⟩
theorem own_chg {ys : List Int32} (h : Chs ys) {i : Nat} (hi : i < ys.length) : ¬ ys.getD i 0 < 0 ∧ ¬ (65535 : Int32) < ys.getD i 0 := by
 rw [List.getD_eq_getElem?_getD, List.getElem?_eq_getElem hi]; exact h _ (List.getElem_mem hi)
theorem own_b255 {c : Int32} (h : ¬ c < 0 ∧ ¬ (255 : Int32) < c) : (Int32.toInt8 c).toInt32 &&& 255 = c := by
 have e1 : (0 : Int32).toInt = 0 := rfl
 have e2 : (255 : Int32).toInt = 255 := rfl
 rw [Int32.lt_iff_toInt_lt, Int32.lt_iff_toInt_lt] at h
 have h1 := c_i2b c
 have h2 : ((Int32.toInt8 c).toInt32 &&& 255).toInt = ((Int32.toInt8 c).toInt32).toInt % (2 ^ 8 : Nat) := c_mask _ 255 8 (by decide) (by decide)
 apply Int32.toInt_inj.mp
 omega
theorem own_gbv (ys : List Int32) (i : Nat) : (ys.map own_b).getD i (.int 0) = .int ((Int32.toInt8 (ys.getD i 0)).toInt32) := by
 rw [own_mapb, own_getb]; congr 1; simp only [List.getD_eq_getElem?_getD, List.getElem?_map]; cases ys[i]? <;> rfl
theorem own_latg {ys : List Int32} (h : Lat ys) {i : Nat} (hi : i < ys.length) : ¬ ys.getD i 0 < 0 ∧ ¬ (255 : Int32) < ys.getD i 0 := by
 rw [List.getD_eq_getElem?_getD, List.getElem?_eq_getElem hi]; exact h _ (List.getElem_mem hi)
def own_8 (z : Int32) : Int32 := (Int32.toInt8 z).toInt32
theorem own_88 (z : Int32) : (Int32.toInt8 (own_8 z)).toInt32 = own_8 z := own_bb z
theorem own_map8 (cs : List Int32) : cs.map own_b = (cs.map own_8).map Value.int := own_mapb cs
theorem own_setL (L : List Int32) (y : Int32) : ((L.map Value.int) ++ List.replicate (1 + 0) (Value.int 0)).set L.length (.int y) = (L ++ [y]).map Value.int := by
 rw [← List.length_map (f := Value.int) (as := L), List.set_append_right _ _ (Nat.le_refl _), Nat.sub_self, List.map_append]; rfl
/-- a byte behind the bytes L -/
theorem own_bapp {w : Nat} {l : Launch} {Z : State} {EL : List (String × Nat)} {n0 : Nat} {own nm : String} {code : ByteArray} {ml : Nat} {ret : Option FieldType} {R : Room} {Q : Option Value → Heap → List Addr → Prop} {D : List Addr} {h : Heap} {kc ks pc pc' : Nat} {ls : Array Slot} {rest : List Value} {a : Addr} {k : ClassId} {x y : Int32} {L : List Int32} {c j : Nat} (hd : Ins code pc .bastore 1 pc') (A : Arv Z h a k .byte (Int32.ofNat c) (L.map Value.int) (.int 0)) (hj : j = L.length) (hc : L.length < c) (hcap : c < 2147483648) (hy : x.toInt8.toInt32 = y) (hg : n0 ≤ a) (hD : a ∈ D)
   (K : ∀ h', Keep h h' [a] → Arv Z h' a k .byte (Int32.ofNat c) ((L ++ [y]).map Value.int) (.int 0) → Runs w l Z EL n0 own nm code ml ret R Q D h' kc ks pc' ls rest) : Runs w l Z EL n0 own nm code ml ret R Q D h kc ks pc ls (.int x :: .int (Int32.ofNat j) :: .ref a :: rest) := by
 subst hj
 have A1 : Arv Z h a k .byte (Int32.ofNat c) (L.map Value.int ++ List.replicate (1 + 0) (.int 0)) (.int 0) := A.pad (pad_rep _ _ _)
 refine Runs.bastore (i := L.length) (y := y) hd A1 ⟨own_nn (by omega), own_lt (by omega) (by omega)⟩ (own_cl (by omega)) (by simp) hy hg (Or.inl hD) ?_
 intro h' K' A'
 exact K h' K' (by rw [← own_setL]; exact A')
/-- the String b says the chars cs; its bytes are one a char where all are of Latin-1, else two -/
def Sx (Z : State) (h : Heap) (b t : Addr) (k : ClassId) (cs : List Int32) : Prop := Str Z h b t k cs ∨ (¬ Lat cs ∧ Stw Z h b t k cs)
theorem Sx.keep {Z : State} {h h' : Heap} {b t : Addr} {k : ClassId} {cs : List Int32} {ws : List Addr} (S : Sx Z h b t k cs) (K : Keep h h' ws) (q : b ∉ ws) (r : t ∉ ws) : Sx Z h' b t k cs := S.imp (fun S => S.keep K q r) (fun S => ⟨S.1, S.2.keep K q r⟩)
/-- the builder a, its bytes in the array t of length 2 * cap, holds the chars xs, two bytes each -/
def SBw (Z : State) (h : Heap) (a t : Addr) (k : ClassId) (cap : Nat) (xs : List Int32) : Prop := Obj Z h a S10_ [(S2_, "value", "[B", (.ref t)), (S2_, "coder", "B", (.int 1)), (S2_, "count", "I", (.int (Int32.ofNat xs.length))), (S2_, S21_, "Z", (.int 0))] ∧ Arv Z h t k .byte (Int32.ofNat (2 * cap)) (own_ws xs) (.int 0) ∧ Exa Z h t "[B" ∧ Chs xs ∧ xs.length ≤ cap ∧ cap < 1000000
theorem own_chl {xs : List Int32} (h : Lat xs) : Chs xs := fun c hc => own_255 (h c hc)
theorem own_cha_app {xs ys : List Int32} (h1 : Chs xs) (h2 : Chs ys) : Chs (xs ++ ys) := fun c hc => (List.mem_append.mp hc).elim (h1 c) (h2 c)
/-- the String b says the chars cs -/
def Sy (Z : State) (h : Heap) (b t : Addr) (k : ClassId) (cs : List Int32) : Prop := Str Z h b t k cs ∨ Stw Z h b t k cs
theorem Sy.keep {Z : State} {h h' : Heap} {b t : Addr} {k : ClassId} {cs : List Int32} {ws : List Addr} (S : Sy Z h b t k cs) (K : Keep h h' ws) (q : b ∉ ws) (r : t ∉ ws) : Sy Z h' b t k cs := S.imp (fun S => S.keep K q r) (fun S => S.keep K q r)
/-- the builder a holds the chars xs -/
def SBx (Z : State) (h : Heap) (a t : Addr) (k : ClassId) (cap : Nat) (xs : List Int32) : Prop := SBd Z h a t k cap xs ∨ SBw Z h a t k cap xs
theorem SBx.keep {Z : State} {h h' : Heap} {a t : Addr} {k : ClassId} {cap : Nat} {xs : List Int32} {ws : List Addr} (B : SBx Z h a t k cap xs) (K : Keep h h' ws) (q : a ∉ ws) (r : t ∉ ws) : SBx Z h' a t k cap xs := B.imp (fun B => ⟨B.1.keep K q, B.2.1.keep K r, B.2.2.1.keep K, B.2.2.2⟩) (fun B => ⟨B.1.keep K q, B.2.1.keep K r, B.2.2.1.keep K, B.2.2.2⟩)
theorem own_sto {Z : State} {h : Heap} {b y : Addr} {k : ClassId} {ty : FieldType} {z : Int32} {vs : List Value} {d : Value} {C : String} (A : Arv Z h b k ty z vs d) (O : RoadKit.Ovr Z k C) (I : RoadKit.Ins Z h y C true) : RoadKit.Sto Z h b (.ref y) := by
 obtain ⟨cl, A1, q1, -⟩ := A
 exact RoadKit.Sto.of A1 (by rw [q1]; exact O) I
theorem own_capq {Z : State} {h : Heap} {a t : Addr} {k : ClassId} {c c' : Nat} {xs : List Int32} (B : SBx Z h a t k c xs) (e : c = c') : SBx Z h a t k c' xs := e ▸ B
theorem own_sxa {Z : State} {h : Heap} {s u : Addr} {k : ClassId} {ys : List Int32} (S : Sy Z h s u k ys) : Exa Z h s S6_ ∧ u < h.size := S.elim (fun q => ⟨q.1.1, q.2.1.lt⟩) (fun q => ⟨q.1.1, q.2.1.lt⟩)
theorem own_sbb_ {Z : State} {h : Heap} {a t : Addr} {k : ClassId} {c : Nat} {xs : List Int32} (B : SBx Z h a t k c xs) : Exa Z h a S10_ ∧ t < h.size := B.elim (fun q => ⟨q.1.1, q.2.1.lt⟩) (fun q => ⟨q.1.1, q.2.1.lt⟩)
def own_W (z : Int32) : List Int32 := if z = 1 then [116, 114, 117, 101] else [102, 97, 108, 115, 101]
theorem own_W1 : own_W 1 = [116, 114, 117, 101] := by decide
theorem own_W0 : own_W 0 = [102, 97, 108, 115, 101] := by decide
theorem own_syl {Z : State} {h : Heap} {s u : Addr} {k : ClassId} {ys : List Int32} (S : Sy Z h s u k ys) : s < h.size ∧ u < h.size := S.elim (fun q => ⟨q.1.lt, q.2.1.lt⟩) (fun q => ⟨q.1.lt, q.2.1.lt⟩)
def own_tx (i : Nat) : String := match tables_1[i]? with | some (Jvm.Cond.stringLink _ _ t) => t | _ => ""
def own_T (i : Nat) : List Int32 := (own_tx i).toList.map fun c => Int32.ofNat c.toNat
theorem own_byte : ∀ n : Nat, n < 256 → Jvm.Lit.byteI n.toUInt16 = (Int32.toInt8 (Int32.ofNat n)).toInt32 := by decide +kernel
theorem own_Tb {i : Nat} (h : ∀ c ∈ (own_tx i).toList, c.toNat < 256) : (own_tx i).toList.map (fun c => Value.int (Jvm.Lit.byteI c.toNat.toUInt16)) = (own_T i).map own_b := by
 unfold own_T
 rw [List.map_map]
 exact List.map_congr_left fun c hc => congrArg Value.int (own_byte _ (h c hc))
theorem own_Tl {i : Nat} (h : ∀ c ∈ (own_tx i).toList, c.toNat < 256) : Lat (own_T i) := fun c hc => by
 unfold own_T at hc
 obtain ⟨d, hd, rfl⟩ := List.mem_map.mp hc
 have := h d hd
 refine ⟨own_nn (by omega), ?_⟩
 have e1 : (255 : Int32).toInt = 255 := rfl
 rw [Int32.lt_iff_toInt_lt, own_n0 _ (by omega), e1]; omega
theorem own_Tlen (i : Nat) : (own_T i).length = (own_tx i).toList.length := by unfold own_T; rw [List.length_map]
theorem own_c213 : ∀ c ∈ (own_tx 213).toList, c.toNat < 256 := by decide +kernel
theorem own_L213 : (own_T 213).length = 16 := by rw [own_Tlen]; decide +kernel
theorem own_k213 {Z : State} {a0 : Array Value} (hw : Wds Z a0) : (Jvm.Cond.stringLink S1_ 58 (own_tx 213)).before a0 Z = true := hw _ (mi 213 rfl)
theorem own_c275 : ∀ c ∈ (own_tx 275).toList, c.toNat < 256 := by decide +kernel
theorem own_L275 : (own_T 275).length = 13 := by rw [own_Tlen]; decide +kernel
theorem own_k275 {Z : State} {a0 : Array Value} (hw : Wds Z a0) : (Jvm.Cond.stringLink S1_ 64 (own_tx 275)).before a0 Z = true := hw _ (mi 275 rfl)
theorem own_c276 : ∀ c ∈ (own_tx 276).toList, c.toNat < 256 := by decide +kernel
theorem own_L276 : (own_T 276).length = 15 := by rw [own_Tlen]; decide +kernel
theorem own_k276 {Z : State} {a0 : Array Value} (hw : Wds Z a0) : (Jvm.Cond.stringLink S1_ 66 (own_tx 276)).before a0 Z = true := hw _ (mi 276 rfl)
theorem own_c402 : ∀ c ∈ (own_tx 402).toList, c.toNat < 256 := by decide +kernel
theorem own_L402 : (own_T 402).length = 16 := by rw [own_Tlen]; decide +kernel
theorem own_k402 {Z : State} {a0 : Array Value} (hw : Wds Z a0) : (Jvm.Cond.stringLink S1_ 71 (own_tx 402)).before a0 Z = true := hw _ (mi 402 rfl)
theorem own_c412 : ∀ c ∈ (own_tx 412).toList, c.toNat < 256 := by decide +kernel
theorem own_L412 : (own_T 412).length = 1 := by rw [own_Tlen]; decide +kernel
theorem own_k412 {Z : State} {a0 : Array Value} (hw : Wds Z a0) : (Jvm.Cond.stringLink S1_ 76 (own_tx 412)).before a0 Z = true := hw _ (mi 412 rfl)
theorem own_c423 : ∀ c ∈ (own_tx 423).toList, c.toNat < 256 := by decide +kernel
theorem own_L423 : (own_T 423).length = 4 := by rw [own_Tlen]; decide +kernel
theorem own_k423 {Z : State} {a0 : Array Value} (hw : Wds Z a0) : (Jvm.Cond.stringLink S14_ 44 (own_tx 423)).before a0 Z = true := hw _ (mi 423 rfl)
theorem own_c457 : ∀ c ∈ (own_tx 457).toList, c.toNat < 256 := by decide +kernel
theorem own_L457 : (own_T 457).length = 5 := by rw [own_Tlen]; decide +kernel
theorem own_k457 {Z : State} {a0 : Array Value} (hw : Wds Z a0) : (Jvm.Cond.stringLink S14_ 46 (own_tx 457)).before a0 Z = true := hw _ (mi 457 rfl)
theorem own_c446 : ∀ c ∈ (own_tx 446).toList, c.toNat < 256 := by decide +kernel
theorem own_L446 : (own_T 446).length = 16 := by rw [own_Tlen]; decide +kernel
theorem own_k446 {Z : State} {a0 : Array Value} (hw : Wds Z a0) : (Jvm.Cond.stringLink S14_ 48 (own_tx 446)).before a0 Z = true := hw _ (mi 446 rfl)
theorem own_c454 : ∀ c ∈ (own_tx 454).toList, c.toNat < 256 := by decide +kernel
theorem own_L454 : (own_T 454).length = 13 := by rw [own_Tlen]; decide +kernel
theorem own_k454 {Z : State} {a0 : Array Value} (hw : Wds Z a0) : (Jvm.Cond.stringLink S14_ 54 (own_tx 454)).before a0 Z = true := hw _ (mi 454 rfl)
theorem own_c455 : ∀ c ∈ (own_tx 455).toList, c.toNat < 256 := by decide +kernel
theorem own_L455 : (own_T 455).length = 15 := by rw [own_Tlen]; decide +kernel
theorem own_k455 {Z : State} {a0 : Array Value} (hw : Wds Z a0) : (Jvm.Cond.stringLink S14_ 56 (own_tx 455)).before a0 Z = true := hw _ (mi 455 rfl)
theorem own_c456 : ∀ c ∈ (own_tx 456).toList, c.toNat < 256 := by decide +kernel
theorem own_L456 : (own_T 456).length = 16 := by rw [own_Tlen]; decide +kernel
theorem own_k456 {Z : State} {a0 : Array Value} (hw : Wds Z a0) : (Jvm.Cond.stringLink S14_ 58 (own_tx 456)).before a0 Z = true := hw _ (mi 456 rfl)
theorem own_c511 : ∀ c ∈ (own_tx 511).toList, c.toNat < 256 := by decide +kernel
theorem own_L511 : (own_T 511).length = 2 := by rw [own_Tlen]; decide +kernel
theorem own_k511 {Z : State} {a0 : Array Value} (hw : Wds Z a0) : (Jvm.Cond.stringLink "java/util/AbstractCollection" 92 (own_tx 511)).before a0 Z = true := hw _ (mi 511 rfl)
theorem own_sa {Z : State} {a0 : Array Value} (hw : Wds Z a0) : ∀ a ∈ Bundle.stringAtoms, a.before a0 Z = true := fun a ha => by
 simp only [Bundle.stringAtoms, List.mem_cons, List.not_mem_nil, or_false] at ha
 rcases ha with rfl | rfl | rfl | rfl | rfl | rfl | rfl
 · exact (wd hw 29 rfl)
 · exact (wd hw 37 rfl)
 · exact (wd hw 41 rfl)
 · exact (wd hw 48 rfl)
 · exact (wd hw 50 rfl)
 · exact (wd hw 214 rfl)
 · exact (wd hw 215 rfl)
theorem own_EW {Z : State} {a0 : Array Value} (hw : Wds Z a0) : EW Z a0 EL_ := (EW.cons (own_k213 hw) own_c213 (EW.cons (own_k275 hw) own_c275 (EW.cons (own_k276 hw) own_c276 (EW.cons (own_k402 hw) own_c402 (EW.cons (own_k412 hw) own_c412 (EW.cons (own_k423 hw) own_c423 (EW.cons (own_k457 hw) own_c457 (EW.cons (own_k446 hw) own_c446 (EW.cons (own_k454 hw) own_c454 (EW.cons (own_k455 hw) own_c455 (EW.cons (own_k456 hw) own_c456 (EW.cons (own_k511 hw) own_c511 EW.nil))))))))))))
theorem own_can (hw : Wds Z a0) (n0 : Nat) (c : Int32) (h0 : Heap) (hc : ¬ (255 : Int32) < c) : Con 1 l Z EL_ n0 m6_ c6_ 1 (some .boolean) ⟨0, 0, 0, 0⟩ #[(.int c)] [] h0 (fun v h D' => v = some (.int 1) ∧ h0 = h ∧ D' = []) := by
 refine Con.of_runs (ls := #[vi c]) (by decide +kernel) (ef rfl rfl) ?_
 refine Runs.iloadN (g j6 0 rfl) rfl ?_
 refine Runs.sipush (v := (255 : Int32)) (g j6 1 rfl) (by decide) ?_
 refine Runs.icN (g j6 2 rfl) (flt hc).2.2.1 ?_
 refine Runs.iconst (v := (1 : Int32)) (g j6 3 rfl) (by decide) ?_
 refine Runs.goto (t := 12) (g j6 4 rfl) (by decide) ?_
 exact Runs.retI (z := (1 : Int32)) (g j6 6 rfl) rfl (Or.inr (Or.inl rfl)) (by decide) (by decide) (by decide) ⟨rfl, rfl, rfl⟩
theorem own_tb1 (hw : Wds Z a0) (n0 : Nat) (c : Int32) (h0 : Heap) : Con 1 l Z EL_ n0 (⟨"java/lang/StringLatin1", "toBytes", "(C)[B"⟩ : MethodName) c7_ 1 (some (.array .byte)) ⟨0, 1, 1, 0⟩ #[(.int c)] [] h0 (fun v h D' => ∃ b k, v = some (.ref b) ∧ h0.size ≤ b ∧ Keep h0 h [] ∧ Arv Z h b k .byte (1 : Int32) [.int ((Int32.toInt8 c).toInt32)] (.int 0) ∧ D' = [b]) := by
 refine Con.of_runs (ls := #[vi c]) (by decide +kernel) (ef rfl rfl) ?_
 refine Runs.iconst (v := (1 : Int32)) (g j7 0 rfl) (by decide) ?_
 refine Runs.newP (cap := 1) (ad := "[B") (g j7 1 rfl) (wd hw 41 rfl) (by decide) (by decide) (by decide) (by decide) (by decide) rfl ?_
 intro h_1 b_2 k_3 g_6 ge_7 K_4 (A_5 : Arv Z h_1 b_2 k_3 .byte (1 : Int32) [] (.int 0)) E_8
 have A_9 : Arv Z h_1 b_2 k_3 .byte (1 : Int32) [(.int 0)] (.int 0) := A_5.pad (pad_rep [] (.int 0) 1)
 refine Runs.dup (g j7 2 rfl) rfl ?_
 refine Runs.iconst (v := (0 : Int32)) (g j7 3 rfl) (by decide) ?_
 refine Runs.iloadN (g j7 4 rfl) rfl ?_
 obtain ⟨x_10, hx_10⟩ : ∃ z : Int32, (Int32.toInt8 c).toInt32 = z := ⟨_, rfl⟩
 refine Runs.i2b (g j7 5 rfl) hx_10 ?_
 refine Runs.bastore (i := 0) (y := ((Int32.toInt8 c).toInt32)) (g j7 6 rfl) A_9 ⟨by decide, by decide⟩ (by decide) (Nat.le_of_ble_eq_true rfl) (by rw [← hx_10]; exact own_bb _) ge_7 (Or.inl (mi 0 rfl)) ?_
 intro h_11 K_12 (A_13 : Arv Z h_11 b_2 k_3 .byte (1 : Int32) [(.int ((Int32.toInt8 c).toInt32))] (.int 0))
 exact Runs.retA (g j7 7 rfl) rfl rfl rfl (by decide) (by decide) ⟨b_2, k_3, rfl, g_6, (((Keep.refl _ _).trans K_4 all0).trans K_12 (allS (Or.inr (Nat.le_trans (Nat.le_refl _) g_6)) all0)), A_13, rfl⟩
theorem own_sbb (hw : Wds Z a0) (n0 : Nat) (a t : Addr) (cd : Int32) (hcn : narrow .byte (.int cd) = .int cd) (hcf : fits .byte (.int cd) = true) (h0 : Heap) (ga : n0 ≤ a) (O0 : Obj Z h0 a S6_ [(S6_, "value", "[B", .null), (S6_, "coder", "B", (.int 0))]) : Con 1 l Z EL_ n0 (⟨S6_, "<init>", "([BB)V"⟩ : MethodName) c8_ 3 none ⟨1, 0, 0, 12⟩ #[(.ref a), (.ref t), (.int cd)] [a] h0 (fun v h D' => v = none ∧ Keep h0 h [a] ∧ Obj Z h a S6_ [(S6_, "value", "[B", (.ref t)), (S6_, "coder", "B", (.int cd))] ∧ D' = []) := by
 refine Con.of_runs (ls := #[vr a, vr t, vi cd]) (by decide +kernel) (ef rfl rfl) ?_
 refine Runs.aloadN (g j8 0 rfl) rfl rfl ?_
 refine Runs.initO (W := 0) (g j8 1 rfl) (wd hw 46 rfl) (wd hw 20 rfl) (wd hw 21 rfl) rfl (by decide) rfl (by decide) ?_
 refine Runs.aloadN (g j8 2 rfl) rfl rfl ?_
 refine Runs.aloadN (g j8 3 rfl) rfl rfl ?_
 refine Runs.putF (i := 0) (ty := (.array .byte)) (g j8 4 rfl) (host := "") (Or.inl (wd hw 47 rfl)) Via.refl O0 rfl (lay_0 hw) rfl (Or.inr ⟨(wd hw 48 rfl), rfl, rfl⟩) (wd hw 37 rfl) (by decide) rfl rfl ga (Or.inl (mi 0 rfl)) ?_
 intro h_1 K_2 (O_3 : Obj Z h_1 a S6_ [(S6_, "value", "[B", (.ref t)), (S6_, "coder", "B", (.int 0))])
 refine Runs.aloadN (g j8 5 rfl) rfl rfl ?_
 refine Runs.iloadN (g j8 6 rfl) rfl ?_
 refine Runs.putF (i := 1) (ty := .byte) (g j8 7 rfl) (host := "") (Or.inl (wd hw 49 rfl)) Via.refl O_3 rfl (lay_0 hw) rfl (Or.inr ⟨(wd hw 50 rfl), rfl, rfl⟩) (wd hw 37 rfl) (by decide) hcn hcf ga (Or.inl (mi 0 rfl)) ?_
 intro h_4 K_5 (O_6 : Obj Z h_4 a S6_ [(S6_, "value", "[B", (.ref t)), (S6_, "coder", "B", (.int cd))])
 exact Runs.weak (D1 := []) (fun _ q => nomatch q) (Runs.retV (g j8 8 rfl) rfl (by decide) (by decide) ⟨rfl, (((Keep.refl _ _).trans K_2 (allS (Or.inl (mi 0 rfl)) all0)).trans K_5 (allS (Or.inl (mi 0 rfl)) all0)), O_6, rfl⟩)
theorem own_upc (hw : Wds Z a0) (n0 : Nat) (t : Addr) (k : ClassId) (cap : Nat) (xs : List Int32) (h0 : Heap) (T0 : Arv Z h0 t k .byte (Int32.ofNat (2 * cap)) (own_ws xs) (.int 0)) (c : Int32) (hx : xs.length < cap) (hcap : cap < 1000000) (gt : n0 ≤ t) (S_A : SA Z) (S_H : SH Z) (S_L : SL Z) : Con 1 l Z EL_ n0 (⟨S17_, "putChar", "([BII)V"⟩ : MethodName) c74_ 3 none ⟨0, 0, 0, 0⟩ #[(.ref t), (.int (Int32.ofNat xs.length)), (.int c)] [t] h0 (fun v h D' => v = none ∧ Keep h0 h [t] ∧ Arv Z h t k .byte (Int32.ofNat (2 * cap)) (own_ws (xs ++ [c])) (.int 0) ∧ D' = []) := by
 refine Con.of_runs (ls := #[vr t, vi (Int32.ofNat xs.length), vi c]) (by decide +kernel) (ef rfl rfl) ?_
 refine Runs.getS (g j74 0 rfl) (wd hw 465 rfl) Via.refl S_A ?_
 refine Runs.ifY (t := 28) (g j74 1 rfl) (by decide) (feq (by decide : ¬ ((1 : Int32) = (0 : Int32)))).2 ?_
 refine Runs.iloadN (g j74 2 rfl) rfl ?_
 refine Runs.iconst (v := (1 : Int32)) (g j74 3 rfl) (by decide) ?_
 refine Runs.ishl (z := Int32.ofNat (2 * xs.length)) (g j74 4 rfl) (own_shl1 (by omega)) ?_
 refine Runs.istoreN (ls' := #[vr t, vi (Int32.ofNat (2 * xs.length)), vi c]) (g j74 5 rfl) rfl ?_
 refine Runs.aloadN (g j74 6 rfl) rfl rfl ?_
 refine Runs.iloadN (g j74 7 rfl) rfl ?_
 refine Runs.iinc (z := (Int32.ofNat ((2 * xs.length) + 1))) (ls' := #[vr t, vi (Int32.ofNat ((2 * xs.length) + 1)), vi c]) (g j74 8 rfl) rfl (own_add (b := 1) (by omega)) rfl ?_
 refine Runs.iloadN (g j74 9 rfl) rfl ?_
 refine Runs.getS (g j74 10 rfl) (wd hw 466 rfl) Via.refl S_H ?_
 refine Runs.ishr (z := c) (g j74 11 rfl) (own_shr0 _) ?_
 refine Runs.i2b (z := (own_lo c)) (g j74 12 rfl) rfl ?_
 have T1 : Arv Z h0 t k .byte (Int32.ofNat (2 * cap)) (own_ws xs ++ List.replicate 2 (.int 0)) (.int 0) := T0.pad (pad_rep _ _ _)
 refine Runs.bastore (i := (2 * xs.length)) (y := (own_lo c)) (g j74 13 rfl) T1 ⟨own_nn (by omega), own_lt (by omega) (by omega)⟩ (own_cl (by omega)) (by simp [own_wsl]) (own_bb _) gt (Or.inl (mi 0 rfl)) ?_
 intro h_1 K_2 A_3
 refine Runs.aloadN (g j74 14 rfl) rfl rfl ?_
 refine Runs.iloadN (g j74 15 rfl) rfl ?_
 refine Runs.iloadN (g j74 16 rfl) rfl ?_
 refine Runs.getS (g j74 17 rfl) (wd hw 467 rfl) Via.refl S_L ?_
 refine Runs.ishr (z := (c >>> ((8 : Int32) &&& 31))) (g j74 18 rfl) rfl ?_
 refine Runs.i2b (z := (own_hi c)) (g j74 19 rfl) rfl ?_
 refine Runs.bastore (i := ((2 * xs.length) + 1)) (y := (own_hi c)) (g j74 20 rfl) A_3 ⟨own_nn (by omega), own_lt (by omega) (by omega)⟩ (own_cl (by omega)) (by simp [own_wsl]) (own_bb _) gt (Or.inl (mi 0 rfl)) ?_
 intro h_4 K_5 A_6
 rw [own_put] at A_6
 exact Runs.weak (D1 := []) (fun _ q => nomatch q) (Runs.retV (g j74 21 rfl) rfl (by decide) (by decide) ⟨rfl, (((Keep.refl _ _).trans K_2 (allS (Or.inl (mi 0 rfl)) all0)).trans K_5 (allS (Or.inl (mi 0 rfl)) all0)), A_6, rfl⟩)
theorem own_cann (hw : Wds Z a0) (n0 : Nat) (c : Int32) (h0 : Heap) (hb : (255 : Int32) < c) : Con 1 l Z EL_ n0 m6_ c6_ 1 (some .boolean) ⟨0, 0, 0, 0⟩ #[(.int c)] [] h0 (fun v h D' => v = some (.int 0) ∧ h0 = h ∧ D' = []) := by
 refine Con.of_runs (ls := #[vi c]) (by decide +kernel) (ef rfl rfl) ?_
 refine Runs.iloadN (g j6 0 rfl) rfl ?_
 refine Runs.sipush (v := (255 : Int32)) (g j6 1 rfl) (by decide) ?_
 refine Runs.icY (t := 11) (g j6 2 rfl) (by decide) (tlt hb).2.2.1 ?_
 refine Runs.iconst (v := (0 : Int32)) (g j6 5 rfl) (by decide) ?_
 exact Runs.retI (z := (0 : Int32)) (g j6 6 rfl) rfl (Or.inr (Or.inl rfl)) (by decide) (by decide) (by decide) ⟨rfl, rfl, rfl⟩
theorem own_ut1 (hw : Wds Z a0) (n0 : Nat) (c : Int32) (h0 : Heap) (S_A : SA Z) (S_H : SH Z) (S_L : SL Z) : Con 1 l Z EL_ n0 (⟨S17_, "toBytes", "(C)[B"⟩ : MethodName) c73_ 2 (some (.array .byte)) ⟨1, 1, 2, 14⟩ #[(.int c)] [] h0 (fun v h D' => ∃ b k, v = some (.ref b) ∧ h0.size ≤ b ∧ Keep h0 h [] ∧ Arv Z h b k .byte (Int32.ofNat (2 * 1)) (own_ws [c]) (.int 0) ∧ D' = [b]) := by
 refine Con.of_runs (ls := #[vi c, .unset]) (by decide +kernel) (ef rfl rfl) ?_
 refine Runs.iconst (v := (2 : Int32)) (g j73 0 rfl) (by decide) ?_
 refine Runs.newP (cap := 2) (ad := "[B") (g j73 1 rfl) (wd hw 41 rfl) (by decide) (by decide) (by decide) (by decide) (by decide) rfl ?_
 intro h_1 b_2 k_3 g_6 ge_7 K_4 (A_5 : Arv Z h_1 b_2 k_3 .byte (Int32.ofNat 2) (own_ws []) (.int 0)) E_8
 refine Runs.astoreN (ls' := #[vi c, vr b_2]) (g j73 2 rfl) rfl rfl ?_
 refine Runs.aloadN (g j73 3 rfl) rfl rfl ?_
 refine Runs.iconst (v := (0 : Int32)) (g j73 4 rfl) (by decide) ?_
 refine Runs.iloadN (g j73 5 rfl) rfl ?_
 refine Runs.callSW (argsL := [(.ref b_2), (.int 0), (.int c)]) (rest := []) (W := 0) (g j73 6 rfl) (wd hw 462 rfl) (wd hw 463 rfl) (wd hw 460 rfl) (wd hw 464 rfl) (by decide) pd_0 rfl rfl rfl rfl (by decide) (by decide) (by decide) (by decide) (allS (mi 0 rfl) all0) (by decide) (own_upc l Z a0 hw n0 b_2 k_3 1 [] _ A_5 c (by decide) (by decide) ge_7 S_A S_H S_L) ?_
 rintro v h_11 D1 ⟨rfl, K_9, A_10, rfl⟩ hsz
 show Runs _ _ _ _ _ _ _ _ _ _ _ _ [b_2] h_11 1 2 10 _ []
 refine Runs.aloadN (g j73 7 rfl) rfl rfl ?_
 exact Runs.retA (g j73 8 rfl) rfl rfl rfl (by decide) (by decide) ⟨b_2, k_3, rfl, g_6, (((Keep.refl _ _).trans K_4 all0).trans K_9 (allS (Or.inr (Nat.le_trans (Nat.le_refl _) g_6)) all0)), A_10, rfl⟩
theorem own_one {c : Int32} (h : ¬ c < 0 ∧ ¬ (65535 : Int32) < c) : Chs [c] := fun x hx => by rw [List.mem_singleton.mp hx]; exact h
theorem own_oneL {c : Int32} (h : ¬ c < 0 ∧ ¬ (255 : Int32) < c) : Lat [c] := fun x hx => by rw [List.mem_singleton.mp hx]; exact h
theorem own_vx (hw : Wds Z a0) (n0 : Nat) (c : Int32) (hc : ¬ c < 0 ∧ ¬ (65535 : Int32) < c) (h0 : Heap) (cpt : Int32) (S_C : SC Z cpt) (hcpt : ¬ cpt = 0) (S_A : SA Z) (S_H : SH Z) (S_L : SL Z) : Con 1 l Z EL_ n0 (⟨S6_, "valueOf", "(C)Ljava/lang/String;"⟩ : MethodName) c5_ 1 (some (.object S6_)) ⟨2, 2, 6, 29⟩ #[(.int c)] [] h0 (fun v h D' => ∃ b t k, v = some (.ref b) ∧ h0.size ≤ b ∧ h0.size ≤ t ∧ Keep h0 h [] ∧ Sy Z h b t k [c] ∧ D' = []) := by
 refine Con.of_runs (ls := #[vi c]) (by decide +kernel) (ef rfl rfl) ?_
 refine Runs.getS (g j5 0 rfl) (wd hw 31 rfl) Via.refl S_C ?_
 refine Runs.ifN (g j5 1 rfl) (feq hcpt).1 ?_
 refine Runs.iloadN (g j5 2 rfl) rfl ?_
 by_cases hb : (255 : Int32) < c
 · skip
   refine Runs.callSW (argsL := [(.int c)]) (rest := []) (W := 0) (g j5 3 rfl) (wd hw 32 rfl) (wd hw 33 rfl) (wd hw 34 rfl) (wd hw 35 rfl) (by decide) pd_1 rfl rfl rfl rfl (by decide) (by decide) (by decide) (by decide) all0 (by decide) (own_cann l Z a0 hw n0 c _ hb) ?_
   rintro v h1 D1 ⟨rfl, rfl, rfl⟩ hsz
   show Runs _ _ _ _ _ _ _ _ _ _ _ _ [] h0 0 0 10 _ [(.int 0)]
   refine Runs.ifY (t := 26) (g j5 4 rfl) (by decide) (teq (by decide : (0 : Int32) = (0 : Int32))).1 ?_
   refine Runs.newO (g j5 12 rfl) (wd hw 36 rfl) (wd hw 37 rfl) (wd hw 29 rfl) (lay_0 hw) (by decide) (by decide) ?_
   intro h_1 b_2 g_5 ge_6 K_3 (O_4 : Obj Z h_1 b_2 S6_ [(S6_, "value", "[B", .null), (S6_, "coder", "B", (.int 0))]) U_7
   refine Runs.dup (g j5 13 rfl) rfl ?_
   refine Runs.iloadN (g j5 14 rfl) rfl ?_
   refine Runs.callSW (argsL := [(.int c)]) (rest := [(.ref b_2), (.ref b_2)]) (W := 2) (g j5 15 rfl) (wd hw 458 rfl) (wd hw 459 rfl) (wd hw 460 rfl) (wd hw 461 rfl) (by decide) pd_2 rfl rfl rfl rfl (by decide) (by decide) (by decide) (by decide) all0 (by decide) (own_ut1 l Z a0 hw n0 c _ S_A S_H S_L) ?_
   rintro v h_13 D1 ⟨b_8, k_9, rfl, g_10, K_11, A_12, rfl⟩ hsz
   show Runs _ _ _ _ _ _ _ _ _ _ _ _ [b_8, b_2] h_13 2 6 34 _ [(.ref b_8), (.ref b_2), (.ref b_2)]
   refine Runs.iconst (v := (1 : Int32)) (g j5 16 rfl) (by decide) ?_
   have O_14 := (O_4.keep K_11 nin0)
   refine Runs.callCW (argsL := [(.ref b_8), (.int 1)]) (rest := [(.ref b_2)]) (W := 1) (g j5 17 rfl) rfl (wd hw 42 rfl) (wd hw 43 rfl) (wd hw 45 rfl) (wd hw 29 rfl) (by decide) pd_3 rfl rfl rfl rfl (by decide) (by decide) (by decide) (by decide) (allS (mi 1 rfl) all0) (by decide) (own_sbb l Z a0 hw n0 b_2 b_8 (1 : Int32) rfl rfl _ ge_6 O_14) ?_
   rintro v h_17 D1 ⟨rfl, K_15, O_16, rfl⟩ hsz
   show Runs _ _ _ _ _ _ _ _ _ _ _ _ [b_8, b_2] h_17 2 6 38 _ [(.ref b_2)]
   have A_18 := (A_12.keep K_15 (ninS (Nat.ne_of_gt (Nat.lt_of_lt_of_le (Nat.lt_of_lt_of_le O_4.lt (Nat.le_refl _)) g_10)) nin0))
   refine Runs.weak (D1 := []) (fun _ q => nomatch q) ?_
   exact Runs.retA (g j5 18 rfl) rfl rfl rfl (by decide) (by decide) ⟨b_2, b_8, k_9, rfl, g_5, (Nat.le_trans K_3.1 g_10), ((((Keep.refl _ _).trans K_3 all0).trans K_11 all0).trans K_15 (allS (Or.inr (Nat.le_trans (Nat.le_refl _) g_5)) all0)), (Or.inr ⟨O_16, A_18, own_one hc, by simp⟩), rfl⟩
 · skip
   refine Runs.callSW (argsL := [(.int c)]) (rest := []) (W := 0) (g j5 3 rfl) (wd hw 32 rfl) (wd hw 33 rfl) (wd hw 34 rfl) (wd hw 35 rfl) (by decide) pd_1 rfl rfl rfl rfl (by decide) (by decide) (by decide) (by decide) all0 (by decide) (own_can l Z a0 hw n0 c _ hb) ?_
   rintro v h1 D1 ⟨rfl, rfl, rfl⟩ hsz
   show Runs _ _ _ _ _ _ _ _ _ _ _ _ [] h0 0 0 10 _ [(.int 1)]
   refine Runs.ifN (g j5 4 rfl) (feq (by decide : ¬ ((1 : Int32) = (0 : Int32)))).1 ?_
   refine Runs.newO (g j5 5 rfl) (wd hw 36 rfl) (wd hw 37 rfl) (wd hw 29 rfl) (lay_0 hw) (by decide) (by decide) ?_
   intro h_19 b_20 g_23 ge_24 K_21 (O_22 : Obj Z h_19 b_20 S6_ [(S6_, "value", "[B", .null), (S6_, "coder", "B", (.int 0))]) U_25
   refine Runs.dup (g j5 6 rfl) rfl ?_
   refine Runs.iloadN (g j5 7 rfl) rfl ?_
   refine Runs.callSW (argsL := [(.int c)]) (rest := [(.ref b_20), (.ref b_20)]) (W := 2) (g j5 8 rfl) (wd hw 38 rfl) (wd hw 39 rfl) (wd hw 34 rfl) (wd hw 40 rfl) (by decide) pd_2 rfl rfl rfl rfl (by decide) (by decide) (by decide) (by decide) all0 (by decide) (own_tb1 l Z a0 hw n0 c _) ?_
   rintro v h_31 D1 ⟨b_26, k_27, rfl, g_28, K_29, A_30, rfl⟩ hsz
   show Runs _ _ _ _ _ _ _ _ _ _ _ _ [b_26, b_20] h_31 2 5 21 _ [(.ref b_26), (.ref b_20), (.ref b_20)]
   refine Runs.iconst (v := (0 : Int32)) (g j5 9 rfl) (by decide) ?_
   have O_32 := (O_22.keep K_29 nin0)
   refine Runs.callCW (argsL := [(.ref b_26), (.int 0)]) (rest := [(.ref b_20)]) (W := 1) (g j5 10 rfl) rfl (wd hw 42 rfl) (wd hw 43 rfl) (wd hw 45 rfl) (wd hw 29 rfl) (by decide) pd_3 rfl rfl rfl rfl (by decide) (by decide) (by decide) (by decide) (allS (mi 1 rfl) all0) (by decide) (own_sbb l Z a0 hw n0 b_20 b_26 (0 : Int32) rfl rfl _ ge_24 O_32) ?_
   rintro v h_35 D1 ⟨rfl, K_33, O_34, rfl⟩ hsz
   show Runs _ _ _ _ _ _ _ _ _ _ _ _ [b_26, b_20] h_35 2 5 25 _ [(.ref b_20)]
   have A_36 := (A_30.keep K_33 (ninS (Nat.ne_of_gt (Nat.lt_of_lt_of_le (Nat.lt_of_lt_of_le O_22.lt (Nat.le_refl _)) g_28)) nin0))
   refine Runs.weak (D1 := []) (fun _ q => nomatch q) ?_
   exact Runs.retA (g j5 11 rfl) rfl rfl rfl (by decide) (by decide) ⟨b_20, b_26, k_27, rfl, g_23, (Nat.le_trans K_21.1 g_28), ((((Keep.refl _ _).trans K_21 all0).trans K_29 all0).trans K_33 (allS (Or.inr (Nat.le_trans (Nat.le_refl _) g_23)) all0)), (Or.inl ⟨O_34, A_36, own_oneL ⟨hc.1, hb⟩, by simp⟩), rfl⟩
theorem own_sz0 (hw : Wds Z a0) (n0 : Nat) (c eA : Addr) (kA : ClassId) (h0 : Heap) (O0 : Obj Z h0 c S15_ [(S15_, "elements", S7_, (.ref eA))]) (A0 : Arv Z h0 eA kA (.object S8_) 0 [] .null) : Con 1 l Z EL_ n0 (⟨S15_, "size", "()I"⟩ : MethodName) c85_ 1 (some .int) ⟨0, 0, 0, 0⟩ #[(.ref c)] [] h0 (fun v h D' => v = some (.int 0) ∧ h0 = h ∧ D' = []) := by
 refine Con.of_runs (ls := #[vr c]) (by decide +kernel) (ef rfl rfl) ?_
 refine Runs.aloadN (g j85 0 rfl) rfl rfl ?_
 refine Runs.getF (g j85 1 rfl) (host := "") (Or.inl (wd hw 509 rfl)) Via.refl (O0.fld (i := 0) rfl) ?_
 refine Runs.arrlen (g j85 2 rfl) A0 ?_
 exact Runs.retI (z := (0 : Int32)) (g j85 3 rfl) rfl (Or.inl rfl) (by decide) (by decide) (by decide) ⟨rfl, rfl, rfl⟩
theorem own_lii (hw : Wds Z a0) (n0 : Nat) (a c : Addr) (n : Int32) (h0 : Heap) (ga : n0 ≤ a) (O0 : Obj Z h0 a S3_ [(S3_, "list", S16_, .null), (S3_, "size", "I", (.int 0)), (S3_, "cursor", "I", (.int 0)), (S3_, S22_, "Z", (.int 0))]) : Con 1 l Z EL_ n0 (⟨S3_, "<init>", "(Ljava/util/List;I)V"⟩ : MethodName) c47_ 3 none ⟨1, 0, 0, 12⟩ #[(.ref a), (.ref c), (.int n)] [] h0 (fun v h D' => v = none ∧ Keep h0 h [a] ∧ Obj Z h a S3_ [(S3_, "list", S16_, (.ref c)), (S3_, "size", "I", (.int n)), (S3_, "cursor", "I", (.int 0)), (S3_, S22_, "Z", (.int 0))] ∧ D' = []) := by
 refine Con.of_runs (ls := #[vr a, vr c, vi n]) (by decide +kernel) (ef rfl rfl) ?_
 refine Runs.aloadN (g j47 0 rfl) rfl rfl ?_
 refine Runs.initO (W := 0) (g j47 1 rfl) (wd hw 309 rfl) (wd hw 20 rfl) (wd hw 21 rfl) rfl (by decide) rfl (by decide) ?_
 refine Runs.aloadN (g j47 2 rfl) rfl rfl ?_
 refine Runs.aloadN (g j47 3 rfl) rfl rfl ?_
 refine Runs.putF (i := 0) (ty := (.object S26_)) (g j47 4 rfl) (host := "") (Or.inl (wd hw 310 rfl)) Via.refl O0 rfl (lay_1 hw) rfl (Or.inr ⟨(wd hw 311 rfl), rfl, rfl⟩) (wd hw 297 rfl) (by decide) rfl rfl ga (Or.inr ⟨by decide, by decide⟩) ?_
 intro h_1 K_2 (O_3 : Obj Z h_1 a S3_ [(S3_, "list", S16_, (.ref c)), (S3_, "size", "I", (.int 0)), (S3_, "cursor", "I", (.int 0)), (S3_, S22_, "Z", (.int 0))])
 refine Runs.aloadN (g j47 5 rfl) rfl rfl ?_
 refine Runs.iloadN (g j47 6 rfl) rfl ?_
 refine Runs.putF (i := 1) (ty := .int) (g j47 7 rfl) (host := "") (Or.inl (wd hw 312 rfl)) Via.refl O_3 rfl (lay_1 hw) rfl (Or.inr ⟨(wd hw 313 rfl), rfl, rfl⟩) (wd hw 297 rfl) (by decide) rfl rfl ga (Or.inr ⟨by decide, by decide⟩) ?_
 intro h_4 K_5 (O_6 : Obj Z h_4 a S3_ [(S3_, "list", S16_, (.ref c)), (S3_, "size", "I", (.int n)), (S3_, "cursor", "I", (.int 0)), (S3_, S22_, "Z", (.int 0))])
 refine Runs.aloadN (g j47 8 rfl) rfl rfl ?_
 refine Runs.iconst (v := (0 : Int32)) (g j47 9 rfl) (by decide) ?_
 refine Runs.putF (i := 2) (ty := .int) (g j47 10 rfl) (host := "") (Or.inl (wd hw 314 rfl)) Via.refl O_6 rfl (lay_1 hw) rfl (Or.inl (wd hw 315 rfl)) (wd hw 297 rfl) (by decide) rfl rfl ga (Or.inr ⟨by decide, by decide⟩) ?_
 intro h_7 K_8 (O_9 : Obj Z h_7 a S3_ [(S3_, "list", S16_, (.ref c)), (S3_, "size", "I", (.int n)), (S3_, "cursor", "I", (.int 0)), (S3_, S22_, "Z", (.int 0))])
 refine Runs.aloadN (g j47 11 rfl) rfl rfl ?_
 refine Runs.iconst (v := (0 : Int32)) (g j47 12 rfl) (by decide) ?_
 refine Runs.putF (i := 3) (ty := .boolean) (g j47 13 rfl) (host := "") (Or.inl (wd hw 316 rfl)) Via.refl O_9 rfl (lay_1 hw) rfl (Or.inr ⟨(wd hw 317 rfl), rfl, rfl⟩) (wd hw 297 rfl) (by decide) rfl rfl ga (Or.inr ⟨by decide, by decide⟩) ?_
 intro h_10 K_11 (O_12 : Obj Z h_10 a S3_ [(S3_, "list", S16_, (.ref c)), (S3_, "size", "I", (.int n)), (S3_, "cursor", "I", (.int 0)), (S3_, S22_, "Z", (.int 0))])
 exact Runs.retV (g j47 14 rfl) rfl (by decide) (by decide) ⟨rfl, (((((Keep.refl _ _).trans K_2 (allS (Or.inl (mi 0 rfl)) all0)).trans K_5 (allS (Or.inl (mi 0 rfl)) all0)).trans K_8 (allS (Or.inl (mi 0 rfl)) all0)).trans K_11 (allS (Or.inl (mi 0 rfl)) all0)), O_12, rfl⟩
theorem own_itr0 (hw : Wds Z a0) (n0 : Nat) (c eA : Addr) (kA : ClassId) (h0 : Heap) (O0 : Obj Z h0 c S15_ [(S15_, "elements", S7_, (.ref eA))]) (A0 : Arv Z h0 eA kA (.object S8_) 0 [] .null) : Con 1 l Z EL_ n0 m45_ c45_ 1 (some (.object "java/util/Iterator")) ⟨2, 1, 4, 27⟩ #[(.ref c)] [] h0 (fun v h D' => ∃ i, v = some (.ref i) ∧ h0.size ≤ i ∧ Keep h0 h [] ∧ Obj Z h i S3_ [(S3_, "list", S16_, (.ref c)), (S3_, "size", "I", (.int 0)), (S3_, "cursor", "I", (.int 0)), (S3_, S22_, "Z", (.int 0))] ∧ D' = []) := by
 refine Con.of_runs (ls := #[vr c]) (by decide +kernel) (ef rfl rfl) ?_
 refine Runs.newO (g j45 0 rfl) (wd hw 296 rfl) (wd hw 297 rfl) (wd hw 298 rfl) (lay_1 hw) (by decide) (by decide) ?_
 intro h_1 b_2 g_5 ge_6 K_3 (O_4 : Obj Z h_1 b_2 S3_ [(S3_, "list", S16_, .null), (S3_, "size", "I", (.int 0)), (S3_, "cursor", "I", (.int 0)), (S3_, S22_, "Z", (.int 0))]) U_7
 refine Runs.dup (g j45 1 rfl) rfl ?_
 refine Runs.aloadN (g j45 2 rfl) rfl rfl ?_
 refine Runs.aloadN (g j45 3 rfl) rfl rfl ?_
 refine Runs.callVUW (argsL := []) (rest := [(.ref c), (.ref b_2), (.ref b_2)]) (W := 3) (g j45 4 rfl) (wd hw 299 rfl) (wd hw 300 rfl) (wd hw 301 rfl) (by decide) (wd hw 505 rfl) (wd hw 506 rfl) (wd hw 508 rfl) (wd hw 507 rfl) (O0.1.keep K_3) pd_4 rfl rfl rfl rfl (by decide) (by decide) (by decide) (by decide) all0 (by decide) (own_sz0 l Z a0 hw n0 c eA kA _ (O0.keep K_3 nin0) (A0.keep K_3 nin0)) ?_
 rintro v h1 D1 ⟨rfl, rfl, rfl⟩ hsz
 show Runs _ _ _ _ _ _ _ _ _ _ _ _ [b_2] h_1 1 4 9 _ [(.int 0), (.ref c), (.ref b_2), (.ref b_2)]
 refine Runs.callCW (argsL := [(.ref c), (.int 0)]) (rest := [(.ref b_2)]) (W := 1) (g j45 5 rfl) rfl (wd hw 305 rfl) (wd hw 306 rfl) (wd hw 308 rfl) (wd hw 298 rfl) (by decide) pd_5 rfl rfl rfl rfl (by decide) (by decide) (by decide) (by decide) all0 (by decide) (own_lii l Z a0 hw n0 b_2 c 0 _ ge_6 O_4) ?_
 rintro v h9 D1 ⟨rfl, K9, O9, rfl⟩ hsz
 show Runs _ _ _ _ _ _ _ _ _ _ _ _ [b_2] h9 1 4 12 _ [(.ref b_2)]
 refine Runs.weak (D1 := []) (fun _ q => nomatch q) ?_
 exact Runs.retA (g j45 6 rfl) rfl rfl rfl (by decide) (by decide) ⟨b_2, rfl, g_5, (((Keep.refl _ _).trans K_3 all0).trans K9 (allS (Or.inr (Nat.le_trans (Nat.le_refl _) g_5)) all0)), O9, rfl⟩
theorem own_hn0 (hw : Wds Z a0) (n0 : Nat) (i c : Addr) (n j : Int32) (h0 : Heap) (O0 : Obj Z h0 i S3_ [(S3_, "list", S16_, (.ref c)), (S3_, "size", "I", (.int n)), (S3_, "cursor", "I", (.int j)), (S3_, S22_, "Z", (.int 0))]) (hj : j = n) : Con 1 l Z EL_ n0 m48_ c48_ 1 (some .boolean) ⟨0, 0, 0, 0⟩ #[(.ref i)] [] h0 (fun v h D' => v = some (.int 0) ∧ h0 = h ∧ D' = []) := by
 refine Con.of_runs (ls := #[vr i]) (by decide +kernel) (ef rfl rfl) ?_
 refine Runs.aloadN (g j48 0 rfl) rfl rfl ?_
 refine Runs.getF (g j48 1 rfl) (host := "") (Or.inl (wd hw 314 rfl)) Via.refl (O0.fld (i := 2) rfl) ?_
 refine Runs.aloadN (g j48 2 rfl) rfl rfl ?_
 refine Runs.getF (g j48 3 rfl) (host := "") (Or.inl (wd hw 312 rfl)) Via.refl (O0.fld (i := 1) rfl) ?_
 refine Runs.icY (t := 15) (g j48 4 rfl) (by decide) (teq hj).1 ?_
 refine Runs.iconst (v := (0 : Int32)) (g j48 7 rfl) (by decide) ?_
 exact Runs.retI (z := (0 : Int32)) (g j48 8 rfl) rfl (Or.inr (Or.inl rfl)) (by decide) (by decide) (by decide) ⟨rfl, rfl, rfl⟩
theorem own_hn1 (hw : Wds Z a0) (n0 : Nat) (i c : Addr) (n j : Int32) (h0 : Heap) (O0 : Obj Z h0 i S3_ [(S3_, "list", S16_, (.ref c)), (S3_, "size", "I", (.int n)), (S3_, "cursor", "I", (.int j)), (S3_, S22_, "Z", (.int 0))]) (hj : ¬ j = n) : Con 1 l Z EL_ n0 m48_ c48_ 1 (some .boolean) ⟨0, 0, 0, 0⟩ #[(.ref i)] [] h0 (fun v h D' => v = some (.int 1) ∧ h0 = h ∧ D' = []) := by
 refine Con.of_runs (ls := #[vr i]) (by decide +kernel) (ef rfl rfl) ?_
 refine Runs.aloadN (g j48 0 rfl) rfl rfl ?_
 refine Runs.getF (g j48 1 rfl) (host := "") (Or.inl (wd hw 314 rfl)) Via.refl (O0.fld (i := 2) rfl) ?_
 refine Runs.aloadN (g j48 2 rfl) rfl rfl ?_
 refine Runs.getF (g j48 3 rfl) (host := "") (Or.inl (wd hw 312 rfl)) Via.refl (O0.fld (i := 1) rfl) ?_
 refine Runs.icN (g j48 4 rfl) (feq hj).1 ?_
 refine Runs.iconst (v := (1 : Int32)) (g j48 5 rfl) (by decide) ?_
 refine Runs.goto (t := 16) (g j48 6 rfl) (by decide) ?_
 exact Runs.retI (z := (1 : Int32)) (g j48 8 rfl) rfl (Or.inr (Or.inl rfl)) (by decide) (by decide) (by decide) ⟨rfl, rfl, rfl⟩
theorem own_ats0 (hw : Wds Z a0) (n0 : Nat) (c eA : Addr) (kA : ClassId) (h0 : Heap) (O0 : Obj Z h0 c S15_ [(S15_, "elements", S7_, (.ref eA))]) (A0 : Arv Z h0 eA kA (.object S8_) 0 [] .null) (t : Addr) (ht : t < h0.size) (hn0 : n0 ≤ h0.size) (cpt : Int32) (S_C : SC Z cpt) (hcpt : ¬ cpt = 0) (S_A : SA Z) (S_H : SH Z) (S_L : SL Z) (fm : Value) (hfm : fm.isRef = true) (S_F : SF Z fm) : Con 1 l Z EL_ n0 m44_ c44_ 4 (some (.object S6_)) ⟨3, 3, 16, 39⟩ #[(.ref c)] [t] h0 (fun v h D' => ∃ b u' k', v = some (.ref b) ∧ u' ≠ t ∧ Keep h0 h [] ∧ Sy Z h b u' k' (own_T 511) ∧ D' = []) := by
 refine Con.of_runs (ls := #[vr c, .unset, .unset, .unset]) (by decide +kernel) (ef rfl rfl) ?_
 refine Runs.aloadN (g j44 0 rfl) rfl rfl ?_
 refine Runs.callVW (argsL := []) (rest := []) (W := 0) (g j44 1 rfl) (wd hw 291 rfl) (wd hw 292 rfl) (fun s hZ => RoadKit.nf_super (args := #[]) (mvT hZ (wd hw 105 rfl))) (wd hw 504 rfl) (wd hw 294 rfl) (wd hw 295 rfl) (wd hw 161 rfl) (by decide) O0.1 pd_6 rfl rfl rfl rfl (by decide) (by decide) (by decide) (by decide) all0 (by decide) (own_itr0 l Z a0 hw n0 c eA kA _ O0 A0) ?_
 rintro v h1 D1 ⟨i, rfl, gi, K1, I1, rfl⟩ hsz
 show Runs _ _ _ _ _ _ _ _ _ _ _ _ [t] h1 1 4 4 _ [(.ref i)]
 have hi := I1.lt
 have gin : n0 ≤ i := Nat.le_trans hn0 gi
 refine Runs.astoreN (ls' := #[vr c, vr i, .unset, .unset]) (g j44 2 rfl) rfl rfl ?_
 refine Runs.aloadN (g j44 3 rfl) rfl rfl ?_
 refine Runs.callIW (argsL := []) (rest := []) (W := 0) (g j44 4 rfl) (wd hw 318 rfl) (wd hw 319 rfl) (wd hw 320 rfl) (wd hw 321 rfl) (wd hw 322 rfl) (wd hw 323 rfl) (wd hw 324 rfl) (wd hw 325 rfl) (wd hw 326 rfl) (wd hw 298 rfl) (by decide) I1.1 pd_7 rfl rfl rfl rfl (by decide) (by decide) (by decide) (by decide) all0 (by decide) (own_hn0 l Z a0 hw n0 i c 0 0 _ I1 (by decide)) ?_
 rintro v h1 D1 ⟨rfl, rfl, rfl⟩ hsz
 show Runs _ _ _ _ _ _ _ _ _ _ _ _ [t] h1 1 4 11 _ [(.int 0)]
 refine Runs.ifN (g j44 5 rfl) (teq (by decide : (0 : Int32) = (0 : Int32))).2 ?_
 refine Runs.ldcT (vs := (own_T 511).map own_b) (z := Int32.ofNat (own_T 511).length) (n := 8) (by decide) (g j44 6 rfl) (own_k511 hw) (own_sa hw) (own_EW hw) (mi 11 rfl) ⟨own_c511, own_Tb own_c511⟩ (own_nn (by rw [own_L511]; decide)) (by rw [own_cl (by rw [own_L511]; decide), List.length_map]) (by rw [← own_Tlen, own_L511]; decide) (by decide) (by decide) (by decide) ?_
 intro h_1 s_2 t_3 k_4 K_5 O_6 A_7 dd_8
 have S_9 : Str Z h_1 s_2 t_3 k_4 (own_T 511) := ⟨O_6, A_7, own_Tl own_c511, by rw [own_L511]; decide⟩
 show Runs _ _ _ _ _ _ _ _ _ _ _ _ [t] h_1 3 16 16 _ [(.ref s_2)]
 refine Runs.weak (D1 := []) (fun _ q => nomatch q) ?_
 exact Runs.retA (g j44 7 rfl) rfl rfl rfl (by decide) (by decide) ⟨s_2, t_3, k_4, rfl, Ne.symm (dd_8 _ (mi 0 rfl)).2, K1.trans K_5 all0, Or.inl S_9, rfl⟩
theorem own_sz1 (hw : Wds Z a0) (n0 : Nat) (c s1 : Addr) (eM : Addr) (S_M : Sta Z Z.heap S12_ "EMPTY" S9_ (.ref eM)) (h0 : Heap) (O0 : Obj Z h0 c S4_ [(S4_, "e0", S9_, (.ref s1)), (S4_, "e1", S9_, (.ref eM))]) : Con 1 l Z EL_ n0 m46_ c46_ 1 (some .int) ⟨0, 0, 0, 0⟩ #[(.ref c)] [] h0 (fun v h D' => v = some (.int 1) ∧ h0 = h ∧ D' = []) := by
 refine Con.of_runs (ls := #[vr c]) (by decide +kernel) (ef rfl rfl) ?_
 refine Runs.aloadN (g j46 0 rfl) rfl rfl ?_
 refine Runs.getF (g j46 1 rfl) (host := "") (Or.inl (wd hw 178 rfl)) Via.refl (O0.fld (i := 1) rfl) ?_
 refine Runs.getSN (g j46 2 rfl) (wd hw 177 rfl) Via.refl S_M ?_
 refine Runs.acY (t := 14) (g j46 3 rfl) (by decide) rfl rfl (Jvm.Free.XT.aa_eq_t (congrArg Value.ref rfl)) ?_
 refine Runs.iconst (v := (1 : Int32)) (g j46 6 rfl) (by decide) ?_
 exact Runs.retI (z := (1 : Int32)) (g j46 7 rfl) rfl (Or.inl rfl) (by decide) (by decide) (by decide) ⟨rfl, rfl, rfl⟩
theorem own_itr1 (hw : Wds Z a0) (n0 : Nat) (c s1 : Addr) (eM : Addr) (S_M : Sta Z Z.heap S12_ "EMPTY" S9_ (.ref eM)) (h0 : Heap) (O0 : Obj Z h0 c S4_ [(S4_, "e0", S9_, (.ref s1)), (S4_, "e1", S9_, (.ref eM))]) : Con 1 l Z EL_ n0 m45_ c45_ 1 (some (.object "java/util/Iterator")) ⟨2, 1, 4, 27⟩ #[(.ref c)] [] h0 (fun v h D' => ∃ i, v = some (.ref i) ∧ h0.size ≤ i ∧ Keep h0 h [] ∧ Obj Z h i S3_ [(S3_, "list", S16_, (.ref c)), (S3_, "size", "I", (.int 1)), (S3_, "cursor", "I", (.int 0)), (S3_, S22_, "Z", (.int 0))] ∧ D' = []) := by
 refine Con.of_runs (ls := #[vr c]) (by decide +kernel) (ef rfl rfl) ?_
 refine Runs.newO (g j45 0 rfl) (wd hw 296 rfl) (wd hw 297 rfl) (wd hw 298 rfl) (lay_1 hw) (by decide) (by decide) ?_
 intro h_1 b_2 g_5 ge_6 K_3 (O_4 : Obj Z h_1 b_2 S3_ [(S3_, "list", S16_, .null), (S3_, "size", "I", (.int 0)), (S3_, "cursor", "I", (.int 0)), (S3_, S22_, "Z", (.int 0))]) U_7
 refine Runs.dup (g j45 1 rfl) rfl ?_
 refine Runs.aloadN (g j45 2 rfl) rfl rfl ?_
 refine Runs.aloadN (g j45 3 rfl) rfl rfl ?_
 refine Runs.callVUW (argsL := []) (rest := [(.ref c), (.ref b_2), (.ref b_2)]) (W := 3) (g j45 4 rfl) (wd hw 299 rfl) (wd hw 300 rfl) (wd hw 301 rfl) (by decide) (wd hw 302 rfl) (wd hw 303 rfl) (wd hw 304 rfl) (wd hw 152 rfl) (O0.1.keep K_3) pd_4 rfl rfl rfl rfl (by decide) (by decide) (by decide) (by decide) all0 (by decide) (own_sz1 l Z a0 hw n0 c s1 eM S_M _ (O0.keep K_3 nin0)) ?_
 rintro v h1 D1 ⟨rfl, rfl, rfl⟩ hsz
 show Runs _ _ _ _ _ _ _ _ _ _ _ _ [b_2] h_1 1 4 9 _ [(.int 1), (.ref c), (.ref b_2), (.ref b_2)]
 refine Runs.callCW (argsL := [(.ref c), (.int 1)]) (rest := [(.ref b_2)]) (W := 1) (g j45 5 rfl) rfl (wd hw 305 rfl) (wd hw 306 rfl) (wd hw 308 rfl) (wd hw 298 rfl) (by decide) pd_5 rfl rfl rfl rfl (by decide) (by decide) (by decide) (by decide) all0 (by decide) (own_lii l Z a0 hw n0 b_2 c 1 _ ge_6 O_4) ?_
 rintro v h9 D1 ⟨rfl, K9, O9, rfl⟩ hsz
 show Runs _ _ _ _ _ _ _ _ _ _ _ _ [b_2] h9 1 4 12 _ [(.ref b_2)]
 refine Runs.weak (D1 := []) (fun _ q => nomatch q) ?_
 exact Runs.retA (g j45 6 rfl) rfl rfl rfl (by decide) (by decide) ⟨b_2, rfl, g_5, (((Keep.refl _ _).trans K_3 all0).trans K9 (allS (Or.inr (Nat.le_trans (Nat.le_refl _) g_5)) all0)), O9, rfl⟩
theorem own_bi1 (hw : Wds Z a0) (n0 : Nat) (a : Addr) (h0 : Heap) (ga : n0 ≤ a) (O0 : Obj Z h0 a S10_ [(S2_, "value", "[B", .null), (S2_, "coder", "B", (.int 0)), (S2_, "count", "I", (.int 0)), (S2_, S21_, "Z", (.int 0))]) (cpt : Int32) (S_C : SC Z cpt) (hcpt : ¬ cpt = 0) : Con 1 l Z EL_ n0 (⟨S2_, "<init>", "(I)V"⟩ : MethodName) c30_ 2 none ⟨1, 1, 16, 13⟩ #[(.ref a), (.int 16)] [] h0 (fun v h D' => v = none ∧ ∃ t k, h0.size ≤ t ∧ Keep h0 h [a] ∧ SBd Z h a t k 16 [] ∧ D' = [t]) := by
 refine Con.of_runs (ls := #[vr a, vi 16]) (by decide +kernel) (ef rfl rfl) ?_
 refine Runs.aloadN (g j30 0 rfl) rfl rfl ?_
 refine Runs.initO (W := 0) (g j30 1 rfl) (wd hw 207 rfl) (wd hw 20 rfl) (wd hw 21 rfl) rfl (by decide) rfl (by decide) ?_
 refine Runs.getS (g j30 2 rfl) (wd hw 208 rfl) Via.refl S_C ?_
 refine Runs.ifN (g j30 3 rfl) (feq hcpt).1 ?_
 refine Runs.aloadN (g j30 4 rfl) rfl rfl ?_
 refine Runs.iloadN (g j30 5 rfl) rfl ?_
 refine Runs.newP (cap := 16) (ad := "[B") (g j30 6 rfl) (wd hw 41 rfl) (by decide) (by decide) (by decide) (by decide) (by decide) rfl ?_
 intro h_1 b_2 k_3 g_6 ge_7 K_4 (A_5 : Arv Z h_1 b_2 k_3 .byte (Int32.ofNat 16) (([] : List Int32).map own_b) (.int 0)) E_8
 have O_9 := (O0.keep K_4 nin0)
 refine Runs.putF (i := 0) (ty := (.array .byte)) (g j30 7 rfl) (host := "") (Or.inl (wd hw 209 rfl)) Via.refl O_9 rfl (lay_2 hw) rfl (Or.inl (wd hw 210 rfl)) (wd hw 196 rfl) (by decide) rfl rfl ga (Or.inr ⟨by decide, by decide⟩) ?_
 intro h_10 K_11 (O_12 : Obj Z h_10 a S10_ [(S2_, "value", "[B", (.ref b_2)), (S2_, "coder", "B", (.int 0)), (S2_, "count", "I", (.int 0)), (S2_, S21_, "Z", (.int 0))])
 refine Runs.aloadN (g j30 8 rfl) rfl rfl ?_
 refine Runs.iconst (v := (0 : Int32)) (g j30 9 rfl) (by decide) ?_
 refine Runs.putF (i := 1) (ty := .byte) (g j30 10 rfl) (host := "") (Or.inl (wd hw 211 rfl)) Via.refl O_12 rfl (lay_2 hw) rfl (Or.inl (wd hw 212 rfl)) (wd hw 196 rfl) (by decide) rfl rfl ga (Or.inr ⟨by decide, by decide⟩) ?_
 intro h_13 K_14 (O_15 : Obj Z h_13 a S10_ [(S2_, "value", "[B", (.ref b_2)), (S2_, "coder", "B", (.int 0)), (S2_, "count", "I", (.int 0)), (S2_, S21_, "Z", (.int 0))])
 refine Runs.goto (t := 38) (g j30 11 rfl) (by decide) ?_
 have A_16 := ((A_5.keep K_11 (ninS (Nat.ne_of_gt (Nat.lt_of_lt_of_le (Nat.lt_of_lt_of_le O0.lt (Nat.le_refl _)) g_6)) nin0)).keep K_14 (ninS (Nat.ne_of_gt (Nat.lt_of_lt_of_le (Nat.lt_of_lt_of_le O0.lt (Nat.le_refl _)) g_6)) nin0))
 exact Runs.retV (g j30 12 rfl) rfl (by decide) (by decide) ⟨rfl, b_2, k_3, g_6, ((((Keep.refl _ _).trans K_4 all0).trans K_11 (allS (Or.inl (mi 0 rfl)) all0)).trans K_14 (allS (Or.inl (mi 0 rfl)) all0)), ⟨O_15, A_16, ((E_8.keep K_11).keep K_14), own_lat0, by decide, by decide⟩, rfl⟩
theorem own_bi (hw : Wds Z a0) (n0 : Nat) (a : Addr) (h0 : Heap) (ga : n0 ≤ a) (O0 : Obj Z h0 a S10_ [(S2_, "value", "[B", .null), (S2_, "coder", "B", (.int 0)), (S2_, "count", "I", (.int 0)), (S2_, S21_, "Z", (.int 0))]) (cpt : Int32) (S_C : SC Z cpt) (hcpt : ¬ cpt = 0) : Con 1 l Z EL_ n0 (⟨S10_, "<init>", "()V"⟩ : MethodName) c29_ 1 none ⟨2, 1, 16, 26⟩ #[(.ref a)] [] h0 (fun v h D' => v = none ∧ ∃ t k, h0.size ≤ t ∧ Keep h0 h [a] ∧ SBd Z h a t k 16 [] ∧ D' = [t]) := by
 refine Con.of_runs (ls := #[vr a]) (by decide +kernel) (ef rfl rfl) ?_
 refine Runs.aloadN (g j29 0 rfl) rfl rfl ?_
 refine Runs.bipush (v := (16 : Int32)) (g j29 1 rfl) (by decide) ?_
 refine Runs.callCW (argsL := [(.int 16)]) (rest := []) (W := 0) (g j29 2 rfl) rfl (wd hw 201 rfl) (wd hw 202 rfl) (wd hw 206 rfl) (wd hw 205 rfl) (by decide) pd_8 rfl rfl rfl rfl (by decide) (by decide) (by decide) (by decide) all0 (by decide) (own_bi1 l Z a0 hw n0 a _ ga O0 cpt S_C hcpt) ?_
 rintro v h_6 D1 ⟨rfl, t_1, k_2, g_3, K_4, B_5, rfl⟩ hsz
 show Runs _ _ _ _ _ _ _ _ _ _ _ _ [t_1] h_6 1 16 6 _ []
 exact Runs.retV (g j29 3 rfl) rfl (by decide) (by decide) ⟨rfl, t_1, k_2, g_3, K_4, B_5, rfl⟩
theorem own_sub0 {a b : Nat} (h : a ≤ b) (hb : b < 2147483648) : ¬ (0 : Int32) < Int32.ofNat a - Int32.ofNat b := by
 rw [Int32.lt_iff_toInt_lt, Int32.toInt_sub, own_n0 a (by omega), own_n0 b hb, Int.bmod_eq_of_le (by omega) (by omega)]; show ¬ (0 : Int) < _; omega
theorem own_ecf (hw : Wds Z a0) (n0 : Nat) (a t : Addr) (k : ClassId) (cap : Nat) (xs : List Int32) (h0 : Heap) (B0 : SBd Z h0 a t k cap xs) (N : Nat) (hN : N ≤ cap) : Con 1 l Z EL_ n0 m35_ c35_ 3 none ⟨0, 0, 0, 0⟩ #[(.ref a), (.int (Int32.ofNat N))] [] h0 (fun v h D' => v = none ∧ h0 = h ∧ D' = []) := by
 refine Con.of_runs (ls := #[vr a, vi (Int32.ofNat N), .unset]) (by decide +kernel) (ef rfl rfl) ?_
 obtain ⟨BO, BA, BE, BL, hle, hcap⟩ := id B0
 have hsub : ¬ (0 : Int32) < Int32.ofNat N - Int32.ofNat cap := own_sub0 hN (by omega)
 refine Runs.aloadN (g j35 0 rfl) rfl rfl ?_
 refine Runs.getF (g j35 1 rfl) (host := "") (Or.inl (wd hw 209 rfl)) Via.refl (BO.fld (i := 0) rfl) ?_
 refine Runs.arrlen (g j35 2 rfl) BA ?_
 refine Runs.aloadN (g j35 3 rfl) rfl rfl ?_
 refine Runs.getF (g j35 4 rfl) (host := "") (Or.inl (wd hw 211 rfl)) Via.refl (BO.fld (i := 1) rfl) ?_
 refine Runs.ishr (z := (Int32.ofNat cap)) (g j35 5 rfl) (own_shr0 _) ?_
 refine Runs.istoreN (ls' := #[vr a, vi (Int32.ofNat N), vi (Int32.ofNat cap)]) (g j35 6 rfl) rfl ?_
 refine Runs.iloadN (g j35 7 rfl) rfl ?_
 refine Runs.iloadN (g j35 8 rfl) rfl ?_
 refine Runs.isub (z := Int32.ofNat N - Int32.ofNat cap) (g j35 9 rfl) rfl ?_
 refine Runs.ifY (t := 38) (g j35 10 rfl) (by decide) (flt hsub).2.2.2 ?_
 exact Runs.retV (g j35 22 rfl) rfl (by decide) (by decide) ⟨rfl, rfl, rfl⟩
theorem own_ecfw (hw : Wds Z a0) (n0 : Nat) (a t : Addr) (k : ClassId) (cap : Nat) (xs : List Int32) (h0 : Heap) (B0 : SBw Z h0 a t k cap xs) (N : Nat) (hN : N ≤ cap) : Con 1 l Z EL_ n0 m35_ c35_ 3 none ⟨0, 0, 0, 0⟩ #[(.ref a), (.int (Int32.ofNat N))] [] h0 (fun v h D' => v = none ∧ h0 = h ∧ D' = []) := by
 refine Con.of_runs (ls := #[vr a, vi (Int32.ofNat N), .unset]) (by decide +kernel) (ef rfl rfl) ?_
 obtain ⟨BO, BA, BE, BL, hle, hcap⟩ := id B0
 have hsub : ¬ (0 : Int32) < Int32.ofNat N - Int32.ofNat cap := own_sub0 hN (by omega)
 refine Runs.aloadN (g j35 0 rfl) rfl rfl ?_
 refine Runs.getF (g j35 1 rfl) (host := "") (Or.inl (wd hw 209 rfl)) Via.refl (BO.fld (i := 0) rfl) ?_
 refine Runs.arrlen (g j35 2 rfl) BA ?_
 refine Runs.aloadN (g j35 3 rfl) rfl rfl ?_
 refine Runs.getF (g j35 4 rfl) (host := "") (Or.inl (wd hw 211 rfl)) Via.refl (BO.fld (i := 1) rfl) ?_
 refine Runs.ishr (z := Int32.ofNat cap) (g j35 5 rfl) (own_shr1 (by omega)) ?_
 refine Runs.istoreN (ls' := #[vr a, vi (Int32.ofNat N), vi (Int32.ofNat cap)]) (g j35 6 rfl) rfl ?_
 refine Runs.iloadN (g j35 7 rfl) rfl ?_
 refine Runs.iloadN (g j35 8 rfl) rfl ?_
 refine Runs.isub (z := Int32.ofNat N - Int32.ofNat cap) (g j35 9 rfl) rfl ?_
 refine Runs.ifY (t := 38) (g j35 10 rfl) (by decide) (flt hsub).2.2.2 ?_
 exact Runs.retV (g j35 22 rfl) rfl (by decide) (by decide) ⟨rfl, rfl, rfl⟩
theorem own_bil1 (hw : Wds Z a0) (n0 : Nat) (a t : Addr) (k : ClassId) (cap : Nat) (xs : List Int32) (h0 : Heap) (B0 : SBw Z h0 a t k cap xs) (cpt : Int32) (S_C : SC Z cpt) (hcpt : ¬ cpt = 0) : Con 1 l Z EL_ n0 m51_ c51_ 1 (some .boolean) ⟨0, 0, 0, 0⟩ #[(.ref a)] [] h0 (fun v h D' => v = some (.int 0) ∧ h0 = h ∧ D' = []) := by
 refine Con.of_runs (ls := #[vr a]) (by decide +kernel) (ef rfl rfl) ?_
 obtain ⟨BO, BA, BE, BL, hle, hcap⟩ := id B0
 refine Runs.getS (g j51 0 rfl) (wd hw 208 rfl) Via.refl S_C ?_
 refine Runs.ifN (g j51 1 rfl) (feq hcpt).1 ?_
 refine Runs.aloadN (g j51 2 rfl) rfl rfl ?_
 refine Runs.getF (g j51 3 rfl) (host := "") (Or.inl (wd hw 211 rfl)) Via.refl (BO.fld (i := 1) rfl) ?_
 refine Runs.ifY (t := 17) (g j51 4 rfl) (by decide) (feq (by decide : ¬ ((1 : Int32) = (0 : Int32)))).2 ?_
 refine Runs.iconst (v := (0 : Int32)) (g j51 7 rfl) (by decide) ?_
 exact Runs.retI (z := (0 : Int32)) (g j51 8 rfl) rfl (Or.inr (Or.inl rfl)) (by decide) (by decide) (by decide) ⟨rfl, rfl, rfl⟩
theorem own_ain1 (hw : Wds Z a0) (n0 : Nat) (a t : Addr) (k : ClassId) (cap : Nat) (xs : List Int32) (h0 : Heap) (B0 : SBw Z h0 a t k cap xs) (cpt : Int32) (S_C : SC Z cpt) (hcpt : ¬ cpt = 0) : Con 1 l Z EL_ n0 m76_ c76_ 2 none ⟨1, 0, 0, 12⟩ #[(.ref a)] [] h0 (fun v h D' => v = none ∧ h0 = h ∧ D' = []) := by
 refine Con.of_runs (ls := #[vr a, .unset]) (by decide +kernel) (ef rfl rfl) ?_
 obtain ⟨BO, BA, BE, BL, hle, hcap⟩ := id B0
 refine Runs.aloadN (g j76 0 rfl) rfl rfl ?_
 refine Runs.callVW (argsL := []) (rest := []) (W := 0) (g j76 1 rfl) (wd hw 339 rfl) (wd hw 340 rfl) (fun s hZ => notFace_of_selects (args := #[]) (mvT hZ (wd hw 342 rfl))) (wd hw 342 rfl) (wd hw 341 rfl) (wd hw 343 rfl) (wd hw 205 rfl) (by decide) BO.1 pd_7 rfl rfl rfl rfl (by decide) (by decide) (by decide) (by decide) all0 (by decide) (own_bil1 l Z a0 hw n0 a t k cap xs _ B0 cpt S_C hcpt) ?_
 rintro v h1 D1 ⟨rfl, rfl, rfl⟩ hsz
 show Runs _ _ _ _ _ _ _ _ _ _ _ _ [] h0 0 0 4 _ [(.int 0)]
 refine Runs.ifN (g j76 2 rfl) (teq (by decide : (0 : Int32) = (0 : Int32))).2 ?_
 exact Runs.retV (g j76 3 rfl) rfl (by decide) (by decide) ⟨rfl, rfl, rfl⟩
theorem own_cod (hw : Wds Z a0) (n0 : Nat) (b u : Addr) (k : ClassId) (ys : List Int32) (h0 : Heap) (S0 : Str Z h0 b u k ys) (cpt : Int32) (S_C : SC Z cpt) (hcpt : ¬ cpt = 0) : Con 1 l Z EL_ n0 m34_ c34_ 1 (some .byte) ⟨0, 0, 0, 0⟩ #[(.ref b)] [] h0 (fun v h D' => v = some (.int 0) ∧ h0 = h ∧ D' = []) := by
 refine Con.of_runs (ls := #[vr b]) (by decide +kernel) (ef rfl rfl) ?_
 refine Runs.getS (g j34 0 rfl) (wd hw 31 rfl) Via.refl S_C ?_
 refine Runs.ifN (g j34 1 rfl) (feq hcpt).1 ?_
 refine Runs.aloadN (g j34 2 rfl) rfl rfl ?_
 refine Runs.getF (g j34 3 rfl) (host := "") (Or.inl (wd hw 49 rfl)) Via.refl (S0.1.fld (i := 1) rfl) ?_
 refine Runs.goto (t := 14) (g j34 4 rfl) (by decide) ?_
 exact Runs.retI (z := (0 : Int32)) (g j34 5 rfl) rfl (Or.inr (Or.inr (Or.inl rfl))) (by decide) (by decide) (by decide) ⟨rfl, rfl, rfl⟩
theorem own_cow (hw : Wds Z a0) (n0 : Nat) (s u : Addr) (k2 : ClassId) (ys : List Int32) (h0 : Heap) (S0 : Stw Z h0 s u k2 ys) (cpt : Int32) (S_C : SC Z cpt) (hcpt : ¬ cpt = 0) : Con 1 l Z EL_ n0 m34_ c34_ 1 (some .byte) ⟨0, 0, 0, 0⟩ #[(.ref s)] [] h0 (fun v h D' => v = some (.int 1) ∧ h0 = h ∧ D' = []) := by
 refine Con.of_runs (ls := #[vr s]) (by decide +kernel) (ef rfl rfl) ?_
 refine Runs.getS (g j34 0 rfl) (wd hw 31 rfl) Via.refl S_C ?_
 refine Runs.ifN (g j34 1 rfl) (feq hcpt).1 ?_
 refine Runs.aloadN (g j34 2 rfl) rfl rfl ?_
 refine Runs.getF (g j34 3 rfl) (host := "") (Or.inl (wd hw 49 rfl)) Via.refl (S0.1.fld (i := 1) rfl) ?_
 refine Runs.goto (t := 14) (g j34 4 rfl) (by decide) ?_
 exact Runs.retI (z := (1 : Int32)) (g j34 5 rfl) rfl (Or.inr (Or.inr (Or.inl rfl))) (by decide) (by decide) (by decide) ⟨rfl, rfl, rfl⟩
theorem own_if10 (hw : Wds Z a0) (n0 : Nat) (a t : Addr) (k : ClassId) (cap : Nat) (xs : List Int32) (h0 : Heap) (B0 : SBw Z h0 a t k cap xs) (s u : Addr) (k2 : ClassId) (ys : List Int32) (S0 : Str Z h0 s u k2 ys) (cpt : Int32) (S_C : SC Z cpt) (hcpt : ¬ cpt = 0) : Con 1 l Z EL_ n0 m37_ c37_ 2 none ⟨2, 0, 0, 25⟩ #[(.ref a), (.ref s)] [] h0 (fun v h D' => v = none ∧ h0 = h ∧ D' = []) := by
 refine Con.of_runs (ls := #[vr a, vr s]) (by decide +kernel) (ef rfl rfl) ?_
 obtain ⟨BO, BA, BE, BL, hle, hcap⟩ := id B0
 refine Runs.getS (g j37 0 rfl) (wd hw 208 rfl) Via.refl S_C ?_
 refine Runs.ifN (g j37 1 rfl) (feq hcpt).1 ?_
 refine Runs.aloadN (g j37 2 rfl) rfl rfl ?_
 refine Runs.getF (g j37 3 rfl) (host := "") (Or.inl (wd hw 211 rfl)) Via.refl (BO.fld (i := 1) rfl) ?_
 refine Runs.aloadN (g j37 4 rfl) rfl rfl ?_
 refine Runs.callVW (argsL := []) (rest := [(.int 1)]) (W := 1) (g j37 5 rfl) (wd hw 253 rfl) (wd hw 232 rfl) (fun s hZ => notFace_of_selects (args := #[]) (mvT hZ (wd hw 234 rfl))) (wd hw 234 rfl) (wd hw 233 rfl) (wd hw 235 rfl) (wd hw 29 rfl) (by decide) S0.1.1 pd_9 rfl rfl rfl rfl (by decide) (by decide) (by decide) (by decide) all0 (by decide) (own_cod l Z a0 hw n0 s u k2 ys _ S0 cpt S_C hcpt) ?_
 rintro v h1 D1 ⟨rfl, rfl, rfl⟩ hsz
 show Runs _ _ _ _ _ _ _ _ _ _ _ _ [] h0 0 0 14 _ [(.int 0), (.int 1)]
 refine Runs.icN (g j37 6 rfl) (feq (by decide : ¬ ((1 : Int32) = (0 : Int32)))).1 ?_
 refine Runs.aloadN (g j37 7 rfl) rfl rfl ?_
 refine Runs.callVW (argsL := []) (rest := []) (W := 0) (g j37 8 rfl) (wd hw 472 rfl) (declares_of (wd hw 473 rfl) (wd hw 476 rfl)) (fun s hZ => notFace_of_selects (args := #[]) (mvT hZ (wd hw 475 rfl))) (wd hw 475 rfl) (wd hw 473 rfl) (wd hw 476 rfl) (wd hw 205 rfl) (by decide) BO.1 pd_10 rfl rfl rfl rfl (by decide) (by decide) (by decide) (by decide) all0 (by decide) (own_ain1 l Z a0 hw n0 a t k cap xs _ B0 cpt S_C hcpt) ?_
 rintro v h1 D1 ⟨rfl, rfl, rfl⟩ hsz
 show Runs _ _ _ _ _ _ _ _ _ _ _ _ [] h0 0 0 21 _ []
 exact Runs.retV (g j37 9 rfl) rfl (by decide) (by decide) ⟨rfl, rfl, rfl⟩
theorem own_if11 (hw : Wds Z a0) (n0 : Nat) (a t : Addr) (k : ClassId) (cap : Nat) (xs : List Int32) (h0 : Heap) (B0 : SBw Z h0 a t k cap xs) (s u : Addr) (k2 : ClassId) (ys : List Int32) (S0 : Stw Z h0 s u k2 ys) (cpt : Int32) (S_C : SC Z cpt) (hcpt : ¬ cpt = 0) : Con 1 l Z EL_ n0 m37_ c37_ 2 none ⟨1, 0, 0, 13⟩ #[(.ref a), (.ref s)] [] h0 (fun v h D' => v = none ∧ h0 = h ∧ D' = []) := by
 refine Con.of_runs (ls := #[vr a, vr s]) (by decide +kernel) (ef rfl rfl) ?_
 obtain ⟨BO, BA, BE, BL, hle, hcap⟩ := id B0
 refine Runs.getS (g j37 0 rfl) (wd hw 208 rfl) Via.refl S_C ?_
 refine Runs.ifN (g j37 1 rfl) (feq hcpt).1 ?_
 refine Runs.aloadN (g j37 2 rfl) rfl rfl ?_
 refine Runs.getF (g j37 3 rfl) (host := "") (Or.inl (wd hw 211 rfl)) Via.refl (BO.fld (i := 1) rfl) ?_
 refine Runs.aloadN (g j37 4 rfl) rfl rfl ?_
 refine Runs.callVW (argsL := []) (rest := [(.int 1)]) (W := 1) (g j37 5 rfl) (wd hw 253 rfl) (wd hw 232 rfl) (fun s hZ => notFace_of_selects (args := #[]) (mvT hZ (wd hw 234 rfl))) (wd hw 234 rfl) (wd hw 233 rfl) (wd hw 235 rfl) (wd hw 29 rfl) (by decide) S0.1.1 pd_9 rfl rfl rfl rfl (by decide) (by decide) (by decide) (by decide) all0 (by decide) (own_cow l Z a0 hw n0 s u k2 ys _ S0 cpt S_C hcpt) ?_
 rintro v h1 D1 ⟨rfl, rfl, rfl⟩ hsz
 show Runs _ _ _ _ _ _ _ _ _ _ _ _ [] h0 0 0 14 _ [(.int 1), (.int 1)]
 refine Runs.icY (t := 21) (g j37 6 rfl) (by decide) (teq (by decide : (1 : Int32) = (1 : Int32))).1 ?_
 exact Runs.retV (g j37 9 rfl) rfl (by decide) (by decide) ⟨rfl, rfl, rfl⟩
theorem own_cfs (hw : Wds Z a0) (n0 : Nat) (n cap : Nat) (hn : n ≤ cap) (hcap : cap < 1000000) (fm : Value) (hfm : fm.isRef = true) (h0 : Heap) : Con 1 l Z EL_ n0 m84_ c84_ 4 (some .int) ⟨0, 0, 0, 0⟩ #[(.int 0), (.int (Int32.ofNat n)), (.int (Int32.ofNat cap)), fm] [] h0 (fun v h D' => v = some (.int 0) ∧ h0 = h ∧ D' = []) := by
 refine Con.of_runs (ls := #[vi 0, vi (Int32.ofNat n), vi (Int32.ofNat cap), .val fm]) (by decide +kernel) (fun m => by rcases ref_cases hfm with rfl | ⟨_, rfl⟩ <;> exact ef rfl rfl m) ?_
 refine Runs.iloadN (g j84 0 rfl) rfl ?_
 refine Runs.iloadN (g j84 1 rfl) rfl ?_
 refine Runs.ior (z := Int32.ofNat (cap ||| 0)) (g j84 2 rfl) (own_or2 (a := cap) (b := 0)) ?_
 refine Runs.iloadN (g j84 3 rfl) rfl ?_
 refine Runs.ior (z := Int32.ofNat ((cap ||| 0) ||| n)) (g j84 4 rfl) (own_or2 (a := (cap ||| 0)) (b := n)) ?_
 refine Runs.ifN (g j84 5 rfl) (flt (own_nn (by have := own_orlt (own_orlt (a := cap) (b := 0) (by omega) (by omega)) (show n < 1073741824 by omega); omega))).1 ?_
 refine Runs.iloadN (g j84 6 rfl) rfl ?_
 refine Runs.iloadN (g j84 7 rfl) rfl ?_
 refine Runs.iloadN (g j84 8 rfl) rfl ?_
 refine Runs.isub (z := Int32.ofNat cap) (g j84 9 rfl) (own_sub (a := cap) (b := 0) (by omega) (by omega)) ?_
 refine Runs.icY (t := 23) (g j84 10 rfl) (by decide) (flt (own_nlt (a := cap) (b := n) hn (by omega))).2.2.2 ?_
 refine Runs.iloadN (g j84 11 rfl) rfl ?_
 exact Runs.retI (z := (0 : Int32)) (g j84 12 rfl) rfl (Or.inl rfl) rfl (by decide) (by decide) ⟨rfl, rfl, rfl⟩
theorem own_sbo (hw : Wds Z a0) (n0 : Nat) (n cap : Nat) (hn : n ≤ cap) (hcap : cap < 1000000) (fm : Value) (hfm : fm.isRef = true) (S_F : SF Z fm) (h0 : Heap) : Con 1 l Z EL_ n0 m83_ c83_ 3 (some .int) ⟨1, 0, 0, 15⟩ #[(.int 0), (.int (Int32.ofNat n)), (.int (Int32.ofNat cap))] [] h0 (fun v h D' => v = some (.int 0) ∧ h0 = h ∧ D' = []) := by
 refine Con.of_runs (ls := #[vi 0, vi (Int32.ofNat n), vi (Int32.ofNat cap)]) (by decide +kernel) (ef rfl rfl) ?_
 refine Runs.iloadN (g j83 0 rfl) rfl ?_
 refine Runs.iloadN (g j83 1 rfl) rfl ?_
 refine Runs.iloadN (g j83 2 rfl) rfl ?_
 refine Runs.getS (g j83 3 rfl) (wd hw 441 rfl) Via.refl S_F ?_
 refine Runs.callSW (argsL := [(.int 0), (.int (Int32.ofNat n)), (.int (Int32.ofNat cap)), fm]) (rest := []) (W := 0) (g j83 4 rfl) (wd hw 499 rfl) (wd hw 500 rfl) (wd hw 442 rfl) (wd hw 501 rfl) (by decide) pd_11 rfl rfl rfl rfl (by decide) (by decide) (by decide) (by decide) all0 (by decide) (own_cfs l Z a0 hw n0 n cap hn hcap fm hfm _) ?_
 rintro v h1 D1 ⟨rfl, rfl, rfl⟩ hsz
 show Runs _ _ _ _ _ _ _ _ _ _ _ _ [] h0 0 0 9 _ [(.int 0)]
 exact Runs.retI (z := (0 : Int32)) (g j83 5 rfl) rfl (Or.inl rfl) rfl (by decide) (by decide) ⟨rfl, rfl, rfl⟩
theorem own_ulen (hw : Wds Z a0) (n0 : Nat) (cap : Nat) (hcap : cap < 1000000) (t : Addr) (k : ClassId) (vs : List Value) (h0 : Heap) (T0 : Arv Z h0 t k .byte (Int32.ofNat (2 * cap)) vs (.int 0)) : Con 1 l Z EL_ n0 (⟨S17_, "length", "([B)I"⟩ : MethodName) c82_ 1 (some .int) ⟨0, 0, 0, 0⟩ #[(.ref t)] [] h0 (fun v h D' => v = some (.int (Int32.ofNat cap)) ∧ h0 = h ∧ D' = []) := by
 refine Con.of_runs (ls := #[vr t]) (by decide +kernel) (ef rfl rfl) ?_
 refine Runs.aloadN (g j82 0 rfl) rfl rfl ?_
 refine Runs.arrlen (g j82 1 rfl) T0 ?_
 refine Runs.iconst (v := (1 : Int32)) (g j82 2 rfl) (by decide) ?_
 refine Runs.ishr (z := Int32.ofNat cap) (g j82 3 rfl) (own_shr1 (by omega)) ?_
 exact Runs.retI (z := (Int32.ofNat cap)) (g j82 4 rfl) rfl (Or.inl rfl) rfl (by decide) (by decide) ⟨rfl, rfl, rfl⟩
theorem own_ubo (hw : Wds Z a0) (n0 : Nat) (n cap : Nat) (hn : n ≤ cap) (hcap : cap < 1000000) (fm : Value) (hfm : fm.isRef = true) (S_F : SF Z fm) (t : Addr) (k : ClassId) (vs : List Value) (h0 : Heap) (T0 : Arv Z h0 t k .byte (Int32.ofNat (2 * cap)) vs (.int 0)) : Con 1 l Z EL_ n0 m81_ c81_ 3 none ⟨2, 0, 0, 31⟩ #[(.int 0), (.int (Int32.ofNat n)), (.ref t)] [] h0 (fun v h D' => v = none ∧ h0 = h ∧ D' = []) := by
 refine Con.of_runs (ls := #[vi 0, vi (Int32.ofNat n), vr t]) (by decide +kernel) (ef rfl rfl) ?_
 refine Runs.iloadN (g j81 0 rfl) rfl ?_
 refine Runs.iloadN (g j81 1 rfl) rfl ?_
 refine Runs.aloadN (g j81 2 rfl) rfl rfl ?_
 refine Runs.callSW (argsL := [(.ref t)]) (rest := [(.int (Int32.ofNat n)), (.int 0)]) (W := 2) (g j81 3 rfl) (wd hw 493 rfl) (wd hw 494 rfl) (wd hw 460 rfl) (wd hw 495 rfl) (by decide) pd_12 rfl rfl rfl rfl (by decide) (by decide) (by decide) (by decide) all0 (by decide) (own_ulen l Z a0 hw n0 cap hcap t k vs _ T0) ?_
 rintro v h1 D1 ⟨rfl, rfl, rfl⟩ hsz
 show Runs _ _ _ _ _ _ _ _ _ _ _ _ [] h0 0 0 6 _ [(.int (Int32.ofNat cap)), (.int (Int32.ofNat n)), (.int 0)]
 refine Runs.callSW (argsL := [(.int 0), (.int (Int32.ofNat n)), (.int (Int32.ofNat cap))]) (rest := []) (W := 0) (g j81 4 rfl) (wd hw 496 rfl) (wd hw 497 rfl) (wd hw 29 rfl) (wd hw 498 rfl) (by decide) pd_13 rfl rfl rfl rfl (by decide) (by decide) (by decide) (by decide) all0 (by decide) (own_sbo l Z a0 hw n0 n cap hn hcap fm hfm S_F _) ?_
 rintro v h1 D1 ⟨rfl, rfl, rfl⟩ hsz
 show Runs _ _ _ _ _ _ _ _ _ _ _ _ [] h0 0 0 9 _ [(.int 0)]
 refine Runs.pop (g j81 5 rfl) rfl ?_
 exact Runs.retV (g j81 6 rfl) rfl (by decide) (by decide) ⟨rfl, rfl, rfl⟩
theorem own_cfs2 (hw : Wds Z a0) (n0 : Nat) (o n cap : Nat) (hn : o + n ≤ cap) (hcap : cap < 1000000) (fm : Value) (hfm : fm.isRef = true) (h0 : Heap) : Con 1 l Z EL_ n0 m84_ c84_ 4 (some .int) ⟨0, 0, 0, 0⟩ #[(.int (Int32.ofNat o)), (.int (Int32.ofNat n)), (.int (Int32.ofNat cap)), fm] [] h0 (fun v h D' => v = some (.int (Int32.ofNat o)) ∧ h0 = h ∧ D' = []) := by
 refine Con.of_runs (ls := #[vi (Int32.ofNat o), vi (Int32.ofNat n), vi (Int32.ofNat cap), .val fm]) (by decide +kernel) (fun m => by rcases ref_cases hfm with rfl | ⟨_, rfl⟩ <;> exact ef rfl rfl m) ?_
 refine Runs.iloadN (g j84 0 rfl) rfl ?_
 refine Runs.iloadN (g j84 1 rfl) rfl ?_
 refine Runs.ior (z := Int32.ofNat (cap ||| o)) (g j84 2 rfl) (own_or2 (a := cap) (b := o)) ?_
 refine Runs.iloadN (g j84 3 rfl) rfl ?_
 refine Runs.ior (z := Int32.ofNat ((cap ||| o) ||| n)) (g j84 4 rfl) (own_or2 (a := (cap ||| o)) (b := n)) ?_
 refine Runs.ifN (g j84 5 rfl) (flt (own_nn (by have := own_orlt (own_orlt (a := cap) (b := o) (by omega) (by omega)) (show n < 1073741824 by omega); omega))).1 ?_
 refine Runs.iloadN (g j84 6 rfl) rfl ?_
 refine Runs.iloadN (g j84 7 rfl) rfl ?_
 refine Runs.iloadN (g j84 8 rfl) rfl ?_
 refine Runs.isub (z := (Int32.ofNat (cap - o))) (g j84 9 rfl) (own_sub (a := cap) (b := o) (by omega) (by omega)) ?_
 refine Runs.icY (t := 23) (g j84 10 rfl) (by decide) (flt (own_nlt (a := cap - o) (b := n) (by omega) (by omega))).2.2.2 ?_
 refine Runs.iloadN (g j84 11 rfl) rfl ?_
 exact Runs.retI (z := (Int32.ofNat o)) (g j84 12 rfl) rfl (Or.inl rfl) rfl (by decide) (by decide) ⟨rfl, rfl, rfl⟩
theorem own_sbo2 (hw : Wds Z a0) (n0 : Nat) (o n cap : Nat) (hn : o + n ≤ cap) (hcap : cap < 1000000) (fm : Value) (hfm : fm.isRef = true) (S_F : SF Z fm) (h0 : Heap) : Con 1 l Z EL_ n0 m83_ c83_ 3 (some .int) ⟨1, 0, 0, 15⟩ #[(.int (Int32.ofNat o)), (.int (Int32.ofNat n)), (.int (Int32.ofNat cap))] [] h0 (fun v h D' => v = some (.int (Int32.ofNat o)) ∧ h0 = h ∧ D' = []) := by
 refine Con.of_runs (ls := #[vi (Int32.ofNat o), vi (Int32.ofNat n), vi (Int32.ofNat cap)]) (by decide +kernel) (ef rfl rfl) ?_
 refine Runs.iloadN (g j83 0 rfl) rfl ?_
 refine Runs.iloadN (g j83 1 rfl) rfl ?_
 refine Runs.iloadN (g j83 2 rfl) rfl ?_
 refine Runs.getS (g j83 3 rfl) (wd hw 441 rfl) Via.refl S_F ?_
 refine Runs.callSW (argsL := [(.int (Int32.ofNat o)), (.int (Int32.ofNat n)), (.int (Int32.ofNat cap)), fm]) (rest := []) (W := 0) (g j83 4 rfl) (wd hw 499 rfl) (wd hw 500 rfl) (wd hw 442 rfl) (wd hw 501 rfl) (by decide) pd_11 rfl rfl rfl rfl (by decide) (by decide) (by decide) (by decide) all0 (by decide) (own_cfs2 l Z a0 hw n0 o n cap hn hcap fm hfm _) ?_
 rintro v h1 D1 ⟨rfl, rfl, rfl⟩ hsz
 show Runs _ _ _ _ _ _ _ _ _ _ _ _ [] h0 0 0 9 _ [(.int (Int32.ofNat o))]
 exact Runs.retI (z := (Int32.ofNat o)) (g j83 5 rfl) rfl (Or.inl rfl) rfl (by decide) (by decide) ⟨rfl, rfl, rfl⟩
theorem own_ubo2 (hw : Wds Z a0) (n0 : Nat) (o n cap : Nat) (hn : o + n ≤ cap) (hcap : cap < 1000000) (fm : Value) (hfm : fm.isRef = true) (S_F : SF Z fm) (t : Addr) (k : ClassId) (vs : List Value) (h0 : Heap) (T0 : Arv Z h0 t k .byte (Int32.ofNat (2 * cap)) vs (.int 0)) : Con 1 l Z EL_ n0 m81_ c81_ 3 none ⟨2, 0, 0, 29⟩ #[(.int (Int32.ofNat o)), (.int (Int32.ofNat n)), (.ref t)] [] h0 (fun v h D' => v = none ∧ h0 = h ∧ D' = []) := by
 refine Con.of_runs (ls := #[vi (Int32.ofNat o), vi (Int32.ofNat n), vr t]) (by decide +kernel) (ef rfl rfl) ?_
 refine Runs.iloadN (g j81 0 rfl) rfl ?_
 refine Runs.iloadN (g j81 1 rfl) rfl ?_
 refine Runs.aloadN (g j81 2 rfl) rfl rfl ?_
 refine Runs.callSW (argsL := [(.ref t)]) (rest := [(.int (Int32.ofNat n)), (.int (Int32.ofNat o))]) (W := 2) (g j81 3 rfl) (wd hw 493 rfl) (wd hw 494 rfl) (wd hw 460 rfl) (wd hw 495 rfl) (by decide) pd_12 rfl rfl rfl rfl (by decide) (by decide) (by decide) (by decide) all0 (by decide) (own_ulen l Z a0 hw n0 cap hcap t k vs _ T0) ?_
 rintro v h1 D1 ⟨rfl, rfl, rfl⟩ hsz
 show Runs _ _ _ _ _ _ _ _ _ _ _ _ [] h0 0 0 6 _ [(.int (Int32.ofNat cap)), (.int (Int32.ofNat n)), (.int (Int32.ofNat o))]
 refine Runs.callSW (argsL := [(.int (Int32.ofNat o)), (.int (Int32.ofNat n)), (.int (Int32.ofNat cap))]) (rest := []) (W := 0) (g j81 4 rfl) (wd hw 496 rfl) (wd hw 497 rfl) (wd hw 29 rfl) (wd hw 498 rfl) (by decide) pd_13 rfl rfl rfl rfl (by decide) (by decide) (by decide) (by decide) all0 (by decide) (own_sbo2 l Z a0 hw n0 o n cap hn hcap fm hfm S_F _) ?_
 rintro v h1 D1 ⟨rfl, rfl, rfl⟩ hsz
 show Runs _ _ _ _ _ _ _ _ _ _ _ _ [] h0 0 0 9 _ [(.int (Int32.ofNat o))]
 refine Runs.pop (g j81 5 rfl) rfl ?_
 exact Runs.retV (g j81 6 rfl) rfl (by decide) (by decide) ⟨rfl, rfl, rfl⟩
theorem own_uil2 (hw : Wds Z a0) (n0 : Nat) (u t : Addr) (ku k : ClassId) (c0 cap : Nat) (pre xs : List Int32) (hut : u ≠ t) (hx : pre.length + xs.length ≤ cap) (hcap : cap < 1000000) (hc0 : xs.length ≤ c0 ∧ c0 < 1000000) (hL : Lat xs) (h0 : Heap) (U0 : Arv Z h0 u ku .byte (Int32.ofNat c0) (xs.map own_b) (.int 0)) (gt : n0 ≤ t) (S_A : SA Z) (S_H : SH Z) (S_L : SL Z) (d : Nat) : ∀ (i : Nat) (h : Heap), d + i = xs.length → Keep h0 h [t] → Arv Z h t k .byte (Int32.ofNat (2 * cap)) (own_ws (pre ++ xs.take i)) (.int 0) → Runs 1 l Z EL_ n0 S17_ "inflate" c80_ 6 none ⟨3, 0, 0, 48⟩ (fun v h D' => v = none ∧ Keep h0 h [t] ∧ Arv Z h t k .byte (Int32.ofNat (2 * cap)) (own_ws (pre ++ xs)) (.int 0) ∧ D' = []) [t] h 0 0 10 #[vr u, vi (Int32.ofNat i), vr t, vi (Int32.ofNat (pre.length + i)), vi (Int32.ofNat xs.length), vi (Int32.ofNat i)] [] := by
 induction d with
 | zero =>
   intro i h hd K T
   refine Runs.iload (g j80 6 rfl) rfl ?_
   refine Runs.iload (g j80 7 rfl) rfl ?_
   refine Runs.icY (t := 41) (g j80 8 rfl) (by decide) (flt (own_nlt (by omega) (by omega))).2.1 ?_
   exact Runs.weak (D1 := []) (fun _ q => nomatch q) (Runs.retV (g j80 21 rfl) rfl (by decide) (by decide) ⟨rfl, K, by rw [List.take_of_length_le (by omega)] at T; exact T, rfl⟩)
 | succ d ih =>
   intro i h hd K T
   refine Runs.iload (g j80 6 rfl) rfl ?_
   refine Runs.iload (g j80 7 rfl) rfl ?_
   refine Runs.icN (g j80 8 rfl) (tlt (own_lt (by omega) (by omega))).2.1 ?_
   refine Runs.aloadN (g j80 9 rfl) rfl rfl ?_
   refine Runs.iloadN (g j80 10 rfl) rfl ?_
   refine Runs.iinc (z := (Int32.ofNat (pre.length + (i + 1)))) (ls' := #[vr u, vi (Int32.ofNat i), vr t, vi (Int32.ofNat (pre.length + (i + 1))), vi (Int32.ofNat xs.length), vi (Int32.ofNat i)]) (g j80 11 rfl) rfl (own_add (a := pre.length + i) (b := 1) (by omega)) rfl ?_
   refine Runs.aloadN (g j80 12 rfl) rfl rfl ?_
   refine Runs.iloadN (g j80 13 rfl) rfl ?_
   refine Runs.iinc (z := (Int32.ofNat (i + 1))) (ls' := #[vr u, vi (Int32.ofNat (i + 1)), vr t, vi (Int32.ofNat (pre.length + (i + 1))), vi (Int32.ofNat xs.length), vi (Int32.ofNat i)]) (g j80 14 rfl) rfl (own_add (a := i) (b := 1) (by omega)) rfl ?_
   refine Runs.baload (v := .int ((Int32.toInt8 (xs.getD i 0)).toInt32)) (g j80 15 rfl) (U0.keep K (ninS hut nin0)) ⟨own_nn (by omega), own_lt (by omega) (by omega)⟩ (by rw [own_cl (by omega)]; exact own_gbv _ _) ?_
   refine Runs.sipush (v := (255 : Int32)) (g j80 16 rfl) (by decide) ?_
   refine Runs.iand (z := xs.getD i 0) (g j80 17 rfl) (own_b255 (own_latg hL (by omega))) ?_
   have Hc := own_upc l Z a0 hw n0 t k cap (pre ++ xs.take i) _ T (xs.getD i 0) (by rw [List.length_append, own_tkl (by omega)]; omega) hcap gt S_A S_H S_L
   rw [List.length_append, own_tkl (by omega)] at Hc
   refine Runs.callSW (argsL := [(.ref t), (.int (Int32.ofNat (pre.length + i))), (.int (xs.getD i 0))]) (rest := []) (W := 0) (g j80 18 rfl) (wd hw 462 rfl) (wd hw 463 rfl) (wd hw 460 rfl) (wd hw 464 rfl) (by decide) pd_0 rfl rfl rfl rfl (by decide) (by decide) (by decide) (by decide) (allS (mi 0 rfl) all0) (by decide) Hc ?_
   rintro v h_3 D1 ⟨rfl, K_1, A_2, rfl⟩ hsz
   show Runs _ _ _ _ _ _ _ _ _ _ _ _ [t] h_3 0 0 35 _ []
   refine Runs.iinc (z := (Int32.ofNat (i + 1))) (ls' := #[vr u, vi (Int32.ofNat (i + 1)), vr t, vi (Int32.ofNat (pre.length + (i + 1))), vi (Int32.ofNat xs.length), vi (Int32.ofNat (i + 1))]) (g j80 19 rfl) rfl (own_add (a := i) (b := 1) (by omega)) rfl ?_
   refine Runs.goto (t := 10) (g j80 20 rfl) (by decide) ?_
   exact ih (i + 1) _ (by omega) (K.trans K_1 (allS (Or.inl (mi 0 rfl)) all0)) (by rw [← own_take1 (by omega), ← List.append_assoc]; exact A_2)
theorem own_uin2 (hw : Wds Z a0) (n0 : Nat) (u t : Addr) (ku k : ClassId) (c0 cap : Nat) (pre xs : List Int32) (hut : u ≠ t) (hx : pre.length + xs.length ≤ cap) (hcap : cap < 1000000) (hc0 : xs.length ≤ c0 ∧ c0 < 1000000) (hL : Lat xs) (h0 : Heap) (U0 : Arv Z h0 u ku .byte (Int32.ofNat c0) (xs.map own_b) (.int 0)) (gt : n0 ≤ t) (S_A : SA Z) (S_H : SH Z) (S_L : SL Z) (T0 : Arv Z h0 t k .byte (Int32.ofNat (2 * cap)) (own_ws pre) (.int 0)) (fm : Value) (hfm : fm.isRef = true) (S_F : SF Z fm) : Con 1 l Z EL_ n0 m80_ c80_ 6 none ⟨3, 0, 0, 48⟩ #[(.ref u), (.int 0), (.ref t), (.int (Int32.ofNat pre.length)), (.int (Int32.ofNat xs.length))] [t] h0 (fun v h D' => v = none ∧ Keep h0 h [t] ∧ Arv Z h t k .byte (Int32.ofNat (2 * cap)) (own_ws (pre ++ xs)) (.int 0) ∧ D' = []) := by
 refine Con.of_runs (ls := #[vr u, vi 0, vr t, vi (Int32.ofNat pre.length), vi (Int32.ofNat xs.length), .unset]) (by decide +kernel) (ef rfl rfl) ?_
 refine Runs.iloadN (g j80 0 rfl) rfl ?_
 refine Runs.iload (g j80 1 rfl) rfl ?_
 refine Runs.aloadN (g j80 2 rfl) rfl rfl ?_
 refine Runs.callSW (argsL := [(.int (Int32.ofNat pre.length)), (.int (Int32.ofNat xs.length)), (.ref t)]) (rest := []) (W := 0) (g j80 3 rfl) (wd hw 490 rfl) (wd hw 491 rfl) (wd hw 460 rfl) (wd hw 492 rfl) (by decide) pd_14 rfl rfl rfl rfl (by decide) (by decide) (by decide) (by decide) all0 (by decide) (own_ubo2 l Z a0 hw n0 pre.length xs.length cap hx hcap fm hfm S_F t k _ _ T0) ?_
 rintro v h1 D1 ⟨rfl, rfl, rfl⟩ hsz
 show Runs _ _ _ _ _ _ _ _ _ _ _ _ [t] h0 0 0 7 _ []
 refine Runs.iconst (v := (0 : Int32)) (g j80 4 rfl) (by decide) ?_
 refine Runs.istore (ls' := #[vr u, vi 0, vr t, vi (Int32.ofNat pre.length), vi (Int32.ofNat xs.length), vi 0]) (g j80 5 rfl) rfl ?_
 exact own_uil2 l Z a0 hw n0 u t ku k c0 cap pre xs hut hx hcap hc0 hL h0 U0 gt S_A S_H S_L xs.length 0 _ (by omega) (Keep.refl _ _) (by rw [List.take_zero, List.append_nil]; exact T0)
theorem own_lin2 (hw : Wds Z a0) (n0 : Nat) (u t : Addr) (ku k : ClassId) (c0 cap : Nat) (pre xs : List Int32) (hut : u ≠ t) (hx : pre.length + xs.length ≤ cap) (hcap : cap < 1000000) (hc0 : xs.length ≤ c0 ∧ c0 < 1000000) (hL : Lat xs) (h0 : Heap) (U0 : Arv Z h0 u ku .byte (Int32.ofNat c0) (xs.map own_b) (.int 0)) (gt : n0 ≤ t) (S_A : SA Z) (S_H : SH Z) (S_L : SL Z) (T0 : Arv Z h0 t k .byte (Int32.ofNat (2 * cap)) (own_ws pre) (.int 0)) (fm : Value) (hfm : fm.isRef = true) (S_F : SF Z fm) : Con 1 l Z EL_ n0 m79_ c79_ 5 none ⟨4, 0, 0, 65⟩ #[(.ref u), (.int 0), (.ref t), (.int (Int32.ofNat pre.length)), (.int (Int32.ofNat xs.length))] [t] h0 (fun v h D' => v = none ∧ Keep h0 h [t] ∧ Arv Z h t k .byte (Int32.ofNat (2 * cap)) (own_ws (pre ++ xs)) (.int 0) ∧ D' = []) := by
 refine Con.of_runs (ls := #[vr u, vi 0, vr t, vi (Int32.ofNat pre.length), vi (Int32.ofNat xs.length)]) (by decide +kernel) (ef rfl rfl) ?_
 refine Runs.aloadN (g j79 0 rfl) rfl rfl ?_
 refine Runs.iloadN (g j79 1 rfl) rfl ?_
 refine Runs.aloadN (g j79 2 rfl) rfl rfl ?_
 refine Runs.iloadN (g j79 3 rfl) rfl ?_
 refine Runs.iload (g j79 4 rfl) rfl ?_
 refine Runs.callSW (argsL := [(.ref u), (.int 0), (.ref t), (.int (Int32.ofNat pre.length)), (.int (Int32.ofNat xs.length))]) (rest := []) (W := 0) (g j79 5 rfl) (wd hw 487 rfl) (wd hw 488 rfl) (wd hw 460 rfl) (wd hw 489 rfl) (by decide) pd_15 rfl rfl rfl rfl (by decide) (by decide) (by decide) (by decide) (allS (mi 0 rfl) all0) (by decide) (own_uin2 l Z a0 hw n0 u t ku k c0 cap pre xs hut hx hcap hc0 hL h0 U0 gt S_A S_H S_L T0 fm hfm S_F) ?_
 rintro v h1 D1 ⟨rfl, K1, A1, rfl⟩ hsz
 show Runs _ _ _ _ _ _ _ _ _ _ _ _ [t] h1 0 0 9 _ []
 refine Runs.weak (D1 := []) (fun _ q => nomatch q) ?_
 exact Runs.retV (g j79 6 rfl) rfl (by decide) (by decide) ⟨rfl, K1, A1, rfl⟩
theorem own_gb10 (hw : Wds Z a0) (n0 : Nat) (t : Addr) (k : ClassId) (cap : Nat) (xs : List Int32) (h0 : Heap) (BA : Arv Z h0 t k .byte (Int32.ofNat (2 * cap)) (own_ws xs) (.int 0)) (s u : Addr) (k2 : ClassId) (ys : List Int32) (S0 : Str Z h0 s u k2 ys) (hut : u ≠ t) (hfit : xs.length + ys.length ≤ cap) (hcap : cap < 1000000) (gt : n0 ≤ t) (cpt : Int32) (S_C : SC Z cpt) (hcpt : ¬ cpt = 0) (S_A : SA Z) (S_H : SH Z) (S_L : SL Z) (fm : Value) (hfm : fm.isRef = true) (S_F : SF Z fm) : Con 1 l Z EL_ n0 m38_ c38_ 4 none ⟨5, 0, 0, 81⟩ #[(.ref s), (.ref t), (.int (Int32.ofNat xs.length)), (.int 1)] [t] h0 (fun v h D' => v = none ∧ Keep h0 h [t] ∧ Arv Z h t k .byte (Int32.ofNat (2 * cap)) (own_ws (xs ++ ys)) (.int 0) ∧ D' = []) := by
 refine Con.of_runs (ls := #[vr s, vr t, vi (Int32.ofNat xs.length), vi 1]) (by decide +kernel) (ef rfl rfl) ?_
 have hys := S0.2.2.2
 refine Runs.aloadN (g j38 0 rfl) rfl rfl ?_
 refine Runs.callVW (argsL := []) (rest := []) (W := 0) (g j38 1 rfl) (wd hw 231 rfl) (wd hw 232 rfl) (fun s hZ => notFace_of_selects (args := #[]) (mvT hZ (wd hw 234 rfl))) (wd hw 234 rfl) (wd hw 233 rfl) (wd hw 235 rfl) (wd hw 29 rfl) (by decide) S0.1.1 pd_9 rfl rfl rfl rfl (by decide) (by decide) (by decide) (by decide) all0 (by decide) (own_cod l Z a0 hw n0 s u k2 ys _ S0 cpt S_C hcpt) ?_
 rintro v h1 D1 ⟨rfl, rfl, rfl⟩ hsz
 show Runs _ _ _ _ _ _ _ _ _ _ _ _ [t] h0 0 0 4 _ [(.int 0)]
 refine Runs.iloadN (g j38 2 rfl) rfl ?_
 refine Runs.icY (t := 28) (g j38 3 rfl) (by decide) (feq (by decide : ¬ ((0 : Int32) = (1 : Int32)))).2 ?_
 refine Runs.aloadN (g j38 16 rfl) rfl rfl ?_
 refine Runs.getF (g j38 17 rfl) (host := "") (Or.inl (wd hw 47 rfl)) Via.refl (S0.1.fld (i := 0) rfl) ?_
 refine Runs.iconst (v := (0 : Int32)) (g j38 18 rfl) (by decide) ?_
 refine Runs.aloadN (g j38 19 rfl) rfl rfl ?_
 refine Runs.iloadN (g j38 20 rfl) rfl ?_
 refine Runs.aloadN (g j38 21 rfl) rfl rfl ?_
 refine Runs.getF (g j38 22 rfl) (host := "") (Or.inl (wd hw 47 rfl)) Via.refl (S0.1.fld (i := 0) rfl) ?_
 refine Runs.arrlen (g j38 23 rfl) S0.2.1 ?_
 refine Runs.callSW (argsL := [(.ref u), (.int 0), (.ref t), (.int (Int32.ofNat xs.length)), (.int (Int32.ofNat ys.length))]) (rest := []) (W := 0) (g j38 24 rfl) (wd hw 502 rfl) (wd hw 485 rfl) (wd hw 34 rfl) (wd hw 486 rfl) (by decide) pd_15 rfl rfl rfl rfl (by decide) (by decide) (by decide) (by decide) (allS (mi 0 rfl) all0) (by decide) (own_lin2 l Z a0 hw n0 u t k2 k ys.length cap xs ys hut hfit hcap ⟨Nat.le_refl _, by omega⟩ S0.2.2.1 _ S0.2.1 gt S_A S_H S_L BA fm hfm S_F) ?_
 rintro v h1 D1 ⟨rfl, K1, A1, rfl⟩ hsz
 show Runs _ _ _ _ _ _ _ _ _ _ _ _ [t] h1 0 0 43 _ []
 refine Runs.weak (D1 := []) (fun _ q => nomatch q) ?_
 exact Runs.retV (g j38 25 rfl) rfl (by decide) (by decide) ⟨rfl, K1, A1, rfl⟩
theorem own_pci (hw : Wds Z a0) (n0 : Nat) (i c : Nat) (hi : i < c) (hc : c < 2147483648) (fm : Value) (hfm : fm.isRef = true) (h0 : Heap) : Con 1 l Z EL_ n0 (⟨"jdk/internal/util/Preconditions", "checkIndex", "(IILjava/util/function/BiFunction;)I"⟩ : MethodName) c70_ 3 (some .int) ⟨0, 0, 0, 0⟩ #[(.int (Int32.ofNat i)), (.int (Int32.ofNat c)), fm] [] h0 (fun v h D' => v = some (.int (Int32.ofNat i)) ∧ h0 = h ∧ D' = []) := by
 refine Con.of_runs (ls := #[vi (Int32.ofNat i), vi (Int32.ofNat c), .val fm]) (by decide +kernel) (fun m => by rcases ref_cases hfm with rfl | ⟨_, rfl⟩ <;> exact ef rfl rfl m) ?_
 refine Runs.iloadN (g j70 0 rfl) rfl ?_
 refine Runs.ifN (g j70 1 rfl) (flt (own_nn (by omega))).1 ?_
 refine Runs.iloadN (g j70 2 rfl) rfl ?_
 refine Runs.iloadN (g j70 3 rfl) rfl ?_
 refine Runs.icY (t := 16) (g j70 4 rfl) (by decide) (tlt (own_lt (a := i) (b := c) hi hc)).1 ?_
 refine Runs.iloadN (g j70 5 rfl) rfl ?_
 exact Runs.retI (z := (Int32.ofNat i)) (g j70 6 rfl) rfl (Or.inl rfl) rfl (by decide) (by decide) ⟨rfl, rfl, rfl⟩
theorem own_sci (hw : Wds Z a0) (n0 : Nat) (i c : Nat) (hi : i < c) (hc : c < 2147483648) (fm : Value) (hfm : fm.isRef = true) (S_F : SF Z fm) (h0 : Heap) : Con 1 l Z EL_ n0 (⟨S6_, "checkIndex", "(II)V"⟩ : MethodName) c69_ 2 none ⟨1, 0, 0, 14⟩ #[(.int (Int32.ofNat i)), (.int (Int32.ofNat c))] [] h0 (fun v h D' => v = none ∧ h0 = h ∧ D' = []) := by
 refine Con.of_runs (ls := #[vi (Int32.ofNat i), vi (Int32.ofNat c)]) (by decide +kernel) (ef rfl rfl) ?_
 refine Runs.iloadN (g j69 0 rfl) rfl ?_
 refine Runs.iloadN (g j69 1 rfl) rfl ?_
 refine Runs.getS (g j69 2 rfl) (wd hw 441 rfl) Via.refl S_F ?_
 refine Runs.callSW (argsL := [(.int (Int32.ofNat i)), (.int (Int32.ofNat c)), fm]) (rest := []) (W := 0) (g j69 3 rfl) (wd hw 443 rfl) (wd hw 444 rfl) (wd hw 442 rfl) (wd hw 445 rfl) (by decide) pd_16 rfl rfl rfl rfl (by decide) (by decide) (by decide) (by decide) all0 (by decide) (own_pci l Z a0 hw n0 i c hi hc fm hfm _) ?_
 rintro v h1 D1 ⟨rfl, rfl, rfl⟩ hsz
 show Runs _ _ _ _ _ _ _ _ _ _ _ _ [] h0 0 0 8 _ [(.int (Int32.ofNat i))]
 refine Runs.pop (g j69 4 rfl) rfl ?_
 exact Runs.retV (g j69 5 rfl) rfl (by decide) (by decide) ⟨rfl, rfl, rfl⟩
theorem own_sil (hw : Wds Z a0) (n0 : Nat) (b u : Addr) (k2 : ClassId) (ys : List Int32) (h0 : Heap) (S0 : Str Z h0 b u k2 ys) (cpt : Int32) (S_C : SC Z cpt) (hcpt : ¬ cpt = 0) : Con 1 l Z EL_ n0 m67_ c67_ 1 (some .boolean) ⟨0, 0, 0, 0⟩ #[(.ref b)] [] h0 (fun v h D' => v = some (.int 1) ∧ h0 = h ∧ D' = []) := by
 refine Con.of_runs (ls := #[vr b]) (by decide +kernel) (ef rfl rfl) ?_
 refine Runs.getS (g j67 0 rfl) (wd hw 31 rfl) Via.refl S_C ?_
 refine Runs.ifN (g j67 1 rfl) (feq hcpt).1 ?_
 refine Runs.aloadN (g j67 2 rfl) rfl rfl ?_
 refine Runs.getF (g j67 3 rfl) (host := "") (Or.inl (wd hw 49 rfl)) Via.refl (S0.1.fld (i := 1) rfl) ?_
 refine Runs.ifN (g j67 4 rfl) (teq (by decide : (0 : Int32) = (0 : Int32))).2 ?_
 refine Runs.iconst (v := (1 : Int32)) (g j67 5 rfl) (by decide) ?_
 refine Runs.goto (t := 18) (g j67 6 rfl) (by decide) ?_
 exact Runs.retI (z := (1 : Int32)) (g j67 8 rfl) rfl (Or.inr (Or.inl rfl)) (by decide) (by decide) (by decide) ⟨rfl, rfl, rfl⟩
theorem own_lca (hw : Wds Z a0) (n0 : Nat) (u : Addr) (k2 : ClassId) (ys : List Int32) (h0 : Heap) (U0 : Arv Z h0 u k2 .byte (Int32.ofNat ys.length) (ys.map own_b) (.int 0)) (hL : Lat ys) (hy : ys.length < 2147483648) (i : Nat) (hi : i < ys.length) (fm : Value) (hfm : fm.isRef = true) (S_F : SF Z fm) : Con 1 l Z EL_ n0 (⟨"java/lang/StringLatin1", "charAt", "([BI)C"⟩ : MethodName) c68_ 2 (some .char) ⟨2, 0, 0, 27⟩ #[(.ref u), (.int (Int32.ofNat i))] [] h0 (fun v h D' => v = some (.int (ys.getD i 0)) ∧ h0 = h ∧ D' = []) := by
 refine Con.of_runs (ls := #[vr u, vi (Int32.ofNat i)]) (by decide +kernel) (ef rfl rfl) ?_
 refine Runs.iloadN (g j68 0 rfl) rfl ?_
 refine Runs.aloadN (g j68 1 rfl) rfl rfl ?_
 refine Runs.arrlen (g j68 2 rfl) U0 ?_
 refine Runs.callSW (argsL := [(.int (Int32.ofNat i)), (.int (Int32.ofNat ys.length))]) (rest := []) (W := 0) (g j68 3 rfl) (wd hw 438 rfl) (wd hw 439 rfl) (wd hw 29 rfl) (wd hw 440 rfl) (by decide) pd_17 rfl rfl rfl rfl (by decide) (by decide) (by decide) (by decide) all0 (by decide) (own_sci l Z a0 hw n0 i ys.length hi (by omega) fm hfm S_F _) ?_
 rintro v h1 D1 ⟨rfl, rfl, rfl⟩ hsz
 show Runs _ _ _ _ _ _ _ _ _ _ _ _ [] h0 0 0 6 _ []
 refine Runs.aloadN (g j68 4 rfl) rfl rfl ?_
 refine Runs.iloadN (g j68 5 rfl) rfl ?_
 refine Runs.baload (v := .int ((Int32.toInt8 (ys.getD i 0)).toInt32)) (g j68 6 rfl) U0 ⟨own_nn (by omega), own_lt hi (by omega)⟩ (by rw [own_cl (by omega)]; exact own_gbv _ _) ?_
 refine Runs.sipush (v := (255 : Int32)) (g j68 7 rfl) (by decide) ?_
 refine Runs.iand (z := ys.getD i 0) (g j68 8 rfl) (own_b255 (own_latg hL hi)) ?_
 refine Runs.i2c (z := ys.getD i 0) (g j68 9 rfl) (own_i2c (own_latg hL hi)) ?_
 exact Runs.retI (z := (ys.getD i 0)) (g j68 10 rfl) rfl (Or.inr (Or.inr (Or.inr (Or.inl rfl)))) (congrArg Value.int (own_cc (own_255 (own_latg hL hi)))) (by decide) (by decide) ⟨rfl, rfl, rfl⟩
theorem own_cha (hw : Wds Z a0) (n0 : Nat) (b u : Addr) (k2 : ClassId) (ys : List Int32) (h0 : Heap) (S0 : Str Z h0 b u k2 ys) (i : Nat) (hi : i < ys.length) (cpt : Int32) (S_C : SC Z cpt) (hcpt : ¬ cpt = 0) (fm : Value) (hfm : fm.isRef = true) (S_F : SF Z fm) : Con 1 l Z EL_ n0 m66_ c66_ 2 (some .char) ⟨4, 0, 0, 53⟩ #[(.ref b), (.int (Int32.ofNat i))] [] h0 (fun v h D' => v = some (.int (ys.getD i 0)) ∧ h0 = h ∧ D' = []) := by
 refine Con.of_runs (ls := #[vr b, vi (Int32.ofNat i)]) (by decide +kernel) (ef rfl rfl) ?_
 refine Runs.aloadN (g j66 0 rfl) rfl rfl ?_
 refine Runs.callVW (argsL := []) (rest := []) (W := 0) (g j66 1 rfl) (wd hw 430 rfl) (wd hw 431 rfl) (fun s hZ => notFace_of_selects (args := #[]) (mvT hZ (wd hw 433 rfl))) (wd hw 433 rfl) (wd hw 432 rfl) (wd hw 434 rfl) (wd hw 29 rfl) (by decide) S0.1.1 pd_7 rfl rfl rfl rfl (by decide) (by decide) (by decide) (by decide) all0 (by decide) (own_sil l Z a0 hw n0 b u k2 ys _ S0 cpt S_C hcpt) ?_
 rintro v h1 D1 ⟨rfl, rfl, rfl⟩ hsz
 show Runs _ _ _ _ _ _ _ _ _ _ _ _ [] h0 0 0 4 _ [(.int 1)]
 refine Runs.ifN (g j66 2 rfl) (feq (by decide : ¬ ((1 : Int32) = (0 : Int32)))).1 ?_
 refine Runs.aloadN (g j66 3 rfl) rfl rfl ?_
 refine Runs.getF (g j66 4 rfl) (host := "") (Or.inl (wd hw 47 rfl)) Via.refl (S0.1.fld (i := 0) rfl) ?_
 refine Runs.iloadN (g j66 5 rfl) rfl ?_
 refine Runs.callSW (argsL := [(.ref u), (.int (Int32.ofNat i))]) (rest := []) (W := 0) (g j66 6 rfl) (wd hw 435 rfl) (wd hw 436 rfl) (wd hw 34 rfl) (wd hw 437 rfl) (by decide) pd_18 rfl rfl rfl rfl (by decide) (by decide) (by decide) (by decide) all0 (by decide) (own_lca l Z a0 hw n0 u k2 ys _ S0.2.1 S0.2.2.1 (by have := S0.2.2.2; omega) i hi fm hfm S_F) ?_
 rintro v h1 D1 ⟨rfl, rfl, rfl⟩ hsz
 show Runs _ _ _ _ _ _ _ _ _ _ _ _ [] h0 0 0 15 _ [(.int (ys.getD i 0))]
 exact Runs.retI (z := (ys.getD i 0)) (g j66 7 rfl) rfl (Or.inr (Or.inr (Or.inr (Or.inl rfl)))) (congrArg Value.int (own_cc (own_255 (own_latg S0.2.2.1 hi)))) (by decide) (by decide) ⟨rfl, rfl, rfl⟩
theorem own_ugc (hw : Wds Z a0) (n0 : Nat) (t : Addr) (k : ClassId) (cap : Nat) (xs : List Int32) (h0 : Heap) (T0 : Arv Z h0 t k .byte (Int32.ofNat (2 * cap)) (own_ws xs) (.int 0)) (i : Nat) (hi : i < xs.length) (hx : xs.length ≤ cap) (hcap : cap < 1000000) (hc : ¬ xs.getD i 0 < 0 ∧ ¬ (65535 : Int32) < xs.getD i 0) (S_A : SA Z) (S_H : SH Z) (S_L : SL Z) : Con 1 l Z EL_ n0 (⟨S17_, "getChar", "([BI)C"⟩ : MethodName) c92_ 2 (some .char) ⟨0, 0, 0, 0⟩ #[(.ref t), (.int (Int32.ofNat i))] [] h0 (fun v h D' => v = some (.int (xs.getD i 0)) ∧ h0 = h ∧ D' = []) := by
 refine Con.of_runs (ls := #[vr t, vi (Int32.ofNat i)]) (by decide +kernel) (ef rfl rfl) ?_
 refine Runs.getS (g j92 0 rfl) (wd hw 465 rfl) Via.refl S_A ?_
 refine Runs.ifY (t := 28) (g j92 1 rfl) (by decide) (feq (by decide : ¬ ((1 : Int32) = (0 : Int32)))).2 ?_
 refine Runs.iloadN (g j92 2 rfl) rfl ?_
 refine Runs.iconst (v := (1 : Int32)) (g j92 3 rfl) (by decide) ?_
 refine Runs.ishl (z := Int32.ofNat (2 * i)) (g j92 4 rfl) (own_shl1 (by omega)) ?_
 refine Runs.istoreN (ls' := #[vr t, vi (Int32.ofNat (2 * i))]) (g j92 5 rfl) rfl ?_
 refine Runs.aloadN (g j92 6 rfl) rfl rfl ?_
 refine Runs.iloadN (g j92 7 rfl) rfl ?_
 refine Runs.iinc (z := (Int32.ofNat (2 * i + 1))) (ls' := #[vr t, vi (Int32.ofNat (2 * i + 1))]) (g j92 8 rfl) rfl (own_add (b := 1) (by omega)) rfl ?_
 refine Runs.baload (v := .int (own_lo (xs.getD i 0))) (g j92 9 rfl) T0 ⟨own_nn (by omega), own_lt (by omega) (by omega)⟩ (by rw [own_cl (by omega)]; exact (own_getw xs i hi).1) ?_
 refine Runs.sipush (v := (255 : Int32)) (g j92 10 rfl) (by decide) ?_
 refine Runs.iand (z := ((own_lo (xs.getD i 0)) &&& 255)) (g j92 11 rfl) rfl ?_
 refine Runs.getS (g j92 12 rfl) (wd hw 466 rfl) Via.refl S_H ?_
 refine Runs.ishl (z := (((own_lo (xs.getD i 0)) &&& 255) <<< ((0 : Int32) &&& 31))) (g j92 13 rfl) rfl ?_
 refine Runs.aloadN (g j92 14 rfl) rfl rfl ?_
 refine Runs.iloadN (g j92 15 rfl) rfl ?_
 refine Runs.baload (v := .int (own_hi (xs.getD i 0))) (g j92 16 rfl) T0 ⟨own_nn (by omega), own_lt (by omega) (by omega)⟩ (by rw [own_cl (by omega)]; exact (own_getw xs i hi).2) ?_
 refine Runs.sipush (v := (255 : Int32)) (g j92 17 rfl) (by decide) ?_
 refine Runs.iand (z := ((own_hi (xs.getD i 0)) &&& 255)) (g j92 18 rfl) rfl ?_
 refine Runs.getS (g j92 19 rfl) (wd hw 467 rfl) Via.refl S_L ?_
 refine Runs.ishl (z := (((own_hi (xs.getD i 0)) &&& 255) <<< ((8 : Int32) &&& 31))) (g j92 20 rfl) rfl ?_
 refine Runs.ior (z := xs.getD i 0) (g j92 21 rfl) (own_wchar hc) ?_
 refine Runs.i2c (z := xs.getD i 0) (g j92 22 rfl) (own_cc hc) ?_
 exact Runs.retI (z := (xs.getD i 0)) (g j92 23 rfl) rfl (Or.inr (Or.inr (Or.inr (Or.inl rfl)))) (congrArg Value.int (own_cc hc)) (by decide) (by decide) ⟨rfl, rfl, rfl⟩
theorem own_silw (hw : Wds Z a0) (n0 : Nat) (b u : Addr) (k2 : ClassId) (ys : List Int32) (h0 : Heap) (S0 : Stw Z h0 b u k2 ys) (cpt : Int32) (S_C : SC Z cpt) (hcpt : ¬ cpt = 0) : Con 1 l Z EL_ n0 m67_ c67_ 1 (some .boolean) ⟨0, 0, 0, 0⟩ #[(.ref b)] [] h0 (fun v h D' => v = some (.int 0) ∧ h0 = h ∧ D' = []) := by
 refine Con.of_runs (ls := #[vr b]) (by decide +kernel) (ef rfl rfl) ?_
 refine Runs.getS (g j67 0 rfl) (wd hw 31 rfl) Via.refl S_C ?_
 refine Runs.ifN (g j67 1 rfl) (feq hcpt).1 ?_
 refine Runs.aloadN (g j67 2 rfl) rfl rfl ?_
 refine Runs.getF (g j67 3 rfl) (host := "") (Or.inl (wd hw 49 rfl)) Via.refl (S0.1.fld (i := 1) rfl) ?_
 refine Runs.ifY (t := 17) (g j67 4 rfl) (by decide) (feq (by decide : ¬ ((1 : Int32) = (0 : Int32)))).2 ?_
 refine Runs.iconst (v := (0 : Int32)) (g j67 7 rfl) (by decide) ?_
 exact Runs.retI (z := (0 : Int32)) (g j67 8 rfl) rfl (Or.inr (Or.inl rfl)) (by decide) (by decide) (by decide) ⟨rfl, rfl, rfl⟩
theorem own_uki (hw : Wds Z a0) (n0 : Nat) (u : Addr) (k2 : ClassId) (cap : Nat) (hcap : cap < 1000000) (vs : List Value) (h0 : Heap) (U0 : Arv Z h0 u k2 .byte (Int32.ofNat (2 * cap)) vs (.int 0)) (i : Nat) (hi : i < cap) (fm : Value) (hfm : fm.isRef = true) (S_F : SF Z fm) : Con 1 l Z EL_ n0 (⟨S17_, "checkIndex", "(I[B)V"⟩ : MethodName) c91_ 2 none ⟨2, 0, 0, 27⟩ #[(.int (Int32.ofNat i)), (.ref u)] [] h0 (fun v h D' => v = none ∧ h0 = h ∧ D' = []) := by
 refine Con.of_runs (ls := #[vi (Int32.ofNat i), vr u]) (by decide +kernel) (ef rfl rfl) ?_
 refine Runs.iloadN (g j91 0 rfl) rfl ?_
 refine Runs.aloadN (g j91 1 rfl) rfl rfl ?_
 refine Runs.callSW (argsL := [(.ref u)]) (rest := [(.int (Int32.ofNat i))]) (W := 1) (g j91 2 rfl) (wd hw 493 rfl) (wd hw 494 rfl) (wd hw 460 rfl) (wd hw 495 rfl) (by decide) pd_12 rfl rfl rfl rfl (by decide) (by decide) (by decide) (by decide) all0 (by decide) (own_ulen l Z a0 hw n0 cap hcap u k2 vs _ U0) ?_
 rintro v h1 D1 ⟨rfl, rfl, rfl⟩ hsz
 show Runs _ _ _ _ _ _ _ _ _ _ _ _ [] h0 0 0 5 _ [(.int (Int32.ofNat cap)), (.int (Int32.ofNat i))]
 refine Runs.callSW (argsL := [(.int (Int32.ofNat i)), (.int (Int32.ofNat cap))]) (rest := []) (W := 0) (g j91 3 rfl) (wd hw 532 rfl) (wd hw 439 rfl) (wd hw 29 rfl) (wd hw 440 rfl) (by decide) pd_17 rfl rfl rfl rfl (by decide) (by decide) (by decide) (by decide) all0 (by decide) (own_sci l Z a0 hw n0 i cap hi (by omega) fm hfm S_F _) ?_
 rintro v h1 D1 ⟨rfl, rfl, rfl⟩ hsz
 show Runs _ _ _ _ _ _ _ _ _ _ _ _ [] h0 0 0 8 _ []
 exact Runs.retV (g j91 4 rfl) rfl (by decide) (by decide) ⟨rfl, rfl, rfl⟩
theorem own_uca (hw : Wds Z a0) (n0 : Nat) (u : Addr) (k2 : ClassId) (ys : List Int32) (h0 : Heap) (U0 : Arv Z h0 u k2 .byte (Int32.ofNat (2 * ys.length)) (own_ws ys) (.int 0)) (hC : Chs ys) (hy : ys.length < 1000000) (i : Nat) (hi : i < ys.length) (S_A : SA Z) (S_H : SH Z) (S_L : SL Z) (fm : Value) (hfm : fm.isRef = true) (S_F : SF Z fm) : Con 1 l Z EL_ n0 (⟨S17_, "charAt", "([BI)C"⟩ : MethodName) c90_ 2 (some .char) ⟨3, 0, 0, 40⟩ #[(.ref u), (.int (Int32.ofNat i))] [] h0 (fun v h D' => v = some (.int (ys.getD i 0)) ∧ h0 = h ∧ D' = []) := by
 refine Con.of_runs (ls := #[vr u, vi (Int32.ofNat i)]) (by decide +kernel) (ef rfl rfl) ?_
 refine Runs.iloadN (g j90 0 rfl) rfl ?_
 refine Runs.aloadN (g j90 1 rfl) rfl rfl ?_
 refine Runs.callSW (argsL := [(.int (Int32.ofNat i)), (.ref u)]) (rest := []) (W := 0) (g j90 2 rfl) (wd hw 529 rfl) (wd hw 530 rfl) (wd hw 460 rfl) (wd hw 531 rfl) (by decide) pd_19 rfl rfl rfl rfl (by decide) (by decide) (by decide) (by decide) all0 (by decide) (own_uki l Z a0 hw n0 u k2 ys.length hy _ _ U0 i hi fm hfm S_F) ?_
 rintro v h1 D1 ⟨rfl, rfl, rfl⟩ hsz
 show Runs _ _ _ _ _ _ _ _ _ _ _ _ [] h0 0 0 5 _ []
 refine Runs.aloadN (g j90 3 rfl) rfl rfl ?_
 refine Runs.iloadN (g j90 4 rfl) rfl ?_
 refine Runs.callSW (argsL := [(.ref u), (.int (Int32.ofNat i))]) (rest := []) (W := 0) (g j90 5 rfl) (wd hw 533 rfl) (wd hw 534 rfl) (wd hw 460 rfl) (wd hw 535 rfl) (by decide) pd_18 rfl rfl rfl rfl (by decide) (by decide) (by decide) (by decide) all0 (by decide) (own_ugc l Z a0 hw n0 u k2 ys.length ys _ U0 i hi (Nat.le_refl _) hy (own_chg hC hi) S_A S_H S_L) ?_
 rintro v h1 D1 ⟨rfl, rfl, rfl⟩ hsz
 show Runs _ _ _ _ _ _ _ _ _ _ _ _ [] h0 0 0 10 _ [(.int (ys.getD i 0))]
 exact Runs.retI (z := (ys.getD i 0)) (g j90 6 rfl) rfl (Or.inr (Or.inr (Or.inr (Or.inl rfl)))) (congrArg Value.int (own_cc (own_chg hC hi))) (by decide) (by decide) ⟨rfl, rfl, rfl⟩
theorem own_chw (hw : Wds Z a0) (n0 : Nat) (b u : Addr) (k2 : ClassId) (ys : List Int32) (h0 : Heap) (S0 : Stw Z h0 b u k2 ys) (i : Nat) (hi : i < ys.length) (cpt : Int32) (S_C : SC Z cpt) (hcpt : ¬ cpt = 0) (S_A : SA Z) (S_H : SH Z) (S_L : SL Z) (fm : Value) (hfm : fm.isRef = true) (S_F : SF Z fm) : Con 1 l Z EL_ n0 m66_ c66_ 2 (some .char) ⟨4, 0, 0, 53⟩ #[(.ref b), (.int (Int32.ofNat i))] [] h0 (fun v h D' => v = some (.int (ys.getD i 0)) ∧ h0 = h ∧ D' = []) := by
 refine Con.of_runs (ls := #[vr b, vi (Int32.ofNat i)]) (by decide +kernel) (ef rfl rfl) ?_
 refine Runs.aloadN (g j66 0 rfl) rfl rfl ?_
 refine Runs.callVW (argsL := []) (rest := []) (W := 0) (g j66 1 rfl) (wd hw 430 rfl) (wd hw 431 rfl) (fun s hZ => notFace_of_selects (args := #[]) (mvT hZ (wd hw 433 rfl))) (wd hw 433 rfl) (wd hw 432 rfl) (wd hw 434 rfl) (wd hw 29 rfl) (by decide) S0.1.1 pd_7 rfl rfl rfl rfl (by decide) (by decide) (by decide) (by decide) all0 (by decide) (own_silw l Z a0 hw n0 b u k2 ys _ S0 cpt S_C hcpt) ?_
 rintro v h1 D1 ⟨rfl, rfl, rfl⟩ hsz
 show Runs _ _ _ _ _ _ _ _ _ _ _ _ [] h0 0 0 4 _ [(.int 0)]
 refine Runs.ifY (t := 16) (g j66 2 rfl) (by decide) (teq (by decide : (0 : Int32) = (0 : Int32))).1 ?_
 refine Runs.aloadN (g j66 8 rfl) rfl rfl ?_
 refine Runs.getF (g j66 9 rfl) (host := "") (Or.inl (wd hw 47 rfl)) Via.refl (S0.1.fld (i := 0) rfl) ?_
 refine Runs.iloadN (g j66 10 rfl) rfl ?_
 refine Runs.callSW (argsL := [(.ref u), (.int (Int32.ofNat i))]) (rest := []) (W := 0) (g j66 11 rfl) (wd hw 526 rfl) (wd hw 527 rfl) (wd hw 460 rfl) (wd hw 528 rfl) (by decide) pd_18 rfl rfl rfl rfl (by decide) (by decide) (by decide) (by decide) all0 (by decide) (own_uca l Z a0 hw n0 u k2 ys _ S0.2.1 S0.2.2.1 S0.2.2.2 i hi S_A S_H S_L fm hfm S_F) ?_
 rintro v h1 D1 ⟨rfl, rfl, rfl⟩ hsz
 show Runs _ _ _ _ _ _ _ _ _ _ _ _ [] h0 0 0 24 _ [(.int (ys.getD i 0))]
 exact Runs.retI (z := (ys.getD i 0)) (g j66 12 rfl) rfl (Or.inr (Or.inr (Or.inr (Or.inl rfl)))) (congrArg Value.int (own_cc (own_chg S0.2.2.1 hi))) (by decide) (by decide) ⟨rfl, rfl, rfl⟩
theorem own_chx (hw : Wds Z a0) (n0 : Nat) (b u : Addr) (k2 : ClassId) (ys : List Int32) (h0 : Heap) (S0 : Sy Z h0 b u k2 ys) (i : Nat) (hi : i < ys.length) (cpt : Int32) (S_C : SC Z cpt) (hcpt : ¬ cpt = 0) (S_A : SA Z) (S_H : SH Z) (S_L : SL Z) (fm : Value) (hfm : fm.isRef = true) (S_F : SF Z fm) : Con 1 l Z EL_ n0 m66_ c66_ 2 (some .char) ⟨4, 0, 0, 53⟩ #[(.ref b), (.int (Int32.ofNat i))] [] h0 (fun v h D' => v = some (.int (ys.getD i 0)) ∧ h0 = h ∧ D' = []) := by
 rcases S0 with S0 | S0
 · exact own_cha l Z a0 hw n0 b u k2 ys h0 S0 i hi cpt S_C hcpt fm hfm S_F
 · exact own_chw l Z a0 hw n0 b u k2 ys h0 S0 i hi cpt S_C hcpt S_A S_H S_L fm hfm S_F
theorem own_bil (hw : Wds Z a0) (n0 : Nat) (a t : Addr) (k : ClassId) (cap : Nat) (xs : List Int32) (h0 : Heap) (B0 : SBd Z h0 a t k cap xs) (cpt : Int32) (S_C : SC Z cpt) (hcpt : ¬ cpt = 0) : Con 1 l Z EL_ n0 m51_ c51_ 1 (some .boolean) ⟨0, 0, 0, 0⟩ #[(.ref a)] [] h0 (fun v h D' => v = some (.int 1) ∧ h0 = h ∧ D' = []) := by
 refine Con.of_runs (ls := #[vr a]) (by decide +kernel) (ef rfl rfl) ?_
 obtain ⟨BO, BA, BE, BL, hle, hcap⟩ := id B0
 refine Runs.getS (g j51 0 rfl) (wd hw 208 rfl) Via.refl S_C ?_
 refine Runs.ifN (g j51 1 rfl) (feq hcpt).1 ?_
 refine Runs.aloadN (g j51 2 rfl) rfl rfl ?_
 refine Runs.getF (g j51 3 rfl) (host := "") (Or.inl (wd hw 211 rfl)) Via.refl (BO.fld (i := 1) rfl) ?_
 refine Runs.ifN (g j51 4 rfl) (teq (by decide : (0 : Int32) = (0 : Int32))).2 ?_
 refine Runs.iconst (v := (1 : Int32)) (g j51 5 rfl) (by decide) ?_
 refine Runs.goto (t := 18) (g j51 6 rfl) (by decide) ?_
 exact Runs.retI (z := (1 : Int32)) (g j51 8 rfl) rfl (Or.inr (Or.inl rfl)) rfl (by decide) (by decide) ⟨rfl, rfl, rfl⟩
theorem own_pcs (hw : Wds Z a0) (n0 : Nat) (t : Addr) (k : ClassId) (cap : Nat) (xs : List Int32) (h0 : Heap) (T0 : Arv Z h0 t k .byte (Int32.ofNat (2 * cap)) (own_ws xs) (.int 0)) (c : Int32) (hx : xs.length < cap) (hcap : cap < 1000000) (gt : n0 ≤ t) (S_A : SA Z) (S_H : SH Z) (S_L : SL Z) (fm : Value) (hfm : fm.isRef = true) (S_F : SF Z fm) : Con 1 l Z EL_ n0 (⟨S17_, "putCharSB", "([BII)V"⟩ : MethodName) c94_ 3 none ⟨3, 0, 0, 40⟩ #[(.ref t), (.int (Int32.ofNat xs.length)), (.int c)] [t] h0 (fun v h D' => v = none ∧ Keep h0 h [t] ∧ Arv Z h t k .byte (Int32.ofNat (2 * cap)) (own_ws (xs ++ [c])) (.int 0) ∧ D' = []) := by
 refine Con.of_runs (ls := #[vr t, vi (Int32.ofNat xs.length), vi c]) (by decide +kernel) (ef rfl rfl) ?_
 refine Runs.iloadN (g j94 0 rfl) rfl ?_
 refine Runs.aloadN (g j94 1 rfl) rfl rfl ?_
 refine Runs.callSW (argsL := [(.int (Int32.ofNat xs.length)), (.ref t)]) (rest := []) (W := 0) (g j94 2 rfl) (wd hw 529 rfl) (wd hw 530 rfl) (wd hw 460 rfl) (wd hw 531 rfl) (by decide) pd_19 rfl rfl rfl rfl (by decide) (by decide) (by decide) (by decide) all0 (by decide) (own_uki l Z a0 hw n0 t k cap hcap _ _ T0 xs.length hx fm hfm S_F) ?_
 rintro v h1 D1 ⟨rfl, rfl, rfl⟩ hsz
 show Runs _ _ _ _ _ _ _ _ _ _ _ _ [t] h0 0 0 5 _ []
 refine Runs.aloadN (g j94 3 rfl) rfl rfl ?_
 refine Runs.iloadN (g j94 4 rfl) rfl ?_
 refine Runs.iloadN (g j94 5 rfl) rfl ?_
 refine Runs.callSW (argsL := [(.ref t), (.int (Int32.ofNat xs.length)), (.int c)]) (rest := []) (W := 0) (g j94 6 rfl) (wd hw 462 rfl) (wd hw 463 rfl) (wd hw 460 rfl) (wd hw 464 rfl) (by decide) pd_0 rfl rfl rfl rfl (by decide) (by decide) (by decide) (by decide) (allS (mi 0 rfl) all0) (by decide) (own_upc l Z a0 hw n0 t k cap xs _ T0 c hx hcap gt S_A S_H S_L) ?_
 rintro v h1 D1 ⟨rfl, K1, A1, rfl⟩ hsz
 show Runs _ _ _ _ _ _ _ _ _ _ _ _ [t] h1 0 0 11 _ []
 refine Runs.weak (D1 := []) (fun _ q => nomatch q) ?_
 exact Runs.retV (g j94 7 rfl) rfl (by decide) (by decide) ⟨rfl, K1, A1, rfl⟩
theorem own_ac0 (hw : Wds Z a0) (n0 : Nat) (a t : Addr) (k : ClassId) (cap : Nat) (xs : List Int32) (h0 : Heap) (B0 : SBd Z h0 a t k cap xs) (c : Int32) (hc : ¬ c < 0 ∧ ¬ (255 : Int32) < c) (hfit : xs.length < cap) (m0 : Nat) (hm : n0 ≤ m0 ∧ m0 ≤ h0.size) (ma : m0 ≤ a) (mt : m0 ≤ t) (cpt : Int32) (S_C : SC Z cpt) (hcpt : ¬ cpt = 0) (S_A : SA Z) (S_H : SH Z) (S_L : SL Z) (fm : Value) (hfm : fm.isRef = true) (S_F : SF Z fm) : Con 1 l Z EL_ n0 m50_ c50_ 2 (some (.object S2_)) ⟨4, 0, 0, 54⟩ #[(.ref a), (.int c)] [t] h0 (fun v h D' => v = some (.ref a) ∧ ∃ t' k', m0 ≤ t' ∧ Keep h0 h [a, t] ∧ SBx Z h a t' k' cap (xs ++ [c]) ∧ D' = [t']) := by
 refine Con.of_runs (ls := #[vr a, vi c]) (by decide +kernel) (ef rfl rfl) ?_
 obtain ⟨BO, BA, BE, BL, hle, hcap⟩ := id B0
 have hat : a ≠ t := Exa.neArv BO.1 BA (wd hw 196 rfl)
 refine Runs.aloadN (g j50 0 rfl) rfl rfl ?_
 refine Runs.aloadN (g j50 1 rfl) rfl rfl ?_
 refine Runs.getF (g j50 2 rfl) (host := "") (Or.inl (wd hw 236 rfl)) Via.refl (BO.fld (i := 2) rfl) ?_
 refine Runs.iconst (v := (1 : Int32)) (g j50 3 rfl) (by decide) ?_
 refine Runs.iadd (z := (Int32.ofNat (xs.length + 1))) (g j50 4 rfl) (own_add (a := xs.length) (b := 1) (by omega)) ?_
 refine Runs.callVW (argsL := [(.int (Int32.ofNat (xs.length + 1)))]) (rest := []) (W := 0) (g j50 5 rfl) (wd hw 238 rfl) (declares_of (wd hw 239 rfl) (wd hw 242 rfl)) (fun s hZ => notFace_of_selects (args := #[]) (mvT hZ (wd hw 241 rfl))) (wd hw 241 rfl) (wd hw 239 rfl) (wd hw 242 rfl) (wd hw 205 rfl) (by decide) BO.1 pd_8 rfl rfl rfl rfl (by decide) (by decide) (by decide) (by decide) all0 (by decide) (own_ecf l Z a0 hw n0 a t k cap xs _ B0 (xs.length + 1) (by omega)) ?_
 rintro v h1 D1 ⟨rfl, rfl, rfl⟩ hsz
 show Runs _ _ _ _ _ _ _ _ _ _ _ _ [t] h0 0 0 10 _ []
 refine Runs.aloadN (g j50 6 rfl) rfl rfl ?_
 refine Runs.callVW (argsL := []) (rest := []) (W := 0) (g j50 7 rfl) (wd hw 339 rfl) (wd hw 340 rfl) (fun s hZ => notFace_of_selects (args := #[]) (mvT hZ (wd hw 342 rfl))) (wd hw 342 rfl) (wd hw 341 rfl) (wd hw 343 rfl) (wd hw 205 rfl) (by decide) BO.1 pd_7 rfl rfl rfl rfl (by decide) (by decide) (by decide) (by decide) all0 (by decide) (own_bil l Z a0 hw n0 a t k cap xs _ B0 cpt S_C hcpt) ?_
 rintro v h1 D1 ⟨rfl, rfl, rfl⟩ hsz
 show Runs _ _ _ _ _ _ _ _ _ _ _ _ [t] h0 0 0 14 _ [(.int 1)]
 refine Runs.ifN (g j50 8 rfl) (feq (by decide : ¬ ((1 : Int32) = (0 : Int32)))).1 ?_
 refine Runs.iloadN (g j50 9 rfl) rfl ?_
 refine Runs.callSW (argsL := [(.int c)]) (rest := []) (W := 0) (g j50 10 rfl) (wd hw 344 rfl) (wd hw 33 rfl) (wd hw 34 rfl) (wd hw 35 rfl) (by decide) pd_1 rfl rfl rfl rfl (by decide) (by decide) (by decide) (by decide) all0 (by decide) (own_can l Z a0 hw n0 c _ hc.2) ?_
 rintro v h1 D1 ⟨rfl, rfl, rfl⟩ hsz
 show Runs _ _ _ _ _ _ _ _ _ _ _ _ [t] h0 0 0 21 _ [(.int 1)]
 refine Runs.ifN (g j50 11 rfl) (feq (by decide : ¬ ((1 : Int32) = (0 : Int32)))).1 ?_
 refine Runs.aloadN (g j50 12 rfl) rfl rfl ?_
 refine Runs.getF (g j50 13 rfl) (host := "") (Or.inl (wd hw 209 rfl)) Via.refl (BO.fld (i := 0) rfl) ?_
 refine Runs.aloadN (g j50 14 rfl) rfl rfl ?_
 refine Runs.dup (g j50 15 rfl) rfl ?_
 refine Runs.getF (g j50 16 rfl) (host := "") (Or.inl (wd hw 236 rfl)) Via.refl (BO.fld (i := 2) rfl) ?_
 refine Runs.dupX1 (g j50 17 rfl) rfl rfl ?_
 refine Runs.iconst (v := (1 : Int32)) (g j50 18 rfl) (by decide) ?_
 refine Runs.iadd (z := (Int32.ofNat (xs.length + 1))) (g j50 19 rfl) (own_add (a := xs.length) (b := 1) (by omega)) ?_
 refine Runs.putF (i := 2) (ty := .int) (g j50 20 rfl) (host := "") (Or.inl (wd hw 236 rfl)) Via.refl BO rfl (lay_2 hw) rfl (Or.inl (wd hw 237 rfl)) (wd hw 196 rfl) (by decide) rfl rfl (Nat.le_trans hm.1 ma) (Or.inr ⟨by decide, by decide⟩) ?_
 intro h_1 K_2 (O_3 : Obj Z h_1 a S10_ [(S2_, "value", "[B", (.ref t)), (S2_, "coder", "B", (.int 0)), (S2_, "count", "I", (.int (Int32.ofNat (xs.length + 1)))), (S2_, S21_, "Z", (.int 0))])
 refine Runs.iloadN (g j50 21 rfl) rfl ?_
 refine Runs.i2b (z := (own_8 c)) (g j50 22 rfl) rfl ?_
 have A_4 := (BA.keep K_2 (ninS (Ne.symm hat) nin0))
 have A8 : Arv Z h_1 t k .byte (Int32.ofNat cap) ((xs.map own_8).map Value.int) (.int 0) := by rw [← own_map8]; exact A_4
 refine own_bapp (y := own_8 c) (L := xs.map own_8) (c := cap) (j := xs.length) (g j50 23 rfl) A8 (by rw [List.length_map]) (by rw [List.length_map]; exact hfit) (by omega) (own_88 c) (Nat.le_trans hm.1 mt) (mi 0 rfl) ?_
 intro h9 K9 A9
 have A10 : Arv Z h9 t k .byte (Int32.ofNat cap) ((xs ++ [c]).map own_b) (.int 0) := by rw [own_map8, List.map_append]; exact A9
 refine Runs.goto (t := 75) (g j50 24 rfl) (by decide) ?_
 refine Runs.aloadN (g j50 39 rfl) rfl rfl ?_
 have O_5 := (O_3.keep K9 (ninS hat nin0))
 exact Runs.retA (g j50 40 rfl) rfl rfl rfl (by decide) (by decide) ⟨rfl, t, k, mt, (((Keep.refl _ _).trans K_2 (allS (Or.inl (mi 0 rfl)) all0)).trans K9 (allS (Or.inl (mi 1 rfl)) all0)), Or.inl ⟨by rw [List.length_append]; exact O_5, A10, ((BE.keep K_2).keep K9), own_lat_app BL (own_oneL hc), by rw [List.length_append]; exact hfit, hcap⟩, rfl⟩
theorem own_ac1 (hw : Wds Z a0) (n0 : Nat) (a t : Addr) (k : ClassId) (cap : Nat) (xs : List Int32) (h0 : Heap) (B0 : SBw Z h0 a t k cap xs) (c : Int32) (hc : ¬ c < 0 ∧ ¬ (255 : Int32) < c) (hfit : xs.length < cap) (m0 : Nat) (hm : n0 ≤ m0 ∧ m0 ≤ h0.size) (ma : m0 ≤ a) (mt : m0 ≤ t) (cpt : Int32) (S_C : SC Z cpt) (hcpt : ¬ cpt = 0) (S_A : SA Z) (S_H : SH Z) (S_L : SL Z) (fm : Value) (hfm : fm.isRef = true) (S_F : SF Z fm) : Con 1 l Z EL_ n0 m50_ c50_ 2 (some (.object S2_)) ⟨4, 0, 0, 54⟩ #[(.ref a), (.int c)] [t] h0 (fun v h D' => v = some (.ref a) ∧ ∃ t' k', m0 ≤ t' ∧ Keep h0 h [a, t] ∧ SBx Z h a t' k' cap (xs ++ [c]) ∧ D' = [t']) := by
 refine Con.of_runs (ls := #[vr a, vi c]) (by decide +kernel) (ef rfl rfl) ?_
 obtain ⟨BO, BA, BE, BL, hle, hcap⟩ := id B0
 have hat : a ≠ t := Exa.neArv BO.1 BA (wd hw 196 rfl)
 refine Runs.aloadN (g j50 0 rfl) rfl rfl ?_
 refine Runs.aloadN (g j50 1 rfl) rfl rfl ?_
 refine Runs.getF (g j50 2 rfl) (host := "") (Or.inl (wd hw 236 rfl)) Via.refl (BO.fld (i := 2) rfl) ?_
 refine Runs.iconst (v := (1 : Int32)) (g j50 3 rfl) (by decide) ?_
 refine Runs.iadd (z := (Int32.ofNat (xs.length + 1))) (g j50 4 rfl) (own_add (a := xs.length) (b := 1) (by omega)) ?_
 refine Runs.callVW (argsL := [(.int (Int32.ofNat (xs.length + 1)))]) (rest := []) (W := 0) (g j50 5 rfl) (wd hw 238 rfl) (declares_of (wd hw 239 rfl) (wd hw 242 rfl)) (fun s hZ => notFace_of_selects (args := #[]) (mvT hZ (wd hw 241 rfl))) (wd hw 241 rfl) (wd hw 239 rfl) (wd hw 242 rfl) (wd hw 205 rfl) (by decide) BO.1 pd_8 rfl rfl rfl rfl (by decide) (by decide) (by decide) (by decide) all0 (by decide) (own_ecfw l Z a0 hw n0 a t k cap xs _ B0 (xs.length + 1) (by omega)) ?_
 rintro v h1 D1 ⟨rfl, rfl, rfl⟩ hsz
 show Runs _ _ _ _ _ _ _ _ _ _ _ _ [t] h0 0 0 10 _ []
 refine Runs.aloadN (g j50 6 rfl) rfl rfl ?_
 refine Runs.callVW (argsL := []) (rest := []) (W := 0) (g j50 7 rfl) (wd hw 339 rfl) (wd hw 340 rfl) (fun s hZ => notFace_of_selects (args := #[]) (mvT hZ (wd hw 342 rfl))) (wd hw 342 rfl) (wd hw 341 rfl) (wd hw 343 rfl) (wd hw 205 rfl) (by decide) BO.1 pd_7 rfl rfl rfl rfl (by decide) (by decide) (by decide) (by decide) all0 (by decide) (own_bil1 l Z a0 hw n0 a t k cap xs _ B0 cpt S_C hcpt) ?_
 rintro v h1 D1 ⟨rfl, rfl, rfl⟩ hsz
 show Runs _ _ _ _ _ _ _ _ _ _ _ _ [t] h0 0 0 14 _ [(.int 0)]
 refine Runs.ifY (t := 45) (g j50 8 rfl) (by decide) (teq (by decide : (0 : Int32) = (0 : Int32))).1 ?_
 refine Runs.aloadN (g j50 25 rfl) rfl rfl ?_
 refine Runs.callVW (argsL := []) (rest := []) (W := 0) (g j50 26 rfl) (wd hw 339 rfl) (wd hw 340 rfl) (fun s hZ => notFace_of_selects (args := #[]) (mvT hZ (wd hw 342 rfl))) (wd hw 342 rfl) (wd hw 341 rfl) (wd hw 343 rfl) (wd hw 205 rfl) (by decide) BO.1 pd_7 rfl rfl rfl rfl (by decide) (by decide) (by decide) (by decide) all0 (by decide) (own_bil1 l Z a0 hw n0 a t k cap xs _ B0 cpt S_C hcpt) ?_
 rintro v h1 D1 ⟨rfl, rfl, rfl⟩ hsz
 show Runs _ _ _ _ _ _ _ _ _ _ _ _ [t] h0 0 0 49 _ [(.int 0)]
 refine Runs.ifY (t := 56) (g j50 27 rfl) (by decide) (teq (by decide : (0 : Int32) = (0 : Int32))).1 ?_
 refine Runs.aloadN (g j50 28 rfl) rfl rfl ?_
 refine Runs.getF (g j50 29 rfl) (host := "") (Or.inl (wd hw 209 rfl)) Via.refl (BO.fld (i := 0) rfl) ?_
 refine Runs.aloadN (g j50 30 rfl) rfl rfl ?_
 refine Runs.dup (g j50 31 rfl) rfl ?_
 refine Runs.getF (g j50 32 rfl) (host := "") (Or.inl (wd hw 236 rfl)) Via.refl (BO.fld (i := 2) rfl) ?_
 refine Runs.dupX1 (g j50 33 rfl) rfl rfl ?_
 refine Runs.iconst (v := (1 : Int32)) (g j50 34 rfl) (by decide) ?_
 refine Runs.iadd (z := (Int32.ofNat (xs.length + 1))) (g j50 35 rfl) (own_add (a := xs.length) (b := 1) (by omega)) ?_
 refine Runs.putF (i := 2) (ty := .int) (g j50 36 rfl) (host := "") (Or.inl (wd hw 236 rfl)) Via.refl BO rfl (lay_2 hw) rfl (Or.inl (wd hw 237 rfl)) (wd hw 196 rfl) (by decide) rfl rfl (Nat.le_trans hm.1 ma) (Or.inr ⟨by decide, by decide⟩) ?_
 intro h_1 K_2 (O_3 : Obj Z h_1 a S10_ [(S2_, "value", "[B", (.ref t)), (S2_, "coder", "B", (.int 1)), (S2_, "count", "I", (.int (Int32.ofNat (xs.length + 1)))), (S2_, S21_, "Z", (.int 0))])
 refine Runs.iloadN (g j50 37 rfl) rfl ?_
 have A_4 := (BA.keep K_2 (ninS (Ne.symm hat) nin0))
 refine Runs.callSW (argsL := [(.ref t), (.int (Int32.ofNat xs.length)), (.int c)]) (rest := []) (W := 0) (g j50 38 rfl) (wd hw 539 rfl) (wd hw 540 rfl) (wd hw 460 rfl) (wd hw 541 rfl) (by decide) pd_0 rfl rfl rfl rfl (by decide) (by decide) (by decide) (by decide) (allS (mi 0 rfl) all0) (by decide) (own_pcs l Z a0 hw n0 t k cap xs _ A_4 c hfit hcap (Nat.le_trans hm.1 mt) S_A S_H S_L fm hfm S_F) ?_
 rintro v h9 D1 ⟨rfl, K9, A9, rfl⟩ hsz
 show Runs _ _ _ _ _ _ _ _ _ _ _ _ [t] h9 0 0 75 _ []
 refine Runs.aloadN (g j50 39 rfl) rfl rfl ?_
 have O_5 := (O_3.keep K9 (ninS hat nin0))
 exact Runs.retA (g j50 40 rfl) rfl rfl rfl (by decide) (by decide) ⟨rfl, t, k, mt, (((Keep.refl _ _).trans K_2 (allS (Or.inl (mi 0 rfl)) all0)).trans K9 (allS (Or.inl (mi 1 rfl)) all0)), Or.inr ⟨by rw [List.length_append]; exact O_5, A9, ((BE.keep K_2).keep K9), own_cha_app BL (own_one (own_255 hc)), by rw [List.length_append]; exact hfit, hcap⟩, rfl⟩
theorem own_ac (hw : Wds Z a0) (n0 : Nat) (a t : Addr) (k : ClassId) (cap : Nat) (xs : List Int32) (h0 : Heap) (B0 : SBx Z h0 a t k cap xs) (c : Int32) (hc : ¬ c < 0 ∧ ¬ (255 : Int32) < c) (hfit : xs.length < cap) (m0 : Nat) (hm : n0 ≤ m0 ∧ m0 ≤ h0.size) (ma : m0 ≤ a) (mt : m0 ≤ t) (cpt : Int32) (S_C : SC Z cpt) (hcpt : ¬ cpt = 0) (S_A : SA Z) (S_H : SH Z) (S_L : SL Z) (fm : Value) (hfm : fm.isRef = true) (S_F : SF Z fm) : Con 1 l Z EL_ n0 m50_ c50_ 2 (some (.object S2_)) ⟨4, 0, 0, 54⟩ #[(.ref a), (.int c)] [t] h0 (fun v h D' => v = some (.ref a) ∧ ∃ t' k', m0 ≤ t' ∧ Keep h0 h [a, t] ∧ SBx Z h a t' k' cap (xs ++ [c]) ∧ D' = [t']) := by
 rcases B0 with B0 | B0
 · exact own_ac0 l Z a0 hw n0 a t k cap xs h0 B0 c hc hfit m0 hm ma mt cpt S_C hcpt S_A S_H S_L fm hfm S_F
 · exact own_ac1 l Z a0 hw n0 a t k cap xs h0 B0 c hc hfit m0 hm ma mt cpt S_C hcpt S_A S_H S_L fm hfm S_F
theorem own_sc (hw : Wds Z a0) (n0 : Nat) (a t : Addr) (k : ClassId) (cap : Nat) (xs : List Int32) (h0 : Heap) (B0 : SBx Z h0 a t k cap xs) (c : Int32) (hc : ¬ c < 0 ∧ ¬ (255 : Int32) < c) (hfit : xs.length < cap) (m0 : Nat) (hm : n0 ≤ m0 ∧ m0 ≤ h0.size) (ma : m0 ≤ a) (mt : m0 ≤ t) (cpt : Int32) (S_C : SC Z cpt) (hcpt : ¬ cpt = 0) (S_A : SA Z) (S_H : SH Z) (S_L : SL Z) (fm : Value) (hfm : fm.isRef = true) (S_F : SF Z fm) : Con 1 l Z EL_ n0 (⟨S10_, "append", "(C)Ljava/lang/StringBuilder;"⟩ : MethodName) c49_ 2 (some (.object S10_)) ⟨5, 0, 0, 67⟩ #[(.ref a), (.int c)] [t] h0 (fun v h D' => v = some (.ref a) ∧ ∃ t' k', m0 ≤ t' ∧ Keep h0 h [a, t] ∧ SBx Z h a t' k' cap (xs ++ [c]) ∧ D' = [t']) := by
 refine Con.of_runs (ls := #[vr a, vi c]) (by decide +kernel) (ef rfl rfl) ?_
 have BO : Exa Z h0 a S10_ := B0.elim (fun q => q.1.1) (fun q => q.1.1)
 refine Runs.aloadN (g j49 0 rfl) rfl rfl ?_
 refine Runs.iloadN (g j49 1 rfl) rfl ?_
 refine Runs.callUW (argsL := [(.int c)]) (rest := []) (W := 0) (g j49 2 rfl) (wd hw 335 rfl) (same_of (wd hw 337 rfl) (nf_same (notFace_of_selects (wd hw 241 rfl)) (wd hw 239 rfl) rfl) (by decide)) (wd hw 336 rfl) (wd hw 223 rfl) (wd hw 338 rfl) (wd hw 205 rfl) (by decide) BO pd_20 rfl rfl rfl rfl (by decide) (by decide) (by decide) (by decide) (allS (mi 0 rfl) all0) (by decide) (own_ac l Z a0 hw n0 a t k cap xs _ B0 c hc hfit m0 hm ma mt cpt S_C hcpt S_A S_H S_L fm hfm S_F) ?_
 rintro v h1 D1 ⟨rfl, t1, k1, g1, K1, B1, rfl⟩ hsz
 show Runs _ _ _ _ _ _ _ _ _ _ _ _ [t1, t] h1 0 0 5 _ [(.ref a)]
 refine Runs.pop (g j49 3 rfl) rfl ?_
 refine Runs.aloadN (g j49 4 rfl) rfl rfl ?_
 refine Runs.weak (D1 := [t1]) (by simp) ?_
 exact Runs.retA (g j49 5 rfl) rfl rfl rfl (by decide) (by decide) ⟨rfl, t1, k1, g1, K1, B1, rfl⟩
theorem own_sts (hw : Wds Z a0) (n0 : Nat) (s : Addr) (h0 : Heap) : Con 1 l Z EL_ n0 (⟨S6_, "toString", "()Ljava/lang/String;"⟩ : MethodName) c54_ 1 (some (.object S6_)) ⟨0, 0, 0, 0⟩ #[(.ref s)] [] h0 (fun v h D' => v = some (.ref s) ∧ h0 = h ∧ D' = []) := by
 refine Con.of_runs (ls := #[vr s]) (by decide +kernel) (ef rfl rfl) ?_
 refine Runs.aloadN (g j54 0 rfl) rfl rfl ?_
 exact Runs.retA (g j54 1 rfl) rfl rfl rfl (by decide) (by decide) ⟨rfl, rfl, rfl⟩
theorem own_vos (hw : Wds Z a0) (n0 : Nat) (t s u : Addr) (k2 : ClassId) (ys : List Int32) (h0 : Heap) (S0 : Sy Z h0 s u k2 ys) (hut : u ≠ t) : Con 1 l Z EL_ n0 m43_ c43_ 1 (some (.object S6_)) ⟨1, 0, 0, 12⟩ #[(.ref s)] [t] h0 (fun v h D' => ∃ b u' k', v = some (.ref b) ∧ u' ≠ t ∧ Keep h0 h [] ∧ Sy Z h b u' k' ys ∧ D' = []) := by
 refine Con.of_runs (ls := #[vr s]) (by decide +kernel) (ef rfl rfl) ?_
 refine Runs.aloadN (g j43 0 rfl) rfl rfl ?_
 refine Runs.nnullY (t := 10) (g j43 1 rfl) (by decide) ?_
 refine Runs.aloadN (g j43 2 rfl) rfl rfl ?_
 refine Runs.callVW (argsL := []) (rest := []) (W := 0) (g j43 3 rfl) (wd hw 285 rfl) (wd hw 286 rfl) (fun s hZ => RoadKit.nf_top (args := #[]) (mvT hZ (wd hw 106 rfl))) (wd hw 363 rfl) (wd hw 364 rfl) (wd hw 365 rfl) (wd hw 29 rfl) (by decide) (own_sxa S0).1 pd_21 rfl rfl rfl rfl (by decide) (by decide) (by decide) (by decide) all0 (by decide) (own_sts l Z a0 hw n0 s _) ?_
 rintro v h1 D1 ⟨rfl, rfl, rfl⟩ hsz
 show Runs _ _ _ _ _ _ _ _ _ _ _ _ [t] h0 0 0 14 _ [(.ref s)]
 refine Runs.weak (D1 := []) (fun _ q => nomatch q) ?_
 exact Runs.retA (g j43 4 rfl) rfl rfl rfl (by decide) (by decide) ⟨s, u, k2, rfl, hut, Keep.refl _ _, S0, rfl⟩
theorem own_len (hw : Wds Z a0) (n0 : Nat) (b u : Addr) (k2 : ClassId) (ys : List Int32) (h0 : Heap) (S0 : Str Z h0 b u k2 ys) (cpt : Int32) (S_C : SC Z cpt) (hcpt : ¬ cpt = 0) : Con 1 l Z EL_ n0 m33_ c33_ 1 (some .int) ⟨1, 0, 0, 13⟩ #[(.ref b)] [] h0 (fun v h D' => v = some (.int (Int32.ofNat ys.length)) ∧ h0 = h ∧ D' = []) := by
 refine Con.of_runs (ls := #[vr b]) (by decide +kernel) (ef rfl rfl) ?_
 refine Runs.aloadN (g j33 0 rfl) rfl rfl ?_
 refine Runs.getF (g j33 1 rfl) (host := "") (Or.inl (wd hw 47 rfl)) Via.refl (S0.1.fld (i := 0) rfl) ?_
 refine Runs.arrlen (g j33 2 rfl) S0.2.1 ?_
 refine Runs.aloadN (g j33 3 rfl) rfl rfl ?_
 refine Runs.callVW (argsL := []) (rest := [(.int (Int32.ofNat ys.length))]) (W := 1) (g j33 4 rfl) (wd hw 231 rfl) (wd hw 232 rfl) (fun s hZ => notFace_of_selects (args := #[]) (mvT hZ (wd hw 234 rfl))) (wd hw 234 rfl) (wd hw 233 rfl) (wd hw 235 rfl) (wd hw 29 rfl) (by decide) S0.1.1 pd_9 rfl rfl rfl rfl (by decide) (by decide) (by decide) (by decide) all0 (by decide) (own_cod l Z a0 hw n0 b u k2 ys _ S0 cpt S_C hcpt) ?_
 rintro v h1 D1 ⟨rfl, rfl, rfl⟩ hsz
 show Runs _ _ _ _ _ _ _ _ _ _ _ _ [] h0 0 0 9 _ [(.int 0), (.int (Int32.ofNat ys.length))]
 refine Runs.ishr (z := (Int32.ofNat ys.length)) (g j33 5 rfl) (own_shr0 _) ?_
 exact Runs.retI (z := (Int32.ofNat ys.length)) (g j33 6 rfl) rfl (Or.inl rfl) rfl (by decide) (by decide) ⟨rfl, rfl, rfl⟩
theorem own_lenw (hw : Wds Z a0) (n0 : Nat) (s u : Addr) (k2 : ClassId) (ys : List Int32) (h0 : Heap) (S0 : Stw Z h0 s u k2 ys) (cpt : Int32) (S_C : SC Z cpt) (hcpt : ¬ cpt = 0) : Con 1 l Z EL_ n0 m33_ c33_ 1 (some .int) ⟨1, 0, 0, 13⟩ #[(.ref s)] [] h0 (fun v h D' => v = some (.int (Int32.ofNat ys.length)) ∧ h0 = h ∧ D' = []) := by
 refine Con.of_runs (ls := #[vr s]) (by decide +kernel) (ef rfl rfl) ?_
 have hys := S0.2.2.2
 refine Runs.aloadN (g j33 0 rfl) rfl rfl ?_
 refine Runs.getF (g j33 1 rfl) (host := "") (Or.inl (wd hw 47 rfl)) Via.refl (S0.1.fld (i := 0) rfl) ?_
 refine Runs.arrlen (g j33 2 rfl) S0.2.1 ?_
 refine Runs.aloadN (g j33 3 rfl) rfl rfl ?_
 refine Runs.callVW (argsL := []) (rest := [(.int (Int32.ofNat (2 * ys.length)))]) (W := 1) (g j33 4 rfl) (wd hw 231 rfl) (wd hw 232 rfl) (fun s hZ => notFace_of_selects (args := #[]) (mvT hZ (wd hw 234 rfl))) (wd hw 234 rfl) (wd hw 233 rfl) (wd hw 235 rfl) (wd hw 29 rfl) (by decide) S0.1.1 pd_9 rfl rfl rfl rfl (by decide) (by decide) (by decide) (by decide) all0 (by decide) (own_cow l Z a0 hw n0 s u k2 ys _ S0 cpt S_C hcpt) ?_
 rintro v h1 D1 ⟨rfl, rfl, rfl⟩ hsz
 show Runs _ _ _ _ _ _ _ _ _ _ _ _ [] h0 0 0 9 _ [(.int 1), (.int (Int32.ofNat (2 * ys.length)))]
 refine Runs.ishr (z := Int32.ofNat ys.length) (g j33 5 rfl) (own_shr1 (by omega)) ?_
 exact Runs.retI (z := (Int32.ofNat ys.length)) (g j33 6 rfl) rfl (Or.inl rfl) rfl (by decide) (by decide) ⟨rfl, rfl, rfl⟩
theorem own_ifn (hw : Wds Z a0) (n0 : Nat) (a t : Addr) (k : ClassId) (cap : Nat) (xs : List Int32) (h0 : Heap) (B0 : SBd Z h0 a t k cap xs) (s u : Addr) (k2 : ClassId) (ys : List Int32) (S0 : Str Z h0 s u k2 ys) (cpt : Int32) (S_C : SC Z cpt) (hcpt : ¬ cpt = 0) : Con 1 l Z EL_ n0 m37_ c37_ 2 none ⟨1, 0, 0, 13⟩ #[(.ref a), (.ref s)] [] h0 (fun v h D' => v = none ∧ h0 = h ∧ D' = []) := by
 refine Con.of_runs (ls := #[vr a, vr s]) (by decide +kernel) (ef rfl rfl) ?_
 obtain ⟨BO, BA, BE, BL, hle, hcap⟩ := id B0
 refine Runs.getS (g j37 0 rfl) (wd hw 208 rfl) Via.refl S_C ?_
 refine Runs.ifN (g j37 1 rfl) (feq hcpt).1 ?_
 refine Runs.aloadN (g j37 2 rfl) rfl rfl ?_
 refine Runs.getF (g j37 3 rfl) (host := "") (Or.inl (wd hw 211 rfl)) Via.refl (BO.fld (i := 1) rfl) ?_
 refine Runs.aloadN (g j37 4 rfl) rfl rfl ?_
 refine Runs.callVW (argsL := []) (rest := [(.int 0)]) (W := 1) (g j37 5 rfl) (wd hw 253 rfl) (wd hw 232 rfl) (fun s hZ => notFace_of_selects (args := #[]) (mvT hZ (wd hw 234 rfl))) (wd hw 234 rfl) (wd hw 233 rfl) (wd hw 235 rfl) (wd hw 29 rfl) (by decide) S0.1.1 pd_9 rfl rfl rfl rfl (by decide) (by decide) (by decide) (by decide) all0 (by decide) (own_cod l Z a0 hw n0 s u k2 ys _ S0 cpt S_C hcpt) ?_
 rintro v h1 D1 ⟨rfl, rfl, rfl⟩ hsz
 show Runs _ _ _ _ _ _ _ _ _ _ _ _ [] h0 0 0 14 _ [(.int 0), (.int 0)]
 refine Runs.icY (t := 21) (g j37 6 rfl) (by decide) (teq (by decide : (0 : Int32) = (0 : Int32))).1 ?_
 exact Runs.retV (g j37 9 rfl) rfl (by decide) (by decide) ⟨rfl, rfl, rfl⟩
theorem own_gb (hw : Wds Z a0) (n0 : Nat) (t : Addr) (k : ClassId) (cap : Nat) (xs : List Int32) (h0 : Heap) (BA : Arv Z h0 t k .byte (Int32.ofNat cap) (xs.map own_b) (.int 0)) (s u : Addr) (k2 : ClassId) (ys : List Int32) (S0 : Str Z h0 s u k2 ys) (hfit : xs.length + ys.length ≤ cap) (hcap : cap < 1000000) (gt : n0 ≤ t) (cpt : Int32) (S_C : SC Z cpt) (hcpt : ¬ cpt = 0) : Con 1 l Z EL_ n0 m38_ c38_ 4 none ⟨1, 0, 0, 38⟩ #[(.ref s), (.ref t), (.int (Int32.ofNat xs.length)), (.int 0)] [t] h0 (fun v h D' => v = none ∧ Keep h0 h [t] ∧ Arv Z h t k .byte (Int32.ofNat cap) ((xs ++ ys).map own_b) (.int 0) ∧ D' = []) := by
 refine Con.of_runs (ls := #[vr s, vr t, vi (Int32.ofNat xs.length), vi 0]) (by decide +kernel) (ef rfl rfl) ?_
 have hys := S0.2.2.2
 refine Runs.aloadN (g j38 0 rfl) rfl rfl ?_
 refine Runs.callVW (argsL := []) (rest := []) (W := 0) (g j38 1 rfl) (wd hw 231 rfl) (wd hw 232 rfl) (fun s hZ => notFace_of_selects (args := #[]) (mvT hZ (wd hw 234 rfl))) (wd hw 234 rfl) (wd hw 233 rfl) (wd hw 235 rfl) (wd hw 29 rfl) (by decide) S0.1.1 pd_9 rfl rfl rfl rfl (by decide) (by decide) (by decide) (by decide) all0 (by decide) (own_cod l Z a0 hw n0 s u k2 ys _ S0 cpt S_C hcpt) ?_
 rintro v h1 D1 ⟨rfl, rfl, rfl⟩ hsz
 show Runs _ _ _ _ _ _ _ _ _ _ _ _ [t] h0 0 0 4 _ [(.int 0)]
 refine Runs.iloadN (g j38 2 rfl) rfl ?_
 refine Runs.icN (g j38 3 rfl) (teq (by decide : (0 : Int32) = (0 : Int32))).2 ?_
 refine Runs.aloadN (g j38 4 rfl) rfl rfl ?_
 refine Runs.getF (g j38 5 rfl) (host := "") (Or.inl (wd hw 47 rfl)) Via.refl (S0.1.fld (i := 0) rfl) ?_
 refine Runs.iconst (v := (0 : Int32)) (g j38 6 rfl) (by decide) ?_
 refine Runs.aloadN (g j38 7 rfl) rfl rfl ?_
 refine Runs.iloadN (g j38 8 rfl) rfl ?_
 refine Runs.iloadN (g j38 9 rfl) rfl ?_
 refine Runs.ishl (z := (Int32.ofNat xs.length)) (g j38 10 rfl) (own_shl0 _) ?_
 refine Runs.aloadN (g j38 11 rfl) rfl rfl ?_
 refine Runs.getF (g j38 12 rfl) (host := "") (Or.inl (wd hw 47 rfl)) Via.refl (S0.1.fld (i := 0) rfl) ?_
 refine Runs.arrlen (g j38 13 rfl) S0.2.1 ?_
 have A_1 : Arv Z h0 t k .byte (Int32.ofNat cap) (xs.map own_b ++ List.replicate ((ys.map own_b).length + 0) (.int 0)) (.int 0) := BA.pad (pad_rep _ _ _)
 refine Runs.acopy (W := 0) (us := (ys.map own_b)) (g j38 14 rfl) (wd hw 259 rfl) (wd hw 146 rfl) (wd hw 144 rfl) (wd hw 145 rfl) S0.2.1 A_1 rfl (by decide) (own_nn (by omega)) (own_nn (by omega)) (by rw [own_cl (n := ys.length) (by omega)]; exact Nat.le_of_eq (Nat.zero_add _)) (by rw [own_cl (n := xs.length) (by omega), own_cl (n := ys.length) (by omega), own_cl (n := cap) (by omega)]; omega) (by rw [own_cl (n := ys.length) (by omega), ← List.length_map (f := own_b)]; exact (own_rng _ _).symm) (by rw [own_cl (n := xs.length) (by omega), own_cl (n := ys.length) (by omega)]; simp) gt (Or.inl (mi 0 rfl)) rfl (by decide) rfl (by decide) ?_
 intro h_2 K_3 A_4
 have A_5 : Arv Z h_2 t k .byte (Int32.ofNat cap) ((xs ++ ys).map own_b) (.int 0) := A_4.pad (fun i => by rw [own_cl (n := xs.length) (by omega), own_cl (n := ys.length) (by omega), List.map_append, ← own_app (xs.map own_b) (ys.map own_b) (.int 0) 0 i, List.length_map, List.length_map])
 refine Runs.goto (t := 43) (g j38 15 rfl) (by decide) ?_
 exact Runs.weak (D1 := []) (fun _ q => nomatch q) (Runs.retV (g j38 25 rfl) rfl (by decide) (by decide) ⟨rfl, K_3, A_5, rfl⟩)
theorem own_ps00 (hw : Wds Z a0) (n0 : Nat) (a t : Addr) (k : ClassId) (cap : Nat) (xs : List Int32) (h0 : Heap) (B0 : SBd Z h0 a t k cap xs) (s u : Addr) (k2 : ClassId) (ys : List Int32) (S0 : Str Z h0 s u k2 ys) (hfit : xs.length + ys.length ≤ cap) (m0 : Nat) (hm : n0 ≤ m0 ∧ m0 ≤ h0.size) (ma : m0 ≤ a) (mt : m0 ≤ t) (mu : u ≠ t) (NS : Nat) (hNS : 2 * cap ≤ NS ∧ NS < 1000000) (cpt : Int32) (S_C : SC Z cpt) (hcpt : ¬ cpt = 0) (S_A : SA Z) (S_H : SH Z) (S_L : SL Z) (fm : Value) (hfm : fm.isRef = true) (S_F : SF Z fm) : Con 1 l Z EL_ n0 m36_ c36_ 3 none ⟨2, 1, NS, 53⟩ #[(.ref a), (.int (Int32.ofNat xs.length)), (.ref s)] [t] h0 (fun v h D' => v = none ∧ ∃ t' k', m0 ≤ t' ∧ Keep h0 h [a, t] ∧ Obj Z h a S10_ [(S2_, "value", "[B", (.ref t')), (S2_, "coder", "B", (.int 0)), (S2_, "count", "I", (.int (Int32.ofNat xs.length))), (S2_, S21_, "Z", (.int 0))] ∧ Arv Z h t' k' .byte (Int32.ofNat cap) ((xs ++ ys).map own_b) (.int 0) ∧ Exa Z h t' "[B" ∧ D' = [t']) := by
 refine Con.of_runs (ls := #[vr a, vi (Int32.ofNat xs.length), vr s]) (by decide +kernel) (ef rfl rfl) ?_
 obtain ⟨BO, BA, BE, BL, hle, hcap⟩ := id B0
 have hat : a ≠ t := Exa.neArv BO.1 BA (wd hw 196 rfl)
 refine Runs.aloadN (g j36 0 rfl) rfl rfl ?_
 refine Runs.aloadN (g j36 1 rfl) rfl rfl ?_
 refine Runs.callVW (argsL := [(.ref s)]) (rest := []) (W := 0) (g j36 2 rfl) (wd hw 248 rfl) (declares_of (wd hw 249 rfl) (wd hw 252 rfl)) (fun s hZ => notFace_of_selects (args := #[]) (mvT hZ (wd hw 251 rfl))) (wd hw 251 rfl) (wd hw 249 rfl) (wd hw 252 rfl) (wd hw 205 rfl) (by decide) BO.1 pd_22 rfl rfl rfl rfl (by first | decide | (dsimp only; first | decide | omega)) (by first | decide | (dsimp only; first | decide | omega)) (by first | decide | (dsimp only; first | decide | omega)) (by first | decide | (dsimp only; first | decide | omega)) all0 (by decide) (own_ifn l Z a0 hw n0 a t k cap xs _ B0 s u k2 ys S0 cpt S_C hcpt) ?_
 rintro v h1 D1 ⟨rfl, rfl, rfl⟩ hsz
 show Runs _ _ _ _ _ _ _ _ _ _ _ _ [t] h0 0 0 5 _ []
 refine Runs.aloadN (g j36 3 rfl) rfl rfl ?_
 refine Runs.aloadN (g j36 4 rfl) rfl rfl ?_
 refine Runs.getF (g j36 5 rfl) (host := "") (Or.inl (wd hw 209 rfl)) Via.refl (BO.fld (i := 0) rfl) ?_
 refine Runs.iloadN (g j36 6 rfl) rfl ?_
 refine Runs.aloadN (g j36 7 rfl) rfl rfl ?_
 refine Runs.getF (g j36 8 rfl) (host := "") (Or.inl (wd hw 211 rfl)) Via.refl (BO.fld (i := 1) rfl) ?_
 refine Runs.callVW (argsL := [(.ref t), (.int (Int32.ofNat xs.length)), (.int 0)]) (rest := []) (W := 0) (g j36 9 rfl) (wd hw 254 rfl) (wd hw 255 rfl) (fun s hZ => notFace_of_selects (args := #[]) (mvT hZ (wd hw 257 rfl))) (wd hw 257 rfl) (wd hw 256 rfl) (wd hw 258 rfl) (wd hw 29 rfl) (by decide) S0.1.1 pd_23 rfl rfl rfl rfl (by first | decide | (dsimp only; first | decide | omega)) (by first | decide | (dsimp only; first | decide | omega)) (by first | decide | (dsimp only; first | decide | omega)) (by first | decide | (dsimp only; first | decide | omega)) (allS (mi 0 rfl) all0) (by decide) (own_gb l Z a0 hw n0 t k cap xs _ BA s u k2 ys S0 hfit hcap (Nat.le_trans hm.1 mt) cpt S_C hcpt) ?_
 rintro v h2 D1 ⟨rfl, K2, A2, rfl⟩ hsz
 show Runs _ _ _ _ _ _ _ _ _ _ _ _ [t] h2 0 0 18 _ []
 have O_1 := (BO.keep K2 (ninS hat nin0))
 exact Runs.retV (g j36 10 rfl) rfl (by first | decide | (dsimp only; first | decide | omega)) (by first | decide | (dsimp only; first | decide | omega)) ⟨rfl, t, k, mt, ((Keep.refl _ _).trans K2 (allS (Or.inl (mi 1 rfl)) all0)), O_1, A2, (BE.keep K2), rfl⟩
theorem own_axf00 (hw : Wds Z a0) (n0 : Nat) (a t : Addr) (k : ClassId) (cap : Nat) (xs : List Int32) (h0 : Heap) (B0 : SBd Z h0 a t k cap xs) (s u : Addr) (k2 : ClassId) (ys : List Int32) (S0 : Str Z h0 s u k2 ys) (hfit : xs.length + ys.length ≤ cap) (m0 : Nat) (hm : n0 ≤ m0 ∧ m0 ≤ h0.size) (ma : m0 ≤ a) (mt : m0 ≤ t) (mu : u ≠ t) (NS : Nat) (hNS : 2 * cap ≤ NS ∧ NS < 100000) (cpt : Int32) (S_C : SC Z cpt) (hcpt : ¬ cpt = 0) (S_A : SA Z) (S_H : SH Z) (S_L : SL Z) (fm : Value) (hfm : fm.isRef = true) (S_F : SF Z fm) : Con 1 l Z EL_ n0 m32_ c32_ 3 (some (.object S2_)) ⟨8, 1, NS, 140⟩ #[(.ref a), (.ref s)] [t] h0 (fun v h D' => v = some (.ref a) ∧ ∃ t' k', m0 ≤ t' ∧ Keep h0 h [a, t] ∧ SBx Z h a t' k' cap (xs ++ ys) ∧ D' = [t']) := by
 refine Con.of_runs (ls := #[vr a, vr s, .unset]) (by decide +kernel) (ef rfl rfl) ?_
 obtain ⟨BO, BA, BE, BL, hle, hcap⟩ := id B0
 have hys := S0.2.2.2
 refine Runs.aloadN (g j32 0 rfl) rfl rfl ?_
 refine Runs.nnullY (t := 9) (g j32 1 rfl) (by decide) ?_
 refine Runs.aloadN (g j32 2 rfl) rfl rfl ?_
 refine Runs.callVW (argsL := []) (rest := []) (W := 0) (g j32 3 rfl) (wd hw 226 rfl) (wd hw 227 rfl) (fun s hZ => notFace_of_selects (args := #[]) (mvT hZ (wd hw 229 rfl))) (wd hw 229 rfl) (wd hw 228 rfl) (wd hw 230 rfl) (wd hw 29 rfl) (by decide) S0.1.1 pd_4 rfl rfl rfl rfl (by first | decide | (dsimp only; first | decide | omega)) (by first | decide | (dsimp only; first | decide | omega)) (by first | decide | (dsimp only; first | decide | omega)) (by first | decide | (dsimp only; first | decide | omega)) all0 (by decide) (own_len l Z a0 hw n0 s u k2 ys _ S0 cpt S_C hcpt) ?_
 rintro v h1 D1 ⟨rfl, rfl, rfl⟩ hsz
 show Runs _ _ _ _ _ _ _ _ _ _ _ _ [t] h0 0 0 13 _ [(.int (Int32.ofNat ys.length))]
 refine Runs.istoreN (ls' := #[vr a, vr s, vi (Int32.ofNat ys.length)]) (g j32 4 rfl) rfl ?_
 refine Runs.aloadN (g j32 5 rfl) rfl rfl ?_
 refine Runs.aloadN (g j32 6 rfl) rfl rfl ?_
 refine Runs.getF (g j32 7 rfl) (host := "") (Or.inl (wd hw 236 rfl)) Via.refl (BO.fld (i := 2) rfl) ?_
 refine Runs.iloadN (g j32 8 rfl) rfl ?_
 refine Runs.iadd (z := (Int32.ofNat (xs.length + ys.length))) (g j32 9 rfl) (own_add (a := xs.length) (b := ys.length) (by omega)) ?_
 refine Runs.callVW (argsL := [(.int (Int32.ofNat (xs.length + ys.length)))]) (rest := []) (W := 0) (g j32 10 rfl) (wd hw 238 rfl) (declares_of (wd hw 239 rfl) (wd hw 242 rfl)) (fun s hZ => notFace_of_selects (args := #[]) (mvT hZ (wd hw 241 rfl))) (wd hw 241 rfl) (wd hw 239 rfl) (wd hw 242 rfl) (wd hw 205 rfl) (by decide) BO.1 pd_8 rfl rfl rfl rfl (by first | decide | (dsimp only; first | decide | omega)) (by first | decide | (dsimp only; first | decide | omega)) (by first | decide | (dsimp only; first | decide | omega)) (by first | decide | (dsimp only; first | decide | omega)) all0 (by decide) (own_ecf l Z a0 hw n0 a t k cap xs _ B0 (xs.length + ys.length) (by omega)) ?_
 rintro v h1 D1 ⟨rfl, rfl, rfl⟩ hsz
 show Runs _ _ _ _ _ _ _ _ _ _ _ _ [t] h0 0 0 24 _ []
 refine Runs.aloadN (g j32 11 rfl) rfl rfl ?_
 refine Runs.aloadN (g j32 12 rfl) rfl rfl ?_
 refine Runs.getF (g j32 13 rfl) (host := "") (Or.inl (wd hw 236 rfl)) Via.refl (BO.fld (i := 2) rfl) ?_
 refine Runs.aloadN (g j32 14 rfl) rfl rfl ?_
 refine Runs.callVW (argsL := [(.int (Int32.ofNat xs.length)), (.ref s)]) (rest := []) (W := 0) (g j32 15 rfl) (wd hw 243 rfl) (declares_of (wd hw 244 rfl) (wd hw 247 rfl)) (fun s hZ => notFace_of_selects (args := #[]) (mvT hZ (wd hw 246 rfl))) (wd hw 246 rfl) (wd hw 244 rfl) (wd hw 247 rfl) (wd hw 205 rfl) (by decide) B0.1.1 pd_24 rfl rfl rfl rfl (by first | decide | (dsimp only; first | decide | omega)) (by first | decide | (dsimp only; first | decide | omega)) (by first | decide | (dsimp only; first | decide | omega)) (by first | decide | (dsimp only; first | decide | omega)) (allS (mi 0 rfl) all0) (by decide) (own_ps00 l Z a0 hw n0 a t k cap xs _ B0 s u k2 ys S0 (by omega) m0 ⟨hm.1, Nat.le_trans hm.2 (Nat.le_refl _)⟩ ma mt mu NS (by omega) cpt S_C hcpt S_A S_H S_L fm hfm S_F) ?_
 rintro v h1 D1 ⟨rfl, t1, k1, g1, K1, O1, A1, E1, rfl⟩ hsz
 show Runs _ _ _ _ _ _ _ _ _ _ _ _ [t1, t] h1 1 (0 + NS) 33 _ []
 have ha1 : a ≠ t1 := Exa.neArv O1.1 A1 (wd hw 196 rfl)
 refine Runs.aloadN (g j32 16 rfl) rfl rfl ?_
 refine Runs.dup (g j32 17 rfl) rfl ?_
 refine Runs.getF (g j32 18 rfl) (host := "") (Or.inl (wd hw 236 rfl)) Via.refl (O1.fld (i := 2) rfl) ?_
 refine Runs.iloadN (g j32 19 rfl) rfl ?_
 refine Runs.iadd (z := (Int32.ofNat (xs.length + ys.length))) (g j32 20 rfl) (own_add (a := xs.length) (b := ys.length) (by omega)) ?_
 refine Runs.putF (i := 2) (ty := .int) (g j32 21 rfl) (host := "") (Or.inl (wd hw 236 rfl)) Via.refl O1 rfl (lay_2 hw) rfl (Or.inl (wd hw 237 rfl)) (wd hw 196 rfl) (by decide) rfl rfl (Nat.le_trans hm.1 ma) (Or.inr ⟨by decide, by decide⟩) ?_
 intro h_1 K_2 (O_3 : Obj Z h_1 a S10_ [(S2_, "value", "[B", (.ref t1)), (S2_, "coder", "B", (.int 0)), (S2_, "count", "I", (.int (Int32.ofNat (xs.length + ys.length)))), (S2_, S21_, "Z", (.int 0))])
 refine Runs.aloadN (g j32 22 rfl) rfl rfl ?_
 have A_4 := (A1.keep K_2 (ninS (Ne.symm ha1) nin0))
 refine Runs.weak (D1 := [t1]) (by simp) ?_
 exact Runs.retA (g j32 23 rfl) rfl rfl rfl (by first | decide | (dsimp only; first | decide | omega)) (by first | decide | (dsimp only; first | decide | omega)) ⟨rfl, t1, k1, g1, (((Keep.refl _ _).trans K1 (allS (Or.inl (mi 0 rfl)) (allS (Or.inl (mi 1 rfl)) all0))).trans K_2 (allS (Or.inl (mi 0 rfl)) all0)), Or.inl ⟨by rw [List.length_append]; exact O_3, A_4, (E1.keep K_2), own_lat_app BL S0.2.2.1, by rw [List.length_append]; omega, by omega⟩, rfl⟩
theorem own_ubl (hw : Wds Z a0) (n0 : Nat) (n : Nat) (hn : n < 1000000) (h0 : Heap) : Con 1 l Z EL_ n0 (⟨S17_, "newBytesLength", "(I)I"⟩ : MethodName) c78_ 1 (some .int) ⟨0, 0, 0, 0⟩ #[(.int (Int32.ofNat n))] [] h0 (fun v h D' => v = some (.int (Int32.ofNat (2 * n))) ∧ h0 = h ∧ D' = []) := by
 refine Con.of_runs (ls := #[vi (Int32.ofNat n)]) (by decide +kernel) (ef rfl rfl) ?_
 refine Runs.iloadN (g j78 0 rfl) rfl ?_
 refine Runs.ifY (t := 12) (g j78 1 rfl) (by decide) (flt (own_nn (by omega))).2.1 ?_
 refine Runs.iloadN (g j78 2 rfl) rfl ?_
 refine Runs.ldcI (g j78 3 rfl) (wd hw 483 rfl) ?_
 refine Runs.icY (t := 55) (g j78 4 rfl) (by decide) (tlt (own_lt (a := n) (b := 1073741823) (by omega) (by omega))).1 ?_
 refine Runs.iloadN (g j78 5 rfl) rfl ?_
 refine Runs.iconst (v := (1 : Int32)) (g j78 6 rfl) (by decide) ?_
 refine Runs.ishl (z := Int32.ofNat (2 * n)) (g j78 7 rfl) (own_shl1 (by omega)) ?_
 exact Runs.retI (z := (Int32.ofNat (2 * n))) (g j78 8 rfl) rfl (Or.inl rfl) rfl (by decide) (by decide) ⟨rfl, rfl, rfl⟩
theorem own_ubf (hw : Wds Z a0) (n0 : Nat) (n NS : Nat) (hn : n < 1000000) (hNS : 2 * n ≤ NS ∧ NS < 10000000) (h0 : Heap) : Con 1 l Z EL_ n0 (⟨S17_, "newBytesFor", "(I)[B"⟩ : MethodName) c77_ 1 (some (.array .byte)) ⟨1, 1, NS, 12⟩ #[(.int (Int32.ofNat n))] [] h0 (fun v h D' => ∃ b k, v = some (.ref b) ∧ h0.size ≤ b ∧ Keep h0 h [] ∧ Arv Z h b k .byte (Int32.ofNat (2 * n)) (own_ws []) (.int 0) ∧ Exa Z h b "[B" ∧ D' = [b]) := by
 refine Con.of_runs (ls := #[vi (Int32.ofNat n)]) (by decide +kernel) (ef rfl rfl) ?_
 refine Runs.iloadN (g j77 0 rfl) rfl ?_
 refine Runs.callSW (argsL := [(.int (Int32.ofNat n))]) (rest := []) (W := 0) (g j77 1 rfl) (wd hw 480 rfl) (wd hw 481 rfl) (wd hw 460 rfl) (wd hw 482 rfl) (by decide) pd_25 rfl rfl rfl rfl (by first | decide | (dsimp only; first | decide | omega)) (by first | decide | (dsimp only; first | decide | omega)) (by first | decide | (dsimp only; first | decide | omega)) (by first | decide | (dsimp only; first | decide | omega)) all0 (by decide) (own_ubl l Z a0 hw n0 n (by omega) _) ?_
 rintro v h1 D1 ⟨rfl, rfl, rfl⟩ hsz
 show Runs _ _ _ _ _ _ _ _ _ _ _ _ [] h0 0 0 4 _ [(.int (Int32.ofNat (2 * n)))]
 refine Runs.newP (cap := NS) (ad := "[B") (g j77 2 rfl) (wd hw 41 rfl) (own_nn (by omega)) (by rw [own_cl (n := 2 * n) (by omega)]; omega) (by omega) (by first | decide | (dsimp only; first | decide | omega)) (by first | decide | (dsimp only; first | decide | omega)) rfl ?_
 intro h_1 b_2 k_3 g_6 ge_7 K_4 (A_5 : Arv Z h_1 b_2 k_3 .byte (Int32.ofNat (2 * n)) (own_ws []) (.int 0)) E_8
 exact Runs.retA (g j77 3 rfl) rfl rfl rfl (by first | decide | (dsimp only; first | decide | omega)) (by first | decide | (dsimp only; first | decide | omega)) ⟨b_2, k_3, rfl, g_6, K_4, A_5, E_8, rfl⟩
theorem own_uil (hw : Wds Z a0) (n0 : Nat) (u t : Addr) (ku k : ClassId) (c0 cap : Nat) (xs : List Int32) (vs : List Value) (hv : ∀ i, i < xs.length → vs.getD i (.int 0) = .int ((Int32.toInt8 (xs.getD i 0)).toInt32)) (hut : u ≠ t) (hx : xs.length ≤ cap) (hcap : cap < 1000000) (hc0 : xs.length ≤ c0 ∧ c0 < 1000000) (hL : Lat xs) (h0 : Heap) (U0 : Arv Z h0 u ku .byte (Int32.ofNat c0) vs (.int 0)) (gt : n0 ≤ t) (S_A : SA Z) (S_H : SH Z) (S_L : SL Z) (d : Nat) : ∀ (i : Nat) (h : Heap), d + i = xs.length → Keep h0 h [t] → Arv Z h t k .byte (Int32.ofNat (2 * cap)) (own_ws (xs.take i)) (.int 0) → Runs 1 l Z EL_ n0 S17_ "inflate" c80_ 6 none ⟨3, 0, 0, 50⟩ (fun v h D' => v = none ∧ Keep h0 h [t] ∧ Arv Z h t k .byte (Int32.ofNat (2 * cap)) (own_ws xs) (.int 0) ∧ D' = []) [t] h 0 0 10 #[vr u, vi (Int32.ofNat i), vr t, vi (Int32.ofNat i), vi (Int32.ofNat xs.length), vi (Int32.ofNat i)] [] := by
 induction d with
 | zero =>
   intro i h hd K T
   refine Runs.iload (g j80 6 rfl) rfl ?_
   refine Runs.iload (g j80 7 rfl) rfl ?_
   refine Runs.icY (t := 41) (g j80 8 rfl) (by decide) (flt (own_nlt (by omega) (by omega))).2.1 ?_
   exact Runs.weak (D1 := []) (fun _ q => nomatch q) (Runs.retV (g j80 21 rfl) rfl (by decide) (by decide) ⟨rfl, K, by rw [List.take_of_length_le (by omega)] at T; exact T, rfl⟩)
 | succ d ih =>
   intro i h hd K T
   refine Runs.iload (g j80 6 rfl) rfl ?_
   refine Runs.iload (g j80 7 rfl) rfl ?_
   refine Runs.icN (g j80 8 rfl) (tlt (own_lt (by omega) (by omega))).2.1 ?_
   refine Runs.aloadN (g j80 9 rfl) rfl rfl ?_
   refine Runs.iloadN (g j80 10 rfl) rfl ?_
   refine Runs.iinc (z := (Int32.ofNat (i + 1))) (ls' := #[vr u, vi (Int32.ofNat i), vr t, vi (Int32.ofNat (i + 1)), vi (Int32.ofNat xs.length), vi (Int32.ofNat i)]) (g j80 11 rfl) rfl (own_add (b := 1) (by omega)) rfl ?_
   refine Runs.aloadN (g j80 12 rfl) rfl rfl ?_
   refine Runs.iloadN (g j80 13 rfl) rfl ?_
   refine Runs.iinc (z := (Int32.ofNat (i + 1))) (ls' := #[vr u, vi (Int32.ofNat (i + 1)), vr t, vi (Int32.ofNat (i + 1)), vi (Int32.ofNat xs.length), vi (Int32.ofNat i)]) (g j80 14 rfl) rfl (own_add (b := 1) (by omega)) rfl ?_
   refine Runs.baload (v := .int ((Int32.toInt8 (xs.getD i 0)).toInt32)) (g j80 15 rfl) (U0.keep K (ninS hut nin0)) ⟨own_nn (by omega), own_lt (by omega) (by omega)⟩ (by rw [own_cl (by omega)]; exact hv i (by omega)) ?_
   refine Runs.sipush (v := (255 : Int32)) (g j80 16 rfl) (by decide) ?_
   refine Runs.iand (z := xs.getD i 0) (g j80 17 rfl) (own_b255 (own_latg hL (by omega))) ?_
   have Hc := own_upc l Z a0 hw n0 t k cap (xs.take i) _ T (xs.getD i 0) (by rw [own_tkl (by omega)]; omega) hcap gt S_A S_H S_L
   rw [own_tkl (by omega)] at Hc
   refine Runs.callSW (argsL := [(.ref t), (.int (Int32.ofNat i)), (.int (xs.getD i 0))]) (rest := []) (W := 0) (g j80 18 rfl) (wd hw 462 rfl) (wd hw 463 rfl) (wd hw 460 rfl) (wd hw 464 rfl) (by decide) pd_0 rfl rfl rfl rfl (by decide) (by decide) (by decide) (by decide) (allS (mi 0 rfl) all0) (by decide) Hc ?_
   rintro v h_3 D1 ⟨rfl, K_1, A_2, rfl⟩ hsz
   show Runs _ _ _ _ _ _ _ _ _ _ _ _ [t] h_3 0 0 35 _ []
   refine Runs.iinc (z := (Int32.ofNat (i + 1))) (ls' := #[vr u, vi (Int32.ofNat (i + 1)), vr t, vi (Int32.ofNat (i + 1)), vi (Int32.ofNat xs.length), vi (Int32.ofNat (i + 1))]) (g j80 19 rfl) rfl (own_add (b := 1) (by omega)) rfl ?_
   refine Runs.goto (t := 10) (g j80 20 rfl) (by decide) ?_
   exact ih (i + 1) _ (by omega) (K.trans K_1 (allS (Or.inl (mi 0 rfl)) all0)) (by rw [← own_take1 (by omega)]; exact A_2)
theorem own_uin (hw : Wds Z a0) (n0 : Nat) (u t : Addr) (ku k : ClassId) (c0 cap : Nat) (xs : List Int32) (vs : List Value) (hv : ∀ i, i < xs.length → vs.getD i (.int 0) = .int ((Int32.toInt8 (xs.getD i 0)).toInt32)) (hut : u ≠ t) (hx : xs.length ≤ cap) (hcap : cap < 1000000) (hc0 : xs.length ≤ c0 ∧ c0 < 1000000) (hL : Lat xs) (h0 : Heap) (U0 : Arv Z h0 u ku .byte (Int32.ofNat c0) vs (.int 0)) (gt : n0 ≤ t) (S_A : SA Z) (S_H : SH Z) (S_L : SL Z) (T0 : Arv Z h0 t k .byte (Int32.ofNat (2 * cap)) (own_ws []) (.int 0)) (fm : Value) (hfm : fm.isRef = true) (S_F : SF Z fm) : Con 1 l Z EL_ n0 m80_ c80_ 6 none ⟨3, 0, 0, 50⟩ #[(.ref u), (.int 0), (.ref t), (.int 0), (.int (Int32.ofNat xs.length))] [t] h0 (fun v h D' => v = none ∧ Keep h0 h [t] ∧ Arv Z h t k .byte (Int32.ofNat (2 * cap)) (own_ws xs) (.int 0) ∧ D' = []) := by
 refine Con.of_runs (ls := #[vr u, vi 0, vr t, vi 0, vi (Int32.ofNat xs.length), .unset]) (by decide +kernel) (ef rfl rfl) ?_
 refine Runs.iloadN (g j80 0 rfl) rfl ?_
 refine Runs.iload (g j80 1 rfl) rfl ?_
 refine Runs.aloadN (g j80 2 rfl) rfl rfl ?_
 refine Runs.callSW (argsL := [(.int 0), (.int (Int32.ofNat xs.length)), (.ref t)]) (rest := []) (W := 0) (g j80 3 rfl) (wd hw 490 rfl) (wd hw 491 rfl) (wd hw 460 rfl) (wd hw 492 rfl) (by decide) pd_14 rfl rfl rfl rfl (by decide) (by decide) (by decide) (by decide) all0 (by decide) (own_ubo l Z a0 hw n0 xs.length cap hx hcap fm hfm S_F t k _ _ T0) ?_
 rintro v h1 D1 ⟨rfl, rfl, rfl⟩ hsz
 show Runs _ _ _ _ _ _ _ _ _ _ _ _ [t] h0 0 0 7 _ []
 refine Runs.iconst (v := (0 : Int32)) (g j80 4 rfl) (by decide) ?_
 refine Runs.istore (ls' := #[vr u, vi 0, vr t, vi 0, vi (Int32.ofNat xs.length), vi 0]) (g j80 5 rfl) rfl ?_
 exact own_uil l Z a0 hw n0 u t ku k c0 cap xs vs hv hut hx hcap hc0 hL h0 U0 gt S_A S_H S_L xs.length 0 _ (by omega) (Keep.refl _ _) T0
theorem own_lin (hw : Wds Z a0) (n0 : Nat) (u t : Addr) (ku k : ClassId) (c0 cap : Nat) (xs : List Int32) (vs : List Value) (hv : ∀ i, i < xs.length → vs.getD i (.int 0) = .int ((Int32.toInt8 (xs.getD i 0)).toInt32)) (hut : u ≠ t) (hx : xs.length ≤ cap) (hcap : cap < 1000000) (hc0 : xs.length ≤ c0 ∧ c0 < 1000000) (hL : Lat xs) (h0 : Heap) (U0 : Arv Z h0 u ku .byte (Int32.ofNat c0) vs (.int 0)) (gt : n0 ≤ t) (S_A : SA Z) (S_H : SH Z) (S_L : SL Z) (T0 : Arv Z h0 t k .byte (Int32.ofNat (2 * cap)) (own_ws []) (.int 0)) (fm : Value) (hfm : fm.isRef = true) (S_F : SF Z fm) : Con 1 l Z EL_ n0 m79_ c79_ 5 none ⟨4, 0, 0, 67⟩ #[(.ref u), (.int 0), (.ref t), (.int 0), (.int (Int32.ofNat xs.length))] [t] h0 (fun v h D' => v = none ∧ Keep h0 h [t] ∧ Arv Z h t k .byte (Int32.ofNat (2 * cap)) (own_ws xs) (.int 0) ∧ D' = []) := by
 refine Con.of_runs (ls := #[vr u, vi 0, vr t, vi 0, vi (Int32.ofNat xs.length)]) (by decide +kernel) (ef rfl rfl) ?_
 refine Runs.aloadN (g j79 0 rfl) rfl rfl ?_
 refine Runs.iloadN (g j79 1 rfl) rfl ?_
 refine Runs.aloadN (g j79 2 rfl) rfl rfl ?_
 refine Runs.iloadN (g j79 3 rfl) rfl ?_
 refine Runs.iload (g j79 4 rfl) rfl ?_
 refine Runs.callSW (argsL := [(.ref u), (.int 0), (.ref t), (.int 0), (.int (Int32.ofNat xs.length))]) (rest := []) (W := 0) (g j79 5 rfl) (wd hw 487 rfl) (wd hw 488 rfl) (wd hw 460 rfl) (wd hw 489 rfl) (by decide) pd_15 rfl rfl rfl rfl (by decide) (by decide) (by decide) (by decide) (allS (mi 0 rfl) all0) (by decide) (own_uin l Z a0 hw n0 u t ku k c0 cap xs vs hv hut hx hcap hc0 hL h0 U0 gt S_A S_H S_L T0 fm hfm S_F) ?_
 rintro v h1 D1 ⟨rfl, K1, A1, rfl⟩ hsz
 show Runs _ _ _ _ _ _ _ _ _ _ _ _ [t] h1 0 0 9 _ []
 refine Runs.weak (D1 := []) (fun _ q => nomatch q) ?_
 exact Runs.retV (g j79 6 rfl) rfl (by decide) (by decide) ⟨rfl, K1, A1, rfl⟩
theorem own_ain (hw : Wds Z a0) (n0 : Nat) (a t : Addr) (k : ClassId) (cap : Nat) (xs : List Int32) (h0 : Heap) (B0 : SBd Z h0 a t k cap xs) (NS : Nat) (hNS : 2 * cap ≤ NS ∧ NS < 1000000) (ga : n0 ≤ a) (hn0 : n0 ≤ h0.size) (cpt : Int32) (S_C : SC Z cpt) (hcpt : ¬ cpt = 0) (S_A : SA Z) (S_H : SH Z) (S_L : SL Z) (fm : Value) (hfm : fm.isRef = true) (S_F : SF Z fm) : Con 1 l Z EL_ n0 m76_ c76_ 2 none ⟨5, 1, NS, 83⟩ #[(.ref a)] [] h0 (fun v h D' => v = none ∧ ∃ t' k', h0.size ≤ t' ∧ Keep h0 h [a] ∧ SBw Z h a t' k' cap xs ∧ D' = [t']) := by
 refine Con.of_runs (ls := #[vr a, .unset]) (by decide +kernel) (ef rfl rfl) ?_
 obtain ⟨BO, BA, BE, BL, hle, hcap⟩ := id B0
 refine Runs.aloadN (g j76 0 rfl) rfl rfl ?_
 refine Runs.callVW (argsL := []) (rest := []) (W := 0) (g j76 1 rfl) (wd hw 339 rfl) (wd hw 340 rfl) (fun s hZ => notFace_of_selects (args := #[]) (mvT hZ (wd hw 342 rfl))) (wd hw 342 rfl) (wd hw 341 rfl) (wd hw 343 rfl) (wd hw 205 rfl) (by decide) BO.1 pd_7 rfl rfl rfl rfl (by first | decide | (dsimp only; first | decide | omega)) (by first | decide | (dsimp only; first | decide | omega)) (by first | decide | (dsimp only; first | decide | omega)) (by first | decide | (dsimp only; first | decide | omega)) all0 (by decide) (own_bil l Z a0 hw n0 a t k cap xs _ B0 cpt S_C hcpt) ?_
 rintro v h1 D1 ⟨rfl, rfl, rfl⟩ hsz
 show Runs _ _ _ _ _ _ _ _ _ _ _ _ [] h0 0 0 4 _ [(.int 1)]
 refine Runs.ifY (t := 8) (g j76 2 rfl) (by decide) (feq (by decide : ¬ ((1 : Int32) = (0 : Int32)))).2 ?_
 refine Runs.aloadN (g j76 4 rfl) rfl rfl ?_
 refine Runs.getF (g j76 5 rfl) (host := "") (Or.inl (wd hw 209 rfl)) Via.refl (BO.fld (i := 0) rfl) ?_
 refine Runs.arrlen (g j76 6 rfl) BA ?_
 refine Runs.callSW (argsL := [(.int (Int32.ofNat cap))]) (rest := []) (W := 0) (g j76 7 rfl) (wd hw 477 rfl) (wd hw 478 rfl) (wd hw 460 rfl) (wd hw 479 rfl) (by decide) pd_26 rfl rfl rfl rfl (by first | decide | (dsimp only; first | decide | omega)) (by first | decide | (dsimp only; first | decide | omega)) (by first | decide | (dsimp only; first | decide | omega)) (by first | decide | (dsimp only; first | decide | omega)) all0 (by decide) (own_ubf l Z a0 hw n0 cap NS (by omega) (by omega) _) ?_
 rintro v h_7 D1 ⟨b_1, k_2, rfl, g_3, K_4, A_5, E_6, rfl⟩ hsz
 show Runs _ _ _ _ _ _ _ _ _ _ _ _ [b_1] h_7 1 (0 + NS) 16 _ [(.ref b_1)]
 have ge_b_1 : n0 ≤ b_1 := Nat.le_trans hn0 g_3
 refine Runs.astoreN (ls' := #[vr a, vr b_1]) (g j76 8 rfl) rfl rfl ?_
 refine Runs.aloadN (g j76 9 rfl) rfl rfl ?_
 have O_8 := (BO.keep K_4 nin0)
 refine Runs.getF (g j76 10 rfl) (host := "") (Or.inl (wd hw 209 rfl)) Via.refl (O_8.fld (i := 0) rfl) ?_
 refine Runs.iconst (v := (0 : Int32)) (g j76 11 rfl) (by decide) ?_
 refine Runs.aloadN (g j76 12 rfl) rfl rfl ?_
 refine Runs.iconst (v := (0 : Int32)) (g j76 13 rfl) (by decide) ?_
 refine Runs.aloadN (g j76 14 rfl) rfl rfl ?_
 refine Runs.getF (g j76 15 rfl) (host := "") (Or.inl (wd hw 236 rfl)) Via.refl (O_8.fld (i := 2) rfl) ?_
 have A_9 := (BA.keep K_4 nin0)
 refine Runs.callSW (argsL := [(.ref t), (.int 0), (.ref b_1), (.int 0), (.int (Int32.ofNat xs.length))]) (rest := []) (W := 0) (g j76 16 rfl) (wd hw 484 rfl) (wd hw 485 rfl) (wd hw 34 rfl) (wd hw 486 rfl) (by decide) pd_15 rfl rfl rfl rfl (by first | decide | (dsimp only; first | decide | omega)) (by first | decide | (dsimp only; first | decide | omega)) (by first | decide | (dsimp only; first | decide | omega)) (by first | decide | (dsimp only; first | decide | omega)) (allS (mi 0 rfl) all0) (by decide) (own_lin l Z a0 hw n0 t b_1 k k_2 cap cap xs (xs.map own_b) (fun i _ => own_gbv xs i) (Nat.ne_of_lt (Nat.lt_of_lt_of_le (Nat.lt_of_lt_of_le BA.lt (Nat.le_refl _)) g_3)) hle hcap ⟨hle, hcap⟩ BL _ A_9 ge_b_1 S_A S_H S_L A_5 fm hfm S_F) ?_
 rintro v h_10 D1 ⟨rfl, K_11, A_12, rfl⟩ hsz
 show Runs _ _ _ _ _ _ _ _ _ _ _ _ [b_1] h_10 1 (0 + NS) 31 _ []
 refine Runs.aloadN (g j76 17 rfl) rfl rfl ?_
 refine Runs.aloadN (g j76 18 rfl) rfl rfl ?_
 have O_13 := (O_8.keep K_11 (ninS (Nat.ne_of_lt (Nat.lt_of_lt_of_le (Nat.lt_of_lt_of_le BO.lt (Nat.le_refl _)) g_3)) nin0))
 refine Runs.putF (i := 0) (ty := (.array .byte)) (g j76 19 rfl) (host := "") (Or.inl (wd hw 209 rfl)) Via.refl O_13 rfl (lay_2 hw) rfl (Or.inl (wd hw 210 rfl)) (wd hw 196 rfl) (by decide) rfl rfl ga (Or.inr ⟨by decide, by decide⟩) ?_
 intro h_14 K_15 (O_16 : Obj Z h_14 a S10_ [(S2_, "value", "[B", (.ref b_1)), (S2_, "coder", "B", (.int 0)), (S2_, "count", "I", (.int (Int32.ofNat xs.length))), (S2_, S21_, "Z", (.int 0))])
 refine Runs.aloadN (g j76 20 rfl) rfl rfl ?_
 refine Runs.iconst (v := (1 : Int32)) (g j76 21 rfl) (by decide) ?_
 refine Runs.putF (i := 1) (ty := .byte) (g j76 22 rfl) (host := "") (Or.inl (wd hw 211 rfl)) Via.refl O_16 rfl (lay_2 hw) rfl (Or.inl (wd hw 212 rfl)) (wd hw 196 rfl) (by decide) rfl rfl ga (Or.inr ⟨by decide, by decide⟩) ?_
 intro h_17 K_18 (O_19 : Obj Z h_17 a S10_ [(S2_, "value", "[B", (.ref b_1)), (S2_, "coder", "B", (.int 1)), (S2_, "count", "I", (.int (Int32.ofNat xs.length))), (S2_, S21_, "Z", (.int 0))])
 have A_20 := ((A_12.keep K_15 (ninS (Nat.ne_of_gt (Nat.lt_of_lt_of_le (Nat.lt_of_lt_of_le BO.lt (Nat.le_refl _)) g_3)) nin0)).keep K_18 (ninS (Nat.ne_of_gt (Nat.lt_of_lt_of_le (Nat.lt_of_lt_of_le BO.lt (Nat.le_refl _)) g_3)) nin0))
 exact Runs.retV (g j76 23 rfl) rfl (by first | decide | (dsimp only; first | decide | omega)) (by first | decide | (dsimp only; first | decide | omega)) ⟨rfl, b_1, k_2, g_3, (((((Keep.refl _ _).trans K_4 all0).trans K_11 (allS (Or.inr (Nat.le_trans (Nat.le_refl _) g_3)) all0)).trans K_15 (allS (Or.inl (mi 0 rfl)) all0)).trans K_18 (allS (Or.inl (mi 0 rfl)) all0)), ⟨O_19, A_20, (((E_6.keep K_11).keep K_15).keep K_18), own_chl BL, hle, hcap⟩, rfl⟩
theorem own_ifw (hw : Wds Z a0) (n0 : Nat) (a t : Addr) (k : ClassId) (cap : Nat) (xs : List Int32) (h0 : Heap) (B0 : SBd Z h0 a t k cap xs) (s u : Addr) (k2 : ClassId) (ys : List Int32) (S0 : Stw Z h0 s u k2 ys) (NS : Nat) (hNS : 2 * cap ≤ NS ∧ NS < 1000000) (ga : n0 ≤ a) (hn0 : n0 ≤ h0.size) (cpt : Int32) (S_C : SC Z cpt) (hcpt : ¬ cpt = 0) (S_A : SA Z) (S_H : SH Z) (S_L : SL Z) (fm : Value) (hfm : fm.isRef = true) (S_F : SF Z fm) : Con 1 l Z EL_ n0 m37_ c37_ 2 none ⟨6, 1, NS, 96⟩ #[(.ref a), (.ref s)] [] h0 (fun v h D' => v = none ∧ ∃ t' k', h0.size ≤ t' ∧ Keep h0 h [a] ∧ SBw Z h a t' k' cap xs ∧ D' = [t']) := by
 refine Con.of_runs (ls := #[vr a, vr s]) (by decide +kernel) (ef rfl rfl) ?_
 obtain ⟨BO, BA, BE, BL, hle, hcap⟩ := id B0
 refine Runs.getS (g j37 0 rfl) (wd hw 208 rfl) Via.refl S_C ?_
 refine Runs.ifN (g j37 1 rfl) (feq hcpt).1 ?_
 refine Runs.aloadN (g j37 2 rfl) rfl rfl ?_
 refine Runs.getF (g j37 3 rfl) (host := "") (Or.inl (wd hw 211 rfl)) Via.refl (BO.fld (i := 1) rfl) ?_
 refine Runs.aloadN (g j37 4 rfl) rfl rfl ?_
 refine Runs.callVW (argsL := []) (rest := [(.int 0)]) (W := 1) (g j37 5 rfl) (wd hw 253 rfl) (wd hw 232 rfl) (fun s hZ => notFace_of_selects (args := #[]) (mvT hZ (wd hw 234 rfl))) (wd hw 234 rfl) (wd hw 233 rfl) (wd hw 235 rfl) (wd hw 29 rfl) (by decide) S0.1.1 pd_9 rfl rfl rfl rfl (by first | decide | (dsimp only; first | decide | omega)) (by first | decide | (dsimp only; first | decide | omega)) (by first | decide | (dsimp only; first | decide | omega)) (by first | decide | (dsimp only; first | decide | omega)) all0 (by decide) (own_cow l Z a0 hw n0 s u k2 ys _ S0 cpt S_C hcpt) ?_
 rintro v h1 D1 ⟨rfl, rfl, rfl⟩ hsz
 show Runs _ _ _ _ _ _ _ _ _ _ _ _ [] h0 0 0 14 _ [(.int 1), (.int 0)]
 refine Runs.icN (g j37 6 rfl) (feq (by decide : ¬ ((0 : Int32) = (1 : Int32)))).1 ?_
 refine Runs.aloadN (g j37 7 rfl) rfl rfl ?_
 refine Runs.callVW (argsL := []) (rest := []) (W := 0) (g j37 8 rfl) (wd hw 472 rfl) (declares_of (wd hw 473 rfl) (wd hw 476 rfl)) (fun s hZ => notFace_of_selects (args := #[]) (mvT hZ (wd hw 475 rfl))) (wd hw 475 rfl) (wd hw 473 rfl) (wd hw 476 rfl) (wd hw 205 rfl) (by decide) BO.1 pd_10 rfl rfl rfl rfl (by first | decide | (dsimp only; first | decide | omega)) (by first | decide | (dsimp only; first | decide | omega)) (by first | decide | (dsimp only; first | decide | omega)) (by first | decide | (dsimp only; first | decide | omega)) all0 (by decide) (own_ain l Z a0 hw n0 a t k cap xs _ B0 NS hNS ga hn0 cpt S_C hcpt S_A S_H S_L fm hfm S_F) ?_
 rintro v h1 D1 ⟨rfl, t1, k1, g1, K1, B1, rfl⟩ hsz
 show Runs _ _ _ _ _ _ _ _ _ _ _ _ [t1] h1 1 (0 + NS) 21 _ []
 exact Runs.retV (g j37 9 rfl) rfl (by first | decide | (dsimp only; first | decide | omega)) (by first | decide | (dsimp only; first | decide | omega)) ⟨rfl, t1, k1, g1, K1, B1, rfl⟩
theorem own_gbw (hw : Wds Z a0) (n0 : Nat) (t : Addr) (k : ClassId) (cap : Nat) (xs : List Int32) (h0 : Heap) (BA : Arv Z h0 t k .byte (Int32.ofNat (2 * cap)) (own_ws xs) (.int 0)) (s u : Addr) (k2 : ClassId) (ys : List Int32) (S0 : Stw Z h0 s u k2 ys) (hfit : xs.length + ys.length ≤ cap) (hcap : cap < 1000000) (gt : n0 ≤ t) (cpt : Int32) (S_C : SC Z cpt) (hcpt : ¬ cpt = 0) : Con 1 l Z EL_ n0 m38_ c38_ 4 none ⟨1, 0, 0, 38⟩ #[(.ref s), (.ref t), (.int (Int32.ofNat xs.length)), (.int 1)] [t] h0 (fun v h D' => v = none ∧ Keep h0 h [t] ∧ Arv Z h t k .byte (Int32.ofNat (2 * cap)) (own_ws (xs ++ ys)) (.int 0) ∧ D' = []) := by
 refine Con.of_runs (ls := #[vr s, vr t, vi (Int32.ofNat xs.length), vi 1]) (by decide +kernel) (ef rfl rfl) ?_
 have hys := S0.2.2.2
 refine Runs.aloadN (g j38 0 rfl) rfl rfl ?_
 refine Runs.callVW (argsL := []) (rest := []) (W := 0) (g j38 1 rfl) (wd hw 231 rfl) (wd hw 232 rfl) (fun s hZ => notFace_of_selects (args := #[]) (mvT hZ (wd hw 234 rfl))) (wd hw 234 rfl) (wd hw 233 rfl) (wd hw 235 rfl) (wd hw 29 rfl) (by decide) S0.1.1 pd_9 rfl rfl rfl rfl (by decide) (by decide) (by decide) (by decide) all0 (by decide) (own_cow l Z a0 hw n0 s u k2 ys _ S0 cpt S_C hcpt) ?_
 rintro v h1 D1 ⟨rfl, rfl, rfl⟩ hsz
 show Runs _ _ _ _ _ _ _ _ _ _ _ _ [t] h0 0 0 4 _ [(.int 1)]
 refine Runs.iloadN (g j38 2 rfl) rfl ?_
 refine Runs.icN (g j38 3 rfl) (teq (by decide : (1 : Int32) = (1 : Int32))).2 ?_
 refine Runs.aloadN (g j38 4 rfl) rfl rfl ?_
 refine Runs.getF (g j38 5 rfl) (host := "") (Or.inl (wd hw 47 rfl)) Via.refl (S0.1.fld (i := 0) rfl) ?_
 refine Runs.iconst (v := (0 : Int32)) (g j38 6 rfl) (by decide) ?_
 refine Runs.aloadN (g j38 7 rfl) rfl rfl ?_
 refine Runs.iloadN (g j38 8 rfl) rfl ?_
 refine Runs.iloadN (g j38 9 rfl) rfl ?_
 refine Runs.ishl (z := Int32.ofNat (2 * xs.length)) (g j38 10 rfl) (own_shl1 (by omega)) ?_
 refine Runs.aloadN (g j38 11 rfl) rfl rfl ?_
 refine Runs.getF (g j38 12 rfl) (host := "") (Or.inl (wd hw 47 rfl)) Via.refl (S0.1.fld (i := 0) rfl) ?_
 refine Runs.arrlen (g j38 13 rfl) S0.2.1 ?_
 have A_1 : Arv Z h0 t k .byte (Int32.ofNat (2 * cap)) (own_ws xs ++ List.replicate ((own_ws ys).length + 0) (.int 0)) (.int 0) := BA.pad (pad_rep _ _ _)
 refine Runs.acopy (W := 0) (us := (own_ws ys)) (g j38 14 rfl) (wd hw 259 rfl) (wd hw 146 rfl) (wd hw 144 rfl) (wd hw 145 rfl) S0.2.1 A_1 rfl (by decide) (own_nn (by omega)) (own_nn (by omega)) (by rw [own_cl (n := (2 * ys.length)) (by omega)]; exact Nat.le_of_eq (Nat.zero_add _)) (by rw [own_cl (n := (2 * xs.length)) (by omega), own_cl (n := (2 * ys.length)) (by omega), own_cl (n := 2 * cap) (by omega)]; omega) (by rw [own_cl (n := (2 * ys.length)) (by omega), ← own_wsl]; exact (own_rng _ _).symm) (by rw [own_cl (n := (2 * xs.length)) (by omega), own_cl (n := (2 * ys.length)) (by omega)]; simp [own_wsl]) gt (Or.inl (mi 0 rfl)) rfl (by decide) rfl (by decide) ?_
 intro h_2 K_3 A_4
 have A_5 : Arv Z h_2 t k .byte (Int32.ofNat (2 * cap)) (own_ws (xs ++ ys)) (.int 0) := A_4.pad (fun i => by rw [own_cl (n := (2 * xs.length)) (by omega), own_cl (n := (2 * ys.length)) (by omega), own_wsa, ← own_app (own_ws xs) (own_ws ys) (.int 0) 0 i, own_wsl, own_wsl])
 refine Runs.goto (t := 43) (g j38 15 rfl) (by decide) ?_
 exact Runs.weak (D1 := []) (fun _ q => nomatch q) (Runs.retV (g j38 25 rfl) rfl (by decide) (by decide) ⟨rfl, K_3, A_5, rfl⟩)
theorem own_ps01 (hw : Wds Z a0) (n0 : Nat) (a t : Addr) (k : ClassId) (cap : Nat) (xs : List Int32) (h0 : Heap) (B0 : SBd Z h0 a t k cap xs) (s u : Addr) (k2 : ClassId) (ys : List Int32) (S0 : Stw Z h0 s u k2 ys) (hfit : xs.length + ys.length ≤ cap) (m0 : Nat) (hm : n0 ≤ m0 ∧ m0 ≤ h0.size) (ma : m0 ≤ a) (mt : m0 ≤ t) (mu : u ≠ t) (NS : Nat) (hNS : 2 * cap ≤ NS ∧ NS < 1000000) (cpt : Int32) (S_C : SC Z cpt) (hcpt : ¬ cpt = 0) (S_A : SA Z) (S_H : SH Z) (S_L : SL Z) (fm : Value) (hfm : fm.isRef = true) (S_F : SF Z fm) : Con 1 l Z EL_ n0 m36_ c36_ 3 none ⟨7, 1, NS, 109⟩ #[(.ref a), (.int (Int32.ofNat xs.length)), (.ref s)] [t] h0 (fun v h D' => v = none ∧ ∃ t' k', m0 ≤ t' ∧ Keep h0 h [a, t] ∧ Obj Z h a S10_ [(S2_, "value", "[B", (.ref t')), (S2_, "coder", "B", (.int 1)), (S2_, "count", "I", (.int (Int32.ofNat xs.length))), (S2_, S21_, "Z", (.int 0))] ∧ Arv Z h t' k' .byte (Int32.ofNat (2 * cap)) (own_ws (xs ++ ys)) (.int 0) ∧ Exa Z h t' "[B" ∧ D' = [t']) := by
 refine Con.of_runs (ls := #[vr a, vi (Int32.ofNat xs.length), vr s]) (by decide +kernel) (ef rfl rfl) ?_
 obtain ⟨BO, BA, BE, BL, hle, hcap⟩ := id B0
 have hat : a ≠ t := Exa.neArv BO.1 BA (wd hw 196 rfl)
 refine Runs.aloadN (g j36 0 rfl) rfl rfl ?_
 refine Runs.aloadN (g j36 1 rfl) rfl rfl ?_
 refine Runs.callVW (argsL := [(.ref s)]) (rest := []) (W := 0) (g j36 2 rfl) (wd hw 248 rfl) (declares_of (wd hw 249 rfl) (wd hw 252 rfl)) (fun s hZ => notFace_of_selects (args := #[]) (mvT hZ (wd hw 251 rfl))) (wd hw 251 rfl) (wd hw 249 rfl) (wd hw 252 rfl) (wd hw 205 rfl) (by decide) BO.1 pd_22 rfl rfl rfl rfl (by first | decide | (dsimp only; first | decide | omega)) (by first | decide | (dsimp only; first | decide | omega)) (by first | decide | (dsimp only; first | decide | omega)) (by first | decide | (dsimp only; first | decide | omega)) all0 (by decide) (own_ifw l Z a0 hw n0 a t k cap xs _ B0 s u k2 ys S0 NS hNS (Nat.le_trans hm.1 ma) (Nat.le_trans hm.1 hm.2) cpt S_C hcpt S_A S_H S_L fm hfm S_F) ?_
 rintro v h1 D1 ⟨rfl, t1, k1, g1, K1, B1, rfl⟩ hsz
 show Runs _ _ _ _ _ _ _ _ _ _ _ _ [t1, t] h1 1 (0 + NS) 5 _ []
 have S1 := S0.keep K1 (ninS (Exa.ne S0.1.1 BO.1 (by decide)) nin0) (ninS (Ne.symm (Exa.neArv BO.1 S0.2.1 (wd hw 196 rfl))) nin0)
 have m1 : m0 ≤ t1 := Nat.le_trans hm.2 g1
 refine Runs.aloadN (g j36 3 rfl) rfl rfl ?_
 refine Runs.aloadN (g j36 4 rfl) rfl rfl ?_
 refine Runs.getF (g j36 5 rfl) (host := "") (Or.inl (wd hw 209 rfl)) Via.refl (B1.1.fld (i := 0) rfl) ?_
 refine Runs.iloadN (g j36 6 rfl) rfl ?_
 refine Runs.aloadN (g j36 7 rfl) rfl rfl ?_
 refine Runs.getF (g j36 8 rfl) (host := "") (Or.inl (wd hw 211 rfl)) Via.refl (B1.1.fld (i := 1) rfl) ?_
 refine Runs.callVW (argsL := [(.ref t1), (.int (Int32.ofNat xs.length)), (.int 1)]) (rest := []) (W := 0) (g j36 9 rfl) (wd hw 254 rfl) (wd hw 255 rfl) (fun s hZ => notFace_of_selects (args := #[]) (mvT hZ (wd hw 257 rfl))) (wd hw 257 rfl) (wd hw 256 rfl) (wd hw 258 rfl) (wd hw 29 rfl) (by decide) S1.1.1 pd_23 rfl rfl rfl rfl (by first | decide | (dsimp only; first | decide | omega)) (by first | decide | (dsimp only; first | decide | omega)) (by first | decide | (dsimp only; first | decide | omega)) (by first | decide | (dsimp only; first | decide | omega)) (allS (mi 0 rfl) all0) (by decide) (own_gbw l Z a0 hw n0 t1 k1 cap xs _ B1.2.1 s u k2 ys S1 hfit hcap (Nat.le_trans hm.1 m1) cpt S_C hcpt) ?_
 rintro v h2 D1 ⟨rfl, K2, A2, rfl⟩ hsz
 show Runs _ _ _ _ _ _ _ _ _ _ _ _ [t1, t] h2 1 (0 + NS) 18 _ []
 have O_1 := (B1.1.keep K2 (ninS (Nat.ne_of_lt (Nat.lt_of_lt_of_le (Nat.lt_of_lt_of_le BO.lt (Nat.le_refl _)) g1)) nin0))
 refine Runs.weak (D1 := [t1]) (by simp) ?_
 exact Runs.retV (g j36 10 rfl) rfl (by first | decide | (dsimp only; first | decide | omega)) (by first | decide | (dsimp only; first | decide | omega)) ⟨rfl, t1, k1, m1, (((Keep.refl _ _).trans K1 (allS (Or.inl (mi 0 rfl)) all0)).trans K2 (allS (Or.inr (Nat.le_trans (Nat.le_refl _) g1)) all0)), O_1, A2, (B1.2.2.1.keep K2), rfl⟩
theorem own_axf01 (hw : Wds Z a0) (n0 : Nat) (a t : Addr) (k : ClassId) (cap : Nat) (xs : List Int32) (h0 : Heap) (B0 : SBd Z h0 a t k cap xs) (s u : Addr) (k2 : ClassId) (ys : List Int32) (S0 : Stw Z h0 s u k2 ys) (hfit : xs.length + ys.length ≤ cap) (m0 : Nat) (hm : n0 ≤ m0 ∧ m0 ≤ h0.size) (ma : m0 ≤ a) (mt : m0 ≤ t) (mu : u ≠ t) (NS : Nat) (hNS : 2 * cap ≤ NS ∧ NS < 100000) (cpt : Int32) (S_C : SC Z cpt) (hcpt : ¬ cpt = 0) (S_A : SA Z) (S_H : SH Z) (S_L : SL Z) (fm : Value) (hfm : fm.isRef = true) (S_F : SF Z fm) : Con 1 l Z EL_ n0 m32_ c32_ 3 (some (.object S2_)) ⟨8, 1, NS, 140⟩ #[(.ref a), (.ref s)] [t] h0 (fun v h D' => v = some (.ref a) ∧ ∃ t' k', m0 ≤ t' ∧ Keep h0 h [a, t] ∧ SBx Z h a t' k' cap (xs ++ ys) ∧ D' = [t']) := by
 refine Con.of_runs (ls := #[vr a, vr s, .unset]) (by decide +kernel) (ef rfl rfl) ?_
 obtain ⟨BO, BA, BE, BL, hle, hcap⟩ := id B0
 have hys := S0.2.2.2
 refine Runs.aloadN (g j32 0 rfl) rfl rfl ?_
 refine Runs.nnullY (t := 9) (g j32 1 rfl) (by decide) ?_
 refine Runs.aloadN (g j32 2 rfl) rfl rfl ?_
 refine Runs.callVW (argsL := []) (rest := []) (W := 0) (g j32 3 rfl) (wd hw 226 rfl) (wd hw 227 rfl) (fun s hZ => notFace_of_selects (args := #[]) (mvT hZ (wd hw 229 rfl))) (wd hw 229 rfl) (wd hw 228 rfl) (wd hw 230 rfl) (wd hw 29 rfl) (by decide) S0.1.1 pd_4 rfl rfl rfl rfl (by first | decide | (dsimp only; first | decide | omega)) (by first | decide | (dsimp only; first | decide | omega)) (by first | decide | (dsimp only; first | decide | omega)) (by first | decide | (dsimp only; first | decide | omega)) all0 (by decide) (own_lenw l Z a0 hw n0 s u k2 ys _ S0 cpt S_C hcpt) ?_
 rintro v h1 D1 ⟨rfl, rfl, rfl⟩ hsz
 show Runs _ _ _ _ _ _ _ _ _ _ _ _ [t] h0 0 0 13 _ [(.int (Int32.ofNat ys.length))]
 refine Runs.istoreN (ls' := #[vr a, vr s, vi (Int32.ofNat ys.length)]) (g j32 4 rfl) rfl ?_
 refine Runs.aloadN (g j32 5 rfl) rfl rfl ?_
 refine Runs.aloadN (g j32 6 rfl) rfl rfl ?_
 refine Runs.getF (g j32 7 rfl) (host := "") (Or.inl (wd hw 236 rfl)) Via.refl (BO.fld (i := 2) rfl) ?_
 refine Runs.iloadN (g j32 8 rfl) rfl ?_
 refine Runs.iadd (z := (Int32.ofNat (xs.length + ys.length))) (g j32 9 rfl) (own_add (a := xs.length) (b := ys.length) (by omega)) ?_
 refine Runs.callVW (argsL := [(.int (Int32.ofNat (xs.length + ys.length)))]) (rest := []) (W := 0) (g j32 10 rfl) (wd hw 238 rfl) (declares_of (wd hw 239 rfl) (wd hw 242 rfl)) (fun s hZ => notFace_of_selects (args := #[]) (mvT hZ (wd hw 241 rfl))) (wd hw 241 rfl) (wd hw 239 rfl) (wd hw 242 rfl) (wd hw 205 rfl) (by decide) BO.1 pd_8 rfl rfl rfl rfl (by first | decide | (dsimp only; first | decide | omega)) (by first | decide | (dsimp only; first | decide | omega)) (by first | decide | (dsimp only; first | decide | omega)) (by first | decide | (dsimp only; first | decide | omega)) all0 (by decide) (own_ecf l Z a0 hw n0 a t k cap xs _ B0 (xs.length + ys.length) (by omega)) ?_
 rintro v h1 D1 ⟨rfl, rfl, rfl⟩ hsz
 show Runs _ _ _ _ _ _ _ _ _ _ _ _ [t] h0 0 0 24 _ []
 refine Runs.aloadN (g j32 11 rfl) rfl rfl ?_
 refine Runs.aloadN (g j32 12 rfl) rfl rfl ?_
 refine Runs.getF (g j32 13 rfl) (host := "") (Or.inl (wd hw 236 rfl)) Via.refl (BO.fld (i := 2) rfl) ?_
 refine Runs.aloadN (g j32 14 rfl) rfl rfl ?_
 refine Runs.callVW (argsL := [(.int (Int32.ofNat xs.length)), (.ref s)]) (rest := []) (W := 0) (g j32 15 rfl) (wd hw 243 rfl) (declares_of (wd hw 244 rfl) (wd hw 247 rfl)) (fun s hZ => notFace_of_selects (args := #[]) (mvT hZ (wd hw 246 rfl))) (wd hw 246 rfl) (wd hw 244 rfl) (wd hw 247 rfl) (wd hw 205 rfl) (by decide) B0.1.1 pd_24 rfl rfl rfl rfl (by first | decide | (dsimp only; first | decide | omega)) (by first | decide | (dsimp only; first | decide | omega)) (by first | decide | (dsimp only; first | decide | omega)) (by first | decide | (dsimp only; first | decide | omega)) (allS (mi 0 rfl) all0) (by decide) (own_ps01 l Z a0 hw n0 a t k cap xs _ B0 s u k2 ys S0 (by omega) m0 ⟨hm.1, Nat.le_trans hm.2 (Nat.le_refl _)⟩ ma mt mu NS (by omega) cpt S_C hcpt S_A S_H S_L fm hfm S_F) ?_
 rintro v h1 D1 ⟨rfl, t1, k1, g1, K1, O1, A1, E1, rfl⟩ hsz
 show Runs _ _ _ _ _ _ _ _ _ _ _ _ [t1, t] h1 1 (0 + NS) 33 _ []
 have ha1 : a ≠ t1 := Exa.neArv O1.1 A1 (wd hw 196 rfl)
 refine Runs.aloadN (g j32 16 rfl) rfl rfl ?_
 refine Runs.dup (g j32 17 rfl) rfl ?_
 refine Runs.getF (g j32 18 rfl) (host := "") (Or.inl (wd hw 236 rfl)) Via.refl (O1.fld (i := 2) rfl) ?_
 refine Runs.iloadN (g j32 19 rfl) rfl ?_
 refine Runs.iadd (z := (Int32.ofNat (xs.length + ys.length))) (g j32 20 rfl) (own_add (a := xs.length) (b := ys.length) (by omega)) ?_
 refine Runs.putF (i := 2) (ty := .int) (g j32 21 rfl) (host := "") (Or.inl (wd hw 236 rfl)) Via.refl O1 rfl (lay_2 hw) rfl (Or.inl (wd hw 237 rfl)) (wd hw 196 rfl) (by decide) rfl rfl (Nat.le_trans hm.1 ma) (Or.inr ⟨by decide, by decide⟩) ?_
 intro h_1 K_2 (O_3 : Obj Z h_1 a S10_ [(S2_, "value", "[B", (.ref t1)), (S2_, "coder", "B", (.int 1)), (S2_, "count", "I", (.int (Int32.ofNat (xs.length + ys.length)))), (S2_, S21_, "Z", (.int 0))])
 refine Runs.aloadN (g j32 22 rfl) rfl rfl ?_
 have A_4 := (A1.keep K_2 (ninS (Ne.symm ha1) nin0))
 refine Runs.weak (D1 := [t1]) (by simp) ?_
 exact Runs.retA (g j32 23 rfl) rfl rfl rfl (by first | decide | (dsimp only; first | decide | omega)) (by first | decide | (dsimp only; first | decide | omega)) ⟨rfl, t1, k1, g1, (((Keep.refl _ _).trans K1 (allS (Or.inl (mi 0 rfl)) (allS (Or.inl (mi 1 rfl)) all0))).trans K_2 (allS (Or.inl (mi 0 rfl)) all0)), Or.inr ⟨by rw [List.length_append]; exact O_3, A_4, (E1.keep K_2), own_cha_app (own_chl BL) S0.2.2.1, by rw [List.length_append]; omega, by omega⟩, rfl⟩
theorem own_ps10 (hw : Wds Z a0) (n0 : Nat) (a t : Addr) (k : ClassId) (cap : Nat) (xs : List Int32) (h0 : Heap) (B0 : SBw Z h0 a t k cap xs) (s u : Addr) (k2 : ClassId) (ys : List Int32) (S0 : Str Z h0 s u k2 ys) (hfit : xs.length + ys.length ≤ cap) (m0 : Nat) (hm : n0 ≤ m0 ∧ m0 ≤ h0.size) (ma : m0 ≤ a) (mt : m0 ≤ t) (mu : u ≠ t) (NS : Nat) (hNS : 2 * cap ≤ NS ∧ NS < 1000000) (cpt : Int32) (S_C : SC Z cpt) (hcpt : ¬ cpt = 0) (S_A : SA Z) (S_H : SH Z) (S_L : SL Z) (fm : Value) (hfm : fm.isRef = true) (S_F : SF Z fm) : Con 1 l Z EL_ n0 m36_ c36_ 3 none ⟨6, 1, NS, 96⟩ #[(.ref a), (.int (Int32.ofNat xs.length)), (.ref s)] [t] h0 (fun v h D' => v = none ∧ ∃ t' k', m0 ≤ t' ∧ Keep h0 h [a, t] ∧ Obj Z h a S10_ [(S2_, "value", "[B", (.ref t')), (S2_, "coder", "B", (.int 1)), (S2_, "count", "I", (.int (Int32.ofNat xs.length))), (S2_, S21_, "Z", (.int 0))] ∧ Arv Z h t' k' .byte (Int32.ofNat (2 * cap)) (own_ws (xs ++ ys)) (.int 0) ∧ Exa Z h t' "[B" ∧ D' = [t']) := by
 refine Con.of_runs (ls := #[vr a, vi (Int32.ofNat xs.length), vr s]) (by decide +kernel) (ef rfl rfl) ?_
 obtain ⟨BO, BA, BE, BL, hle, hcap⟩ := id B0
 have hat : a ≠ t := Exa.neArv BO.1 BA (wd hw 196 rfl)
 refine Runs.aloadN (g j36 0 rfl) rfl rfl ?_
 refine Runs.aloadN (g j36 1 rfl) rfl rfl ?_
 refine Runs.callVW (argsL := [(.ref s)]) (rest := []) (W := 0) (g j36 2 rfl) (wd hw 248 rfl) (declares_of (wd hw 249 rfl) (wd hw 252 rfl)) (fun s hZ => notFace_of_selects (args := #[]) (mvT hZ (wd hw 251 rfl))) (wd hw 251 rfl) (wd hw 249 rfl) (wd hw 252 rfl) (wd hw 205 rfl) (by decide) BO.1 pd_22 rfl rfl rfl rfl (by first | decide | (dsimp only; first | decide | omega)) (by first | decide | (dsimp only; first | decide | omega)) (by first | decide | (dsimp only; first | decide | omega)) (by first | decide | (dsimp only; first | decide | omega)) all0 (by decide) (own_if10 l Z a0 hw n0 a t k cap xs _ B0 s u k2 ys S0 cpt S_C hcpt) ?_
 rintro v h1 D1 ⟨rfl, rfl, rfl⟩ hsz
 show Runs _ _ _ _ _ _ _ _ _ _ _ _ [t] h0 0 0 5 _ []
 refine Runs.aloadN (g j36 3 rfl) rfl rfl ?_
 refine Runs.aloadN (g j36 4 rfl) rfl rfl ?_
 refine Runs.getF (g j36 5 rfl) (host := "") (Or.inl (wd hw 209 rfl)) Via.refl (BO.fld (i := 0) rfl) ?_
 refine Runs.iloadN (g j36 6 rfl) rfl ?_
 refine Runs.aloadN (g j36 7 rfl) rfl rfl ?_
 refine Runs.getF (g j36 8 rfl) (host := "") (Or.inl (wd hw 211 rfl)) Via.refl (BO.fld (i := 1) rfl) ?_
 refine Runs.callVW (argsL := [(.ref t), (.int (Int32.ofNat xs.length)), (.int 1)]) (rest := []) (W := 0) (g j36 9 rfl) (wd hw 254 rfl) (wd hw 255 rfl) (fun s hZ => notFace_of_selects (args := #[]) (mvT hZ (wd hw 257 rfl))) (wd hw 257 rfl) (wd hw 256 rfl) (wd hw 258 rfl) (wd hw 29 rfl) (by decide) S0.1.1 pd_23 rfl rfl rfl rfl (by first | decide | (dsimp only; first | decide | omega)) (by first | decide | (dsimp only; first | decide | omega)) (by first | decide | (dsimp only; first | decide | omega)) (by first | decide | (dsimp only; first | decide | omega)) (allS (mi 0 rfl) all0) (by decide) (own_gb10 l Z a0 hw n0 t k cap xs _ BA s u k2 ys S0 mu hfit hcap (Nat.le_trans hm.1 mt) cpt S_C hcpt S_A S_H S_L fm hfm S_F) ?_
 rintro v h2 D1 ⟨rfl, K2, A2, rfl⟩ hsz
 show Runs _ _ _ _ _ _ _ _ _ _ _ _ [t] h2 0 0 18 _ []
 have O_1 := (BO.keep K2 (ninS hat nin0))
 exact Runs.retV (g j36 10 rfl) rfl (by first | decide | (dsimp only; first | decide | omega)) (by first | decide | (dsimp only; first | decide | omega)) ⟨rfl, t, k, mt, ((Keep.refl _ _).trans K2 (allS (Or.inl (mi 1 rfl)) all0)), O_1, A2, (BE.keep K2), rfl⟩
theorem own_axf10 (hw : Wds Z a0) (n0 : Nat) (a t : Addr) (k : ClassId) (cap : Nat) (xs : List Int32) (h0 : Heap) (B0 : SBw Z h0 a t k cap xs) (s u : Addr) (k2 : ClassId) (ys : List Int32) (S0 : Str Z h0 s u k2 ys) (hfit : xs.length + ys.length ≤ cap) (m0 : Nat) (hm : n0 ≤ m0 ∧ m0 ≤ h0.size) (ma : m0 ≤ a) (mt : m0 ≤ t) (mu : u ≠ t) (NS : Nat) (hNS : 2 * cap ≤ NS ∧ NS < 100000) (cpt : Int32) (S_C : SC Z cpt) (hcpt : ¬ cpt = 0) (S_A : SA Z) (S_H : SH Z) (S_L : SL Z) (fm : Value) (hfm : fm.isRef = true) (S_F : SF Z fm) : Con 1 l Z EL_ n0 m32_ c32_ 3 (some (.object S2_)) ⟨8, 1, NS, 140⟩ #[(.ref a), (.ref s)] [t] h0 (fun v h D' => v = some (.ref a) ∧ ∃ t' k', m0 ≤ t' ∧ Keep h0 h [a, t] ∧ SBx Z h a t' k' cap (xs ++ ys) ∧ D' = [t']) := by
 refine Con.of_runs (ls := #[vr a, vr s, .unset]) (by decide +kernel) (ef rfl rfl) ?_
 obtain ⟨BO, BA, BE, BL, hle, hcap⟩ := id B0
 have hys := S0.2.2.2
 refine Runs.aloadN (g j32 0 rfl) rfl rfl ?_
 refine Runs.nnullY (t := 9) (g j32 1 rfl) (by decide) ?_
 refine Runs.aloadN (g j32 2 rfl) rfl rfl ?_
 refine Runs.callVW (argsL := []) (rest := []) (W := 0) (g j32 3 rfl) (wd hw 226 rfl) (wd hw 227 rfl) (fun s hZ => notFace_of_selects (args := #[]) (mvT hZ (wd hw 229 rfl))) (wd hw 229 rfl) (wd hw 228 rfl) (wd hw 230 rfl) (wd hw 29 rfl) (by decide) S0.1.1 pd_4 rfl rfl rfl rfl (by first | decide | (dsimp only; first | decide | omega)) (by first | decide | (dsimp only; first | decide | omega)) (by first | decide | (dsimp only; first | decide | omega)) (by first | decide | (dsimp only; first | decide | omega)) all0 (by decide) (own_len l Z a0 hw n0 s u k2 ys _ S0 cpt S_C hcpt) ?_
 rintro v h1 D1 ⟨rfl, rfl, rfl⟩ hsz
 show Runs _ _ _ _ _ _ _ _ _ _ _ _ [t] h0 0 0 13 _ [(.int (Int32.ofNat ys.length))]
 refine Runs.istoreN (ls' := #[vr a, vr s, vi (Int32.ofNat ys.length)]) (g j32 4 rfl) rfl ?_
 refine Runs.aloadN (g j32 5 rfl) rfl rfl ?_
 refine Runs.aloadN (g j32 6 rfl) rfl rfl ?_
 refine Runs.getF (g j32 7 rfl) (host := "") (Or.inl (wd hw 236 rfl)) Via.refl (BO.fld (i := 2) rfl) ?_
 refine Runs.iloadN (g j32 8 rfl) rfl ?_
 refine Runs.iadd (z := (Int32.ofNat (xs.length + ys.length))) (g j32 9 rfl) (own_add (a := xs.length) (b := ys.length) (by omega)) ?_
 refine Runs.callVW (argsL := [(.int (Int32.ofNat (xs.length + ys.length)))]) (rest := []) (W := 0) (g j32 10 rfl) (wd hw 238 rfl) (declares_of (wd hw 239 rfl) (wd hw 242 rfl)) (fun s hZ => notFace_of_selects (args := #[]) (mvT hZ (wd hw 241 rfl))) (wd hw 241 rfl) (wd hw 239 rfl) (wd hw 242 rfl) (wd hw 205 rfl) (by decide) BO.1 pd_8 rfl rfl rfl rfl (by first | decide | (dsimp only; first | decide | omega)) (by first | decide | (dsimp only; first | decide | omega)) (by first | decide | (dsimp only; first | decide | omega)) (by first | decide | (dsimp only; first | decide | omega)) all0 (by decide) (own_ecfw l Z a0 hw n0 a t k cap xs _ B0 (xs.length + ys.length) (by omega)) ?_
 rintro v h1 D1 ⟨rfl, rfl, rfl⟩ hsz
 show Runs _ _ _ _ _ _ _ _ _ _ _ _ [t] h0 0 0 24 _ []
 refine Runs.aloadN (g j32 11 rfl) rfl rfl ?_
 refine Runs.aloadN (g j32 12 rfl) rfl rfl ?_
 refine Runs.getF (g j32 13 rfl) (host := "") (Or.inl (wd hw 236 rfl)) Via.refl (BO.fld (i := 2) rfl) ?_
 refine Runs.aloadN (g j32 14 rfl) rfl rfl ?_
 refine Runs.callVW (argsL := [(.int (Int32.ofNat xs.length)), (.ref s)]) (rest := []) (W := 0) (g j32 15 rfl) (wd hw 243 rfl) (declares_of (wd hw 244 rfl) (wd hw 247 rfl)) (fun s hZ => notFace_of_selects (args := #[]) (mvT hZ (wd hw 246 rfl))) (wd hw 246 rfl) (wd hw 244 rfl) (wd hw 247 rfl) (wd hw 205 rfl) (by decide) B0.1.1 pd_24 rfl rfl rfl rfl (by first | decide | (dsimp only; first | decide | omega)) (by first | decide | (dsimp only; first | decide | omega)) (by first | decide | (dsimp only; first | decide | omega)) (by first | decide | (dsimp only; first | decide | omega)) (allS (mi 0 rfl) all0) (by decide) (own_ps10 l Z a0 hw n0 a t k cap xs _ B0 s u k2 ys S0 (by omega) m0 ⟨hm.1, Nat.le_trans hm.2 (Nat.le_refl _)⟩ ma mt mu NS (by omega) cpt S_C hcpt S_A S_H S_L fm hfm S_F) ?_
 rintro v h1 D1 ⟨rfl, t1, k1, g1, K1, O1, A1, E1, rfl⟩ hsz
 show Runs _ _ _ _ _ _ _ _ _ _ _ _ [t1, t] h1 1 (0 + NS) 33 _ []
 have ha1 : a ≠ t1 := Exa.neArv O1.1 A1 (wd hw 196 rfl)
 refine Runs.aloadN (g j32 16 rfl) rfl rfl ?_
 refine Runs.dup (g j32 17 rfl) rfl ?_
 refine Runs.getF (g j32 18 rfl) (host := "") (Or.inl (wd hw 236 rfl)) Via.refl (O1.fld (i := 2) rfl) ?_
 refine Runs.iloadN (g j32 19 rfl) rfl ?_
 refine Runs.iadd (z := (Int32.ofNat (xs.length + ys.length))) (g j32 20 rfl) (own_add (a := xs.length) (b := ys.length) (by omega)) ?_
 refine Runs.putF (i := 2) (ty := .int) (g j32 21 rfl) (host := "") (Or.inl (wd hw 236 rfl)) Via.refl O1 rfl (lay_2 hw) rfl (Or.inl (wd hw 237 rfl)) (wd hw 196 rfl) (by decide) rfl rfl (Nat.le_trans hm.1 ma) (Or.inr ⟨by decide, by decide⟩) ?_
 intro h_1 K_2 (O_3 : Obj Z h_1 a S10_ [(S2_, "value", "[B", (.ref t1)), (S2_, "coder", "B", (.int 1)), (S2_, "count", "I", (.int (Int32.ofNat (xs.length + ys.length)))), (S2_, S21_, "Z", (.int 0))])
 refine Runs.aloadN (g j32 22 rfl) rfl rfl ?_
 have A_4 := (A1.keep K_2 (ninS (Ne.symm ha1) nin0))
 refine Runs.weak (D1 := [t1]) (by simp) ?_
 exact Runs.retA (g j32 23 rfl) rfl rfl rfl (by first | decide | (dsimp only; first | decide | omega)) (by first | decide | (dsimp only; first | decide | omega)) ⟨rfl, t1, k1, g1, (((Keep.refl _ _).trans K1 (allS (Or.inl (mi 0 rfl)) (allS (Or.inl (mi 1 rfl)) all0))).trans K_2 (allS (Or.inl (mi 0 rfl)) all0)), Or.inr ⟨by rw [List.length_append]; exact O_3, A_4, (E1.keep K_2), own_cha_app BL (own_chl S0.2.2.1), by rw [List.length_append]; omega, by omega⟩, rfl⟩
theorem own_ps11 (hw : Wds Z a0) (n0 : Nat) (a t : Addr) (k : ClassId) (cap : Nat) (xs : List Int32) (h0 : Heap) (B0 : SBw Z h0 a t k cap xs) (s u : Addr) (k2 : ClassId) (ys : List Int32) (S0 : Stw Z h0 s u k2 ys) (hfit : xs.length + ys.length ≤ cap) (m0 : Nat) (hm : n0 ≤ m0 ∧ m0 ≤ h0.size) (ma : m0 ≤ a) (mt : m0 ≤ t) (mu : u ≠ t) (NS : Nat) (hNS : 2 * cap ≤ NS ∧ NS < 1000000) (cpt : Int32) (S_C : SC Z cpt) (hcpt : ¬ cpt = 0) (S_A : SA Z) (S_H : SH Z) (S_L : SL Z) (fm : Value) (hfm : fm.isRef = true) (S_F : SF Z fm) : Con 1 l Z EL_ n0 m36_ c36_ 3 none ⟨2, 1, NS, 53⟩ #[(.ref a), (.int (Int32.ofNat xs.length)), (.ref s)] [t] h0 (fun v h D' => v = none ∧ ∃ t' k', m0 ≤ t' ∧ Keep h0 h [a, t] ∧ Obj Z h a S10_ [(S2_, "value", "[B", (.ref t')), (S2_, "coder", "B", (.int 1)), (S2_, "count", "I", (.int (Int32.ofNat xs.length))), (S2_, S21_, "Z", (.int 0))] ∧ Arv Z h t' k' .byte (Int32.ofNat (2 * cap)) (own_ws (xs ++ ys)) (.int 0) ∧ Exa Z h t' "[B" ∧ D' = [t']) := by
 refine Con.of_runs (ls := #[vr a, vi (Int32.ofNat xs.length), vr s]) (by decide +kernel) (ef rfl rfl) ?_
 obtain ⟨BO, BA, BE, BL, hle, hcap⟩ := id B0
 have hat : a ≠ t := Exa.neArv BO.1 BA (wd hw 196 rfl)
 refine Runs.aloadN (g j36 0 rfl) rfl rfl ?_
 refine Runs.aloadN (g j36 1 rfl) rfl rfl ?_
 refine Runs.callVW (argsL := [(.ref s)]) (rest := []) (W := 0) (g j36 2 rfl) (wd hw 248 rfl) (declares_of (wd hw 249 rfl) (wd hw 252 rfl)) (fun s hZ => notFace_of_selects (args := #[]) (mvT hZ (wd hw 251 rfl))) (wd hw 251 rfl) (wd hw 249 rfl) (wd hw 252 rfl) (wd hw 205 rfl) (by decide) BO.1 pd_22 rfl rfl rfl rfl (by first | decide | (dsimp only; first | decide | omega)) (by first | decide | (dsimp only; first | decide | omega)) (by first | decide | (dsimp only; first | decide | omega)) (by first | decide | (dsimp only; first | decide | omega)) all0 (by decide) (own_if11 l Z a0 hw n0 a t k cap xs _ B0 s u k2 ys S0 cpt S_C hcpt) ?_
 rintro v h1 D1 ⟨rfl, rfl, rfl⟩ hsz
 show Runs _ _ _ _ _ _ _ _ _ _ _ _ [t] h0 0 0 5 _ []
 refine Runs.aloadN (g j36 3 rfl) rfl rfl ?_
 refine Runs.aloadN (g j36 4 rfl) rfl rfl ?_
 refine Runs.getF (g j36 5 rfl) (host := "") (Or.inl (wd hw 209 rfl)) Via.refl (BO.fld (i := 0) rfl) ?_
 refine Runs.iloadN (g j36 6 rfl) rfl ?_
 refine Runs.aloadN (g j36 7 rfl) rfl rfl ?_
 refine Runs.getF (g j36 8 rfl) (host := "") (Or.inl (wd hw 211 rfl)) Via.refl (BO.fld (i := 1) rfl) ?_
 refine Runs.callVW (argsL := [(.ref t), (.int (Int32.ofNat xs.length)), (.int 1)]) (rest := []) (W := 0) (g j36 9 rfl) (wd hw 254 rfl) (wd hw 255 rfl) (fun s hZ => notFace_of_selects (args := #[]) (mvT hZ (wd hw 257 rfl))) (wd hw 257 rfl) (wd hw 256 rfl) (wd hw 258 rfl) (wd hw 29 rfl) (by decide) S0.1.1 pd_23 rfl rfl rfl rfl (by first | decide | (dsimp only; first | decide | omega)) (by first | decide | (dsimp only; first | decide | omega)) (by first | decide | (dsimp only; first | decide | omega)) (by first | decide | (dsimp only; first | decide | omega)) (allS (mi 0 rfl) all0) (by decide) (own_gbw l Z a0 hw n0 t k cap xs _ BA s u k2 ys S0 hfit hcap (Nat.le_trans hm.1 mt) cpt S_C hcpt) ?_
 rintro v h2 D1 ⟨rfl, K2, A2, rfl⟩ hsz
 show Runs _ _ _ _ _ _ _ _ _ _ _ _ [t] h2 0 0 18 _ []
 have O_1 := (BO.keep K2 (ninS hat nin0))
 exact Runs.retV (g j36 10 rfl) rfl (by first | decide | (dsimp only; first | decide | omega)) (by first | decide | (dsimp only; first | decide | omega)) ⟨rfl, t, k, mt, ((Keep.refl _ _).trans K2 (allS (Or.inl (mi 1 rfl)) all0)), O_1, A2, (BE.keep K2), rfl⟩
theorem own_axf11 (hw : Wds Z a0) (n0 : Nat) (a t : Addr) (k : ClassId) (cap : Nat) (xs : List Int32) (h0 : Heap) (B0 : SBw Z h0 a t k cap xs) (s u : Addr) (k2 : ClassId) (ys : List Int32) (S0 : Stw Z h0 s u k2 ys) (hfit : xs.length + ys.length ≤ cap) (m0 : Nat) (hm : n0 ≤ m0 ∧ m0 ≤ h0.size) (ma : m0 ≤ a) (mt : m0 ≤ t) (mu : u ≠ t) (NS : Nat) (hNS : 2 * cap ≤ NS ∧ NS < 100000) (cpt : Int32) (S_C : SC Z cpt) (hcpt : ¬ cpt = 0) (S_A : SA Z) (S_H : SH Z) (S_L : SL Z) (fm : Value) (hfm : fm.isRef = true) (S_F : SF Z fm) : Con 1 l Z EL_ n0 m32_ c32_ 3 (some (.object S2_)) ⟨8, 1, NS, 140⟩ #[(.ref a), (.ref s)] [t] h0 (fun v h D' => v = some (.ref a) ∧ ∃ t' k', m0 ≤ t' ∧ Keep h0 h [a, t] ∧ SBx Z h a t' k' cap (xs ++ ys) ∧ D' = [t']) := by
 refine Con.of_runs (ls := #[vr a, vr s, .unset]) (by decide +kernel) (ef rfl rfl) ?_
 obtain ⟨BO, BA, BE, BL, hle, hcap⟩ := id B0
 have hys := S0.2.2.2
 refine Runs.aloadN (g j32 0 rfl) rfl rfl ?_
 refine Runs.nnullY (t := 9) (g j32 1 rfl) (by decide) ?_
 refine Runs.aloadN (g j32 2 rfl) rfl rfl ?_
 refine Runs.callVW (argsL := []) (rest := []) (W := 0) (g j32 3 rfl) (wd hw 226 rfl) (wd hw 227 rfl) (fun s hZ => notFace_of_selects (args := #[]) (mvT hZ (wd hw 229 rfl))) (wd hw 229 rfl) (wd hw 228 rfl) (wd hw 230 rfl) (wd hw 29 rfl) (by decide) S0.1.1 pd_4 rfl rfl rfl rfl (by first | decide | (dsimp only; first | decide | omega)) (by first | decide | (dsimp only; first | decide | omega)) (by first | decide | (dsimp only; first | decide | omega)) (by first | decide | (dsimp only; first | decide | omega)) all0 (by decide) (own_lenw l Z a0 hw n0 s u k2 ys _ S0 cpt S_C hcpt) ?_
 rintro v h1 D1 ⟨rfl, rfl, rfl⟩ hsz
 show Runs _ _ _ _ _ _ _ _ _ _ _ _ [t] h0 0 0 13 _ [(.int (Int32.ofNat ys.length))]
 refine Runs.istoreN (ls' := #[vr a, vr s, vi (Int32.ofNat ys.length)]) (g j32 4 rfl) rfl ?_
 refine Runs.aloadN (g j32 5 rfl) rfl rfl ?_
 refine Runs.aloadN (g j32 6 rfl) rfl rfl ?_
 refine Runs.getF (g j32 7 rfl) (host := "") (Or.inl (wd hw 236 rfl)) Via.refl (BO.fld (i := 2) rfl) ?_
 refine Runs.iloadN (g j32 8 rfl) rfl ?_
 refine Runs.iadd (z := (Int32.ofNat (xs.length + ys.length))) (g j32 9 rfl) (own_add (a := xs.length) (b := ys.length) (by omega)) ?_
 refine Runs.callVW (argsL := [(.int (Int32.ofNat (xs.length + ys.length)))]) (rest := []) (W := 0) (g j32 10 rfl) (wd hw 238 rfl) (declares_of (wd hw 239 rfl) (wd hw 242 rfl)) (fun s hZ => notFace_of_selects (args := #[]) (mvT hZ (wd hw 241 rfl))) (wd hw 241 rfl) (wd hw 239 rfl) (wd hw 242 rfl) (wd hw 205 rfl) (by decide) BO.1 pd_8 rfl rfl rfl rfl (by first | decide | (dsimp only; first | decide | omega)) (by first | decide | (dsimp only; first | decide | omega)) (by first | decide | (dsimp only; first | decide | omega)) (by first | decide | (dsimp only; first | decide | omega)) all0 (by decide) (own_ecfw l Z a0 hw n0 a t k cap xs _ B0 (xs.length + ys.length) (by omega)) ?_
 rintro v h1 D1 ⟨rfl, rfl, rfl⟩ hsz
 show Runs _ _ _ _ _ _ _ _ _ _ _ _ [t] h0 0 0 24 _ []
 refine Runs.aloadN (g j32 11 rfl) rfl rfl ?_
 refine Runs.aloadN (g j32 12 rfl) rfl rfl ?_
 refine Runs.getF (g j32 13 rfl) (host := "") (Or.inl (wd hw 236 rfl)) Via.refl (BO.fld (i := 2) rfl) ?_
 refine Runs.aloadN (g j32 14 rfl) rfl rfl ?_
 refine Runs.callVW (argsL := [(.int (Int32.ofNat xs.length)), (.ref s)]) (rest := []) (W := 0) (g j32 15 rfl) (wd hw 243 rfl) (declares_of (wd hw 244 rfl) (wd hw 247 rfl)) (fun s hZ => notFace_of_selects (args := #[]) (mvT hZ (wd hw 246 rfl))) (wd hw 246 rfl) (wd hw 244 rfl) (wd hw 247 rfl) (wd hw 205 rfl) (by decide) B0.1.1 pd_24 rfl rfl rfl rfl (by first | decide | (dsimp only; first | decide | omega)) (by first | decide | (dsimp only; first | decide | omega)) (by first | decide | (dsimp only; first | decide | omega)) (by first | decide | (dsimp only; first | decide | omega)) (allS (mi 0 rfl) all0) (by decide) (own_ps11 l Z a0 hw n0 a t k cap xs _ B0 s u k2 ys S0 (by omega) m0 ⟨hm.1, Nat.le_trans hm.2 (Nat.le_refl _)⟩ ma mt mu NS (by omega) cpt S_C hcpt S_A S_H S_L fm hfm S_F) ?_
 rintro v h1 D1 ⟨rfl, t1, k1, g1, K1, O1, A1, E1, rfl⟩ hsz
 show Runs _ _ _ _ _ _ _ _ _ _ _ _ [t1, t] h1 1 (0 + NS) 33 _ []
 have ha1 : a ≠ t1 := Exa.neArv O1.1 A1 (wd hw 196 rfl)
 refine Runs.aloadN (g j32 16 rfl) rfl rfl ?_
 refine Runs.dup (g j32 17 rfl) rfl ?_
 refine Runs.getF (g j32 18 rfl) (host := "") (Or.inl (wd hw 236 rfl)) Via.refl (O1.fld (i := 2) rfl) ?_
 refine Runs.iloadN (g j32 19 rfl) rfl ?_
 refine Runs.iadd (z := (Int32.ofNat (xs.length + ys.length))) (g j32 20 rfl) (own_add (a := xs.length) (b := ys.length) (by omega)) ?_
 refine Runs.putF (i := 2) (ty := .int) (g j32 21 rfl) (host := "") (Or.inl (wd hw 236 rfl)) Via.refl O1 rfl (lay_2 hw) rfl (Or.inl (wd hw 237 rfl)) (wd hw 196 rfl) (by decide) rfl rfl (Nat.le_trans hm.1 ma) (Or.inr ⟨by decide, by decide⟩) ?_
 intro h_1 K_2 (O_3 : Obj Z h_1 a S10_ [(S2_, "value", "[B", (.ref t1)), (S2_, "coder", "B", (.int 1)), (S2_, "count", "I", (.int (Int32.ofNat (xs.length + ys.length)))), (S2_, S21_, "Z", (.int 0))])
 refine Runs.aloadN (g j32 22 rfl) rfl rfl ?_
 have A_4 := (A1.keep K_2 (ninS (Ne.symm ha1) nin0))
 refine Runs.weak (D1 := [t1]) (by simp) ?_
 exact Runs.retA (g j32 23 rfl) rfl rfl rfl (by first | decide | (dsimp only; first | decide | omega)) (by first | decide | (dsimp only; first | decide | omega)) ⟨rfl, t1, k1, g1, (((Keep.refl _ _).trans K1 (allS (Or.inl (mi 0 rfl)) (allS (Or.inl (mi 1 rfl)) all0))).trans K_2 (allS (Or.inl (mi 0 rfl)) all0)), Or.inr ⟨by rw [List.length_append]; exact O_3, A_4, (E1.keep K_2), own_cha_app BL S0.2.2.1, by rw [List.length_append]; omega, by omega⟩, rfl⟩
theorem own_axf (hw : Wds Z a0) (n0 : Nat) (a t : Addr) (k : ClassId) (cap : Nat) (xs : List Int32) (h0 : Heap) (B0 : SBx Z h0 a t k cap xs) (s u : Addr) (k2 : ClassId) (ys : List Int32) (S0 : Sy Z h0 s u k2 ys) (hfit : xs.length + ys.length ≤ cap) (m0 : Nat) (hm : n0 ≤ m0 ∧ m0 ≤ h0.size) (ma : m0 ≤ a) (mt : m0 ≤ t) (mu : u ≠ t) (NS : Nat) (hNS : 2 * cap ≤ NS ∧ NS < 100000) (cpt : Int32) (S_C : SC Z cpt) (hcpt : ¬ cpt = 0) (S_A : SA Z) (S_H : SH Z) (S_L : SL Z) (fm : Value) (hfm : fm.isRef = true) (S_F : SF Z fm) : Con 1 l Z EL_ n0 m32_ c32_ 3 (some (.object S2_)) ⟨8, 1, NS, 140⟩ #[(.ref a), (.ref s)] [t] h0 (fun v h D' => v = some (.ref a) ∧ ∃ t' k', m0 ≤ t' ∧ Keep h0 h [a, t] ∧ SBx Z h a t' k' cap (xs ++ ys) ∧ D' = [t']) := by
 rcases B0 with B0 | B0
 · rcases S0 with S0 | S0
   · exact own_axf00 l Z a0 hw n0 a t k cap xs h0 B0 s u k2 ys S0 hfit m0 hm ma mt mu NS hNS cpt S_C hcpt S_A S_H S_L fm hfm S_F
   · exact own_axf01 l Z a0 hw n0 a t k cap xs h0 B0 s u k2 ys S0 hfit m0 hm ma mt mu NS hNS cpt S_C hcpt S_A S_H S_L fm hfm S_F
 · rcases S0 with S0 | S0
   · exact own_axf10 l Z a0 hw n0 a t k cap xs h0 B0 s u k2 ys S0 hfit m0 hm ma mt mu NS hNS cpt S_C hcpt S_A S_H S_L fm hfm S_F
   · exact own_axf11 l Z a0 hw n0 a t k cap xs h0 B0 s u k2 ys S0 hfit m0 hm ma mt mu NS hNS cpt S_C hcpt S_A S_H S_L fm hfm S_F
theorem own_sxf (hw : Wds Z a0) (n0 : Nat) (a t : Addr) (k : ClassId) (cap : Nat) (xs : List Int32) (h0 : Heap) (B0 : SBx Z h0 a t k cap xs) (s u : Addr) (k2 : ClassId) (ys : List Int32) (S0 : Sy Z h0 s u k2 ys) (hfit : xs.length + ys.length ≤ cap) (m0 : Nat) (hm : n0 ≤ m0 ∧ m0 ≤ h0.size) (ma : m0 ≤ a) (mt : m0 ≤ t) (mu : u ≠ t) (NS : Nat) (hNS : 2 * cap ≤ NS ∧ NS < 100000) (cpt : Int32) (S_C : SC Z cpt) (hcpt : ¬ cpt = 0) (S_A : SA Z) (S_H : SH Z) (S_L : SL Z) (fm : Value) (hfm : fm.isRef = true) (S_F : SF Z fm) : Con 1 l Z EL_ n0 m31_ c31_ 2 (some (.object S10_)) ⟨9, 1, NS, 154⟩ #[(.ref a), (.ref s)] [t] h0 (fun v h D' => v = some (.ref a) ∧ ∃ t' k', m0 ≤ t' ∧ Keep h0 h [a, t] ∧ SBx Z h a t' k' cap (xs ++ ys) ∧ D' = [t']) := by
 refine Con.of_runs (ls := #[vr a, vr s]) (by decide +kernel) (ef rfl rfl) ?_
 have BO : Exa Z h0 a S10_ := B0.elim (fun q => q.1.1) (fun q => q.1.1)
 refine Runs.aloadN (g j31 0 rfl) rfl rfl ?_
 refine Runs.aloadN (g j31 1 rfl) rfl rfl ?_
 refine Runs.callUW (argsL := [(.ref s)]) (rest := []) (W := 0) (g j31 2 rfl) (wd hw 221 rfl) (same_of (wd hw 224 rfl) (nf_same (notFace_of_selects (wd hw 241 rfl)) (wd hw 239 rfl) rfl) (by decide)) (wd hw 222 rfl) (wd hw 223 rfl) (wd hw 225 rfl) (wd hw 205 rfl) (by decide) BO pd_27 rfl rfl rfl rfl (by first | decide | (dsimp only; first | decide | omega)) (by first | decide | (dsimp only; first | decide | omega)) (by first | decide | (dsimp only; first | decide | omega)) (by first | decide | (dsimp only; first | decide | omega)) (allS (mi 0 rfl) all0) (by decide) (own_axf l Z a0 hw n0 a t k cap xs _ B0 s u k2 ys S0 hfit m0 hm ma mt mu NS hNS cpt S_C hcpt S_A S_H S_L fm hfm S_F) ?_
 rintro v h1 D1 ⟨rfl, t1, k1, g1, K1, B1, rfl⟩ hsz
 show Runs _ _ _ _ _ _ _ _ _ _ _ _ [t1, t] h1 1 (0 + NS) 5 _ [(.ref a)]
 refine Runs.pop (g j31 3 rfl) rfl ?_
 refine Runs.aloadN (g j31 4 rfl) rfl rfl ?_
 refine Runs.weak (D1 := [t1]) (by simp) ?_
 exact Runs.retA (g j31 5 rfl) rfl rfl rfl (by first | decide | (dsimp only; first | decide | omega)) (by first | decide | (dsimp only; first | decide | omega)) ⟨rfl, t1, k1, g1, K1, B1, rfl⟩
theorem own_sxos (hw : Wds Z a0) (n0 : Nat) (a t : Addr) (k : ClassId) (cap : Nat) (xs : List Int32) (h0 : Heap) (B0 : SBx Z h0 a t k cap xs) (o : Addr) (ys : List Int32) (HV : Con 1 l Z EL_ n0 m43_ c43_ 1 (some (.object S6_)) ⟨1, 0, 0, 12⟩ #[(.ref o)] [t] h0 (fun v h D' => ∃ b u' k', v = some (.ref b) ∧ u' ≠ t ∧ Keep h0 h [] ∧ Sy Z h b u' k' ys ∧ D' = [])) (hfit : xs.length + ys.length ≤ cap) (m0 : Nat) (hm : n0 ≤ m0 ∧ m0 ≤ h0.size) (ma : m0 ≤ a) (mt : m0 ≤ t) (NS : Nat) (hNS : 2 * cap ≤ NS ∧ NS < 100000) (cpt : Int32) (S_C : SC Z cpt) (hcpt : ¬ cpt = 0) (S_A : SA Z) (S_H : SH Z) (S_L : SL Z) (fm : Value) (hfm : fm.isRef = true) (S_F : SF Z fm) : Con 1 l Z EL_ n0 m42_ c42_ 2 (some (.object S10_)) ⟨10, 1, NS, 167⟩ #[(.ref a), (.ref o)] [t] h0 (fun v h D' => v = some (.ref a) ∧ ∃ t' k', m0 ≤ t' ∧ Keep h0 h [a, t] ∧ SBx Z h a t' k' cap (xs ++ ys) ∧ D' = [t']) := by
 refine Con.of_runs (ls := #[vr a, vr o]) (by decide +kernel) (ef rfl rfl) ?_
 refine Runs.aloadN (g j42 0 rfl) rfl rfl ?_
 refine Runs.aloadN (g j42 1 rfl) rfl rfl ?_
 refine Runs.callSW (argsL := [(.ref o)]) (rest := [(.ref a)]) (W := 1) (g j42 2 rfl) (wd hw 282 rfl) (wd hw 283 rfl) (wd hw 29 rfl) (wd hw 284 rfl) (by decide) pd_28 rfl rfl rfl rfl (by first | decide | (dsimp only; first | decide | omega)) (by first | decide | (dsimp only; first | decide | omega)) (by first | decide | (dsimp only; first | decide | omega)) (by first | decide | (dsimp only; first | decide | omega)) (allS (mi 0 rfl) all0) (by decide) HV ?_
 rintro v h1 D1 ⟨b1, u1, k1, rfl, hut, K1, S1, rfl⟩ hsz
 show Runs _ _ _ _ _ _ _ _ _ _ _ _ [t] h1 0 0 5 _ [(.ref b1), (.ref a)]
 have B1 := B0.keep K1 nin0 nin0
 refine Runs.callVW (argsL := [(.ref b1)]) (rest := []) (W := 0) (g j42 3 rfl) (wd hw 366 rfl) (wd hw 217 rfl) (fun s hZ => notFace_of_selects (args := #[]) (mvT hZ (wd hw 219 rfl))) (wd hw 219 rfl) (wd hw 218 rfl) (wd hw 220 rfl) (wd hw 197 rfl) (by decide) (own_sbb_ B1).1 pd_29 rfl rfl rfl rfl (by first | decide | (dsimp only; first | decide | omega)) (by first | decide | (dsimp only; first | decide | omega)) (by first | decide | (dsimp only; first | decide | omega)) (by first | decide | (dsimp only; first | decide | omega)) (allS (mi 0 rfl) all0) (by decide) (own_sxf l Z a0 hw n0 a t k cap xs _ B1 b1 u1 k1 ys S1 hfit m0 ⟨hm.1, Nat.le_trans hm.2 K1.1⟩ ma mt hut NS hNS cpt S_C hcpt S_A S_H S_L fm hfm S_F) ?_
 rintro v h2 D1 ⟨rfl, t2, k2, g2, K2, B2, rfl⟩ hsz
 show Runs _ _ _ _ _ _ _ _ _ _ _ _ [t2, t] h2 1 (0 + NS) 8 _ [(.ref a)]
 refine Runs.weak (D1 := [t2]) (by simp) ?_
 exact Runs.retA (g j42 4 rfl) rfl rfl rfl (by first | decide | (dsimp only; first | decide | omega)) (by first | decide | (dsimp only; first | decide | omega)) ⟨rfl, t2, k2, g2, (Keep.sub K1 (by simp)).trans K2 (allS (Or.inl (mi 0 rfl)) (allS (Or.inl (mi 1 rfl)) all0)), B2, rfl⟩
theorem own_min (hw : Wds Z a0) (n0 : Nat) (a b : Nat) (ha : a < 2147483648) (hb : b < 2147483648) (h0 : Heap) : Con 1 l Z EL_ n0 (⟨"java/lang/Math", "min", "(II)I"⟩ : MethodName) c22_ 2 (some .int) ⟨0, 0, 0, 0⟩ #[(.int (Int32.ofNat a)), (.int (Int32.ofNat b))] [] h0 (fun v h D' => v = some (.int (Int32.ofNat (min a b))) ∧ h0 = h ∧ D' = []) := by
 refine Con.of_runs (ls := #[vi (Int32.ofNat a), vi (Int32.ofNat b)]) (Jvm.Free.JP.mathPlain rfl (by decide +kernel)) (ef rfl rfl) ?_
 refine Runs.iloadN (g j22 0 rfl) rfl ?_
 refine Runs.iloadN (g j22 1 rfl) rfl ?_
 by_cases hc2 : (Int32.ofNat b) < (Int32.ofNat a)
 · refine Runs.icY (t := 9) (g j22 2 rfl) (by decide) (tlt hc2).2.2.1 ?_
   refine Runs.iloadN (g j22 5 rfl) rfl ?_
   exact Runs.retI (z := (Int32.ofNat b)) (g j22 6 rfl) rfl (Or.inl rfl) rfl (by decide) (by decide) ⟨by rw [own_ltI (by omega) (by omega)] at hc2; congr 3; omega, rfl, rfl⟩
 · refine Runs.icN (g j22 2 rfl) (flt hc2).2.2.1 ?_
   refine Runs.iloadN (g j22 3 rfl) rfl ?_
   refine Runs.goto (t := 10) (g j22 4 rfl) (by decide) ?_
   exact Runs.retI (z := (Int32.ofNat a)) (g j22 6 rfl) rfl (Or.inl rfl) rfl (by decide) (by decide) ⟨by rw [own_ltI (by omega) (by omega)] at hc2; congr 3; omega, rfl, rfl⟩
theorem own_ckl (hw : Wds Z a0) (n0 : Nat) (n : Nat) (hn : n < 1000000) (h0 : Heap) : Con 1 l Z EL_ n0 (⟨"java/util/Arrays", "checkLength", "(II)V"⟩ : MethodName) c63_ 2 none ⟨0, 0, 0, 0⟩ #[(.int 0), (.int (Int32.ofNat n))] [] h0 (fun v h D' => v = none ∧ h0 = h ∧ D' = []) := by
 refine Con.of_runs (ls := #[vi 0, vi (Int32.ofNat n)]) (by decide +kernel) (ef rfl rfl) ?_
 refine Runs.iloadN (g j63 0 rfl) rfl ?_
 refine Runs.iloadN (g j63 1 rfl) rfl ?_
 refine Runs.icY (t := 37) (g j63 2 rfl) (by decide) (flt (own_nlt (a := n) (b := 0) (by omega) (by omega))).2.1 ?_
 exact Runs.retV (g j63 3 rfl) rfl (by decide) (by decide) ⟨rfl, rfl, rfl⟩
theorem own_crb (hw : Wds Z a0) (n0 : Nat) (t : Addr) (k : ClassId) (c n NS : Nat) (vs : List Value) (hv : vs.length ≤ n) (hn : n < c ∧ c < 10000000) (hNS : n ≤ NS ∧ NS < 1000000) (h0 : Heap) (T0 : Arv Z h0 t k .byte (Int32.ofNat c) vs (.int 0)) : Con 1 l Z EL_ n0 (⟨"java/util/Arrays", "copyOfRangeByte", "([BII)[B"⟩ : MethodName) c62_ 5 (some (.array .byte)) ⟨1, 1, NS, 40⟩ #[(.ref t), (.int 0), (.int (Int32.ofNat n))] [] h0 (fun v h D' => ∃ b k', v = some (.ref b) ∧ h0.size ≤ b ∧ Keep h0 h [] ∧ Arv Z h b k' .byte (Int32.ofNat n) vs (.int 0) ∧ Exa Z h b "[B" ∧ D' = [b]) := by
 refine Con.of_runs (ls := #[vr t, vi 0, vi (Int32.ofNat n), .unset, .unset]) (by decide +kernel) (ef rfl rfl) ?_
 refine Runs.iloadN (g j62 0 rfl) rfl ?_
 refine Runs.iloadN (g j62 1 rfl) rfl ?_
 refine Runs.callSW (argsL := [(.int 0), (.int (Int32.ofNat n))]) (rest := []) (W := 0) (g j62 2 rfl) (wd hw 399 rfl) (wd hw 400 rfl) (wd hw 127 rfl) (wd hw 401 rfl) (by decide) pd_17 rfl rfl rfl rfl (by first | decide | (dsimp only; first | decide | omega)) (by first | decide | (dsimp only; first | decide | omega)) (by first | decide | (dsimp only; first | decide | omega)) (by first | decide | (dsimp only; first | decide | omega)) all0 (by decide) (own_ckl l Z a0 hw n0 n (by omega) _) ?_
 rintro v h1 D1 ⟨rfl, rfl, rfl⟩ hsz
 show Runs _ _ _ _ _ _ _ _ _ _ _ _ [] h0 0 0 5 _ []
 refine Runs.iloadN (g j62 3 rfl) rfl ?_
 refine Runs.iloadN (g j62 4 rfl) rfl ?_
 refine Runs.isub (z := Int32.ofNat n) (g j62 5 rfl) (own_sub (a := n) (b := 0) (by omega) (by omega)) ?_
 refine Runs.istoreN (ls' := #[vr t, vi 0, vi (Int32.ofNat n), vi (Int32.ofNat n), .unset]) (g j62 6 rfl) rfl ?_
 refine Runs.iloadN (g j62 7 rfl) rfl ?_
 refine Runs.newP (cap := NS) (ad := "[B") (g j62 8 rfl) (wd hw 41 rfl) (own_nn (n := n) (by omega)) (by rw [own_cl (n := n) (by omega)]; omega) (by omega) (by first | decide | (dsimp only; first | decide | omega)) (by first | decide | (dsimp only; first | decide | omega)) rfl ?_
 intro h_1 b_2 k_3 g_6 ge_7 K_4 (A_5 : Arv Z h_1 b_2 k_3 .byte (Int32.ofNat n) ([]) (.int 0)) E_8
 refine Runs.astore (ls' := #[vr t, vi 0, vi (Int32.ofNat n), vi (Int32.ofNat n), vr b_2]) (g j62 9 rfl) rfl rfl ?_
 refine Runs.aloadN (g j62 10 rfl) rfl rfl ?_
 refine Runs.iloadN (g j62 11 rfl) rfl ?_
 refine Runs.aload (g j62 12 rfl) rfl rfl ?_
 refine Runs.iconst (v := (0 : Int32)) (g j62 13 rfl) (by decide) ?_
 refine Runs.aloadN (g j62 14 rfl) rfl rfl ?_
 have A_9 := (T0.keep K_4 nin0)
 refine Runs.arrlen (g j62 15 rfl) A_9 ?_
 refine Runs.iloadN (g j62 16 rfl) rfl ?_
 refine Runs.isub (z := Int32.ofNat c) (g j62 17 rfl) (own_sub (a := c) (b := 0) (by omega) (by omega)) ?_
 refine Runs.iloadN (g j62 18 rfl) rfl ?_
 refine Runs.callSW (argsL := [(.int (Int32.ofNat c)), (.int (Int32.ofNat n))]) (rest := [(.int 0), (.ref b_2), (.int 0), (.ref t)]) (W := 4) (g j62 19 rfl) (wd hw 140 rfl) (wd hw 141 rfl) (wd hw 77 rfl) (wd hw 142 rfl) (by decide) pd_30 rfl rfl rfl rfl (by first | decide | (dsimp only; first | decide | omega)) (by first | decide | (dsimp only; first | decide | omega)) (by first | decide | (dsimp only; first | decide | omega)) (by first | decide | (dsimp only; first | decide | omega)) all0 (by decide) (own_min l Z a0 hw n0 c n (by omega) (by omega) _) ?_
 rw [show min c n = n by omega]
 rintro v h1 D1 ⟨rfl, rfl, rfl⟩ hsz
 show Runs _ _ _ _ _ _ _ _ _ _ _ _ [b_2] h_1 1 (0 + NS) 27 _ [(.int (Int32.ofNat n)), (.int 0), (.ref b_2), (.int 0), (.ref t)]
 have A_10 : Arv Z h_1 b_2 k_3 .byte (Int32.ofNat n) (List.replicate n (.int 0)) (.int 0) := A_5.pad (pad_rep [] (.int 0) n)
 refine Runs.acopy (W := 0) (us := ((List.range n).map fun i => vs.getD (0 + i) (.int 0))) (g j62 20 rfl) (wd hw 143 rfl) (wd hw 146 rfl) (wd hw 144 rfl) (wd hw 145 rfl) A_9 A_10 rfl (by decide) (by decide) (own_nn (by omega)) (by rw [own_cl (n := n) (by omega), own_cl (n := c) (by omega)]; show 0 + n ≤ c; omega) (by rw [own_cl (n := n) (by omega)]; show 0 + n ≤ n; omega) (by rw [own_cl (n := n) (by omega)]; rfl) (by rw [own_cl (n := n) (by omega)]; show 0 + n ≤ _; rw [List.length_replicate]; omega) ge_7 (Or.inl (mi 0 rfl)) rfl (by first | decide | (dsimp only; first | decide | omega)) rfl (by first | decide | (dsimp only; first | decide | omega)) ?_
 intro h_11 K_12 A_13
 have A_14 : Arv Z h_11 b_2 k_3 .byte (Int32.ofNat n) vs (.int 0) := A_13.pad (fun i => by rw [own_cl (n := n) (by omega)]; exact (own_copy vs (.int 0) n n hv (Nat.le_refl _) i).symm)
 refine Runs.aload (g j62 21 rfl) rfl rfl ?_
 exact Runs.retA (g j62 22 rfl) rfl rfl rfl (by first | decide | (dsimp only; first | decide | omega)) (by first | decide | (dsimp only; first | decide | omega)) ⟨b_2, k_3, rfl, g_6, (((Keep.refl _ _).trans K_4 all0).trans K_12 (allS (Or.inr (Nat.le_trans (Nat.le_refl _) g_6)) all0)), A_14, (E_8.keep K_12), rfl⟩
theorem own_cr2 (hw : Wds Z a0) (n0 : Nat) (t : Addr) (k : ClassId) (c n NS : Nat) (vs : List Value) (hv : vs.length ≤ n) (hn : n < c ∧ c < 10000000) (hNS : n ≤ NS ∧ NS < 1000000) (h0 : Heap) (T0 : Arv Z h0 t k .byte (Int32.ofNat c) vs (.int 0)) : Con 1 l Z EL_ n0 m61_ c61_ 3 (some (.array .byte)) ⟨2, 1, NS, 56⟩ #[(.ref t), (.int 0), (.int (Int32.ofNat n))] [] h0 (fun v h D' => ∃ b k', v = some (.ref b) ∧ h0.size ≤ b ∧ Keep h0 h [] ∧ Arv Z h b k' .byte (Int32.ofNat n) vs (.int 0) ∧ Exa Z h b "[B" ∧ D' = [b]) := by
 refine Con.of_runs (ls := #[vr t, vi 0, vi (Int32.ofNat n)]) (by decide +kernel) (ef rfl rfl) ?_
 refine Runs.iloadN (g j61 0 rfl) rfl ?_
 refine Runs.ifN (g j61 1 rfl) (teq (by decide : (0 : Int32) = (0 : Int32))).2 ?_
 refine Runs.iloadN (g j61 2 rfl) rfl ?_
 refine Runs.aloadN (g j61 3 rfl) rfl rfl ?_
 refine Runs.arrlen (g j61 4 rfl) T0 ?_
 refine Runs.icN (g j61 5 rfl) (feq (fun q => absurd ((own_inj (a := n) (b := c) (by omega) (by omega)).mp q) (by omega))).1 ?_
 refine Runs.aloadN (g j61 6 rfl) rfl rfl ?_
 refine Runs.iloadN (g j61 7 rfl) rfl ?_
 refine Runs.iloadN (g j61 8 rfl) rfl ?_
 refine Runs.callSW (argsL := [(.ref t), (.int 0), (.int (Int32.ofNat n))]) (rest := []) (W := 0) (g j61 9 rfl) (wd hw 396 rfl) (wd hw 397 rfl) (wd hw 127 rfl) (wd hw 398 rfl) (by decide) pd_31 rfl rfl rfl rfl (by first | decide | (dsimp only; first | decide | omega)) (by first | decide | (dsimp only; first | decide | omega)) (by first | decide | (dsimp only; first | decide | omega)) (by first | decide | (dsimp only; first | decide | omega)) all0 (by decide) (own_crb l Z a0 hw n0 t k c n NS vs hv hn hNS _ T0) ?_
 rintro v h1 D1 ⟨b1, k1, rfl, g1, K1, A1, E1, rfl⟩ hsz
 show Runs _ _ _ _ _ _ _ _ _ _ _ _ [b1] h1 1 (0 + NS) 16 _ [(.ref b1)]
 exact Runs.retA (g j61 10 rfl) rfl rfl rfl (by first | decide | (dsimp only; first | decide | omega)) (by first | decide | (dsimp only; first | decide | omega)) ⟨b1, k1, rfl, g1, K1, A1, E1, rfl⟩
theorem own_cor (hw : Wds Z a0) (n0 : Nat) (t : Addr) (k : ClassId) (c NS : Nat) (vs : List Value) (hNS : c ≤ NS ∧ NS < 10000000) (h0 : Heap) (T0 : Arv Z h0 t k .byte (Int32.ofNat c) vs (.int 0)) (E0 : Exa Z h0 t "[B") : Con 1 l Z EL_ n0 m61_ c61_ 3 (some (.array .byte)) ⟨1, 1, NS, 14⟩ #[(.ref t), (.int 0), (.int (Int32.ofNat c))] [] h0 (fun v h D' => ∃ b, v = some (.ref b) ∧ h0.size ≤ b ∧ Keep h0 h [] ∧ Arv Z h b k .byte (Int32.ofNat c) vs (.int 0) ∧ D' = [b]) := by
 refine Con.of_runs (ls := #[vr t, vi 0, vi (Int32.ofNat c)]) (by decide +kernel) (ef rfl rfl) ?_
 refine Runs.iloadN (g j61 0 rfl) rfl ?_
 refine Runs.ifN (g j61 1 rfl) (teq (by decide : (0 : Int32) = (0 : Int32))).2 ?_
 refine Runs.iloadN (g j61 2 rfl) rfl ?_
 refine Runs.aloadN (g j61 3 rfl) rfl rfl ?_
 refine Runs.arrlen (g j61 4 rfl) T0 ?_
 refine Runs.icY (t := 17) (g j61 5 rfl) (by decide) (teq (rfl : (Int32.ofNat c) = (Int32.ofNat c))).1 ?_
 refine Runs.aloadN (g j61 11 rfl) rfl rfl ?_
 refine Runs.clone (W := 0) (cap := NS) (g j61 12 rfl) (wd hw 414 rfl) (wd hw 415 rfl) (wd hw 419 rfl) (wd hw 417 rfl) (wd hw 418 rfl) (wd hw 420 rfl) T0 E0 rfl (by first | decide | (dsimp only; first | decide | omega)) rfl (by first | decide | (dsimp only; first | decide | omega)) (by rw [own_cl (n := c) (by omega)]; omega) (by first | decide | (dsimp only; first | decide | omega)) (by first | decide | (dsimp only; first | decide | omega)) ?_
 intro h_7 b_1 g_2 ge_3 K_4 A_5 E_6
 refine Runs.castY (g j61 13 rfl) (wd hw 421 rfl) (Jvm.RoadKit.Ins.self E_6) ?_
 exact Runs.retA (g j61 14 rfl) rfl rfl rfl (by first | decide | (dsimp only; first | decide | omega)) (by first | decide | (dsimp only; first | decide | omega)) ⟨b_1, rfl, g_2, K_4, A_5, rfl⟩
theorem own_xgv0 (hw : Wds Z a0) (n0 : Nat) (a t : Addr) (k : ClassId) (cap : Nat) (xs : List Int32) (h0 : Heap) (B0 : SBd Z h0 a t k cap xs) (cpt : Int32) (S_C : SC Z cpt) (hcpt : ¬ cpt = 0) : Con 1 l Z EL_ n0 m58_ c58_ 1 (some (.array .byte)) ⟨0, 0, 0, 0⟩ #[(.ref a)] [] h0 (fun v h D' => v = some (.ref t) ∧ h0 = h ∧ D' = []) := by
 refine Con.of_runs (ls := #[vr a]) (by decide +kernel) (ef rfl rfl) ?_
 obtain ⟨BO, BA, BE, BL, hle, hcap⟩ := id B0
 refine Runs.aloadN (g j58 0 rfl) rfl rfl ?_
 refine Runs.getF (g j58 1 rfl) (host := "") (Or.inl (wd hw 209 rfl)) Via.refl (BO.fld (i := 0) rfl) ?_
 exact Runs.retA (g j58 2 rfl) rfl rfl rfl (by decide) (by decide) ⟨rfl, rfl, rfl⟩
theorem own_xil0 (hw : Wds Z a0) (n0 : Nat) (a t : Addr) (k : ClassId) (cap : Nat) (xs : List Int32) (h0 : Heap) (B0 : SBd Z h0 a t k cap xs) (cpt : Int32) (S_C : SC Z cpt) (hcpt : ¬ cpt = 0) : Con 1 l Z EL_ n0 m51_ c51_ 1 (some .boolean) ⟨0, 0, 0, 0⟩ #[(.ref a)] [] h0 (fun v h D' => v = some (.int 1) ∧ h0 = h ∧ D' = []) := by
 refine Con.of_runs (ls := #[vr a]) (by decide +kernel) (ef rfl rfl) ?_
 obtain ⟨BO, BA, BE, BL, hle, hcap⟩ := id B0
 refine Runs.getS (g j51 0 rfl) (wd hw 208 rfl) Via.refl S_C ?_
 refine Runs.ifN (g j51 1 rfl) (feq hcpt).1 ?_
 refine Runs.aloadN (g j51 2 rfl) rfl rfl ?_
 refine Runs.getF (g j51 3 rfl) (host := "") (Or.inl (wd hw 211 rfl)) Via.refl (BO.fld (i := 1) rfl) ?_
 refine Runs.ifN (g j51 4 rfl) (teq (by decide : (0 : Int32) = (0 : Int32))).2 ?_
 refine Runs.iconst (v := (1 : Int32)) (g j51 5 rfl) (by decide) ?_
 refine Runs.goto (t := 18) (g j51 6 rfl) (by decide) ?_
 exact Runs.retI (z := (1 : Int32)) (g j51 8 rfl) rfl (Or.inr (Or.inl rfl)) rfl (by decide) (by decide) ⟨rfl, rfl, rfl⟩
theorem own_xln0 (hw : Wds Z a0) (n0 : Nat) (a t : Addr) (k : ClassId) (cap : Nat) (xs : List Int32) (h0 : Heap) (B0 : SBd Z h0 a t k cap xs) (cpt : Int32) (S_C : SC Z cpt) (hcpt : ¬ cpt = 0) : Con 1 l Z EL_ n0 m60_ c60_ 1 (some .int) ⟨0, 0, 0, 0⟩ #[(.ref a)] [] h0 (fun v h D' => v = some (.int (Int32.ofNat xs.length)) ∧ h0 = h ∧ D' = []) := by
 refine Con.of_runs (ls := #[vr a]) (by decide +kernel) (ef rfl rfl) ?_
 obtain ⟨BO, BA, BE, BL, hle, hcap⟩ := id B0
 refine Runs.aloadN (g j60 0 rfl) rfl rfl ?_
 refine Runs.getF (g j60 1 rfl) (host := "") (Or.inl (wd hw 236 rfl)) Via.refl (BO.fld (i := 2) rfl) ?_
 exact Runs.retI (z := (Int32.ofNat xs.length)) (g j60 2 rfl) rfl (Or.inl rfl) rfl (by decide) (by decide) ⟨rfl, rfl, rfl⟩
theorem own_xsl0 (hw : Wds Z a0) (n0 : Nat) (a t : Addr) (k : ClassId) (cap : Nat) (xs : List Int32) (h0 : Heap) (B0 : SBd Z h0 a t k cap xs) (cpt : Int32) (S_C : SC Z cpt) (hcpt : ¬ cpt = 0) : Con 1 l Z EL_ n0 m59_ c59_ 1 (some .int) ⟨1, 0, 0, 12⟩ #[(.ref a)] [] h0 (fun v h D' => v = some (.int (Int32.ofNat xs.length)) ∧ h0 = h ∧ D' = []) := by
 refine Con.of_runs (ls := #[vr a]) (by decide +kernel) (ef rfl rfl) ?_
 obtain ⟨BO, BA, BE, BL, hle, hcap⟩ := id B0
 refine Runs.aloadN (g j59 0 rfl) rfl rfl ?_
 refine Runs.callUW (argsL := []) (rest := []) (W := 0) (g j59 1 rfl) (wd hw 390 rfl) (same_of (wd hw 385 rfl) (nf_same (notFace_of_selects (wd hw 241 rfl)) (wd hw 239 rfl) rfl) (by decide)) (wd hw 386 rfl) (wd hw 223 rfl) (wd hw 391 rfl) (wd hw 205 rfl) (by decide) BO.1 pd_4 rfl rfl rfl rfl (by decide) (by decide) (by decide) (by decide) all0 (by decide) (own_xln0 l Z a0 hw n0 a t k cap xs _ B0 cpt S_C hcpt) ?_
 rintro v h1 D1 ⟨rfl, rfl, rfl⟩ hsz
 show Runs _ _ _ _ _ _ _ _ _ _ _ _ [] h0 0 0 4 _ [(.int (Int32.ofNat xs.length))]
 exact Runs.retI (z := (Int32.ofNat xs.length)) (g j59 2 rfl) rfl (Or.inl rfl) rfl (by decide) (by decide) ⟨rfl, rfl, rfl⟩
theorem own_xgv1 (hw : Wds Z a0) (n0 : Nat) (a t : Addr) (k : ClassId) (cap : Nat) (xs : List Int32) (h0 : Heap) (B0 : SBw Z h0 a t k cap xs) (cpt : Int32) (S_C : SC Z cpt) (hcpt : ¬ cpt = 0) : Con 1 l Z EL_ n0 m58_ c58_ 1 (some (.array .byte)) ⟨0, 0, 0, 0⟩ #[(.ref a)] [] h0 (fun v h D' => v = some (.ref t) ∧ h0 = h ∧ D' = []) := by
 refine Con.of_runs (ls := #[vr a]) (by decide +kernel) (ef rfl rfl) ?_
 obtain ⟨BO, BA, BE, BL, hle, hcap⟩ := id B0
 refine Runs.aloadN (g j58 0 rfl) rfl rfl ?_
 refine Runs.getF (g j58 1 rfl) (host := "") (Or.inl (wd hw 209 rfl)) Via.refl (BO.fld (i := 0) rfl) ?_
 exact Runs.retA (g j58 2 rfl) rfl rfl rfl (by decide) (by decide) ⟨rfl, rfl, rfl⟩
theorem own_xil1 (hw : Wds Z a0) (n0 : Nat) (a t : Addr) (k : ClassId) (cap : Nat) (xs : List Int32) (h0 : Heap) (B0 : SBw Z h0 a t k cap xs) (cpt : Int32) (S_C : SC Z cpt) (hcpt : ¬ cpt = 0) : Con 1 l Z EL_ n0 m51_ c51_ 1 (some .boolean) ⟨0, 0, 0, 0⟩ #[(.ref a)] [] h0 (fun v h D' => v = some (.int 0) ∧ h0 = h ∧ D' = []) := by
 refine Con.of_runs (ls := #[vr a]) (by decide +kernel) (ef rfl rfl) ?_
 obtain ⟨BO, BA, BE, BL, hle, hcap⟩ := id B0
 refine Runs.getS (g j51 0 rfl) (wd hw 208 rfl) Via.refl S_C ?_
 refine Runs.ifN (g j51 1 rfl) (feq hcpt).1 ?_
 refine Runs.aloadN (g j51 2 rfl) rfl rfl ?_
 refine Runs.getF (g j51 3 rfl) (host := "") (Or.inl (wd hw 211 rfl)) Via.refl (BO.fld (i := 1) rfl) ?_
 refine Runs.ifY (t := 17) (g j51 4 rfl) (by decide) (feq (by decide : ¬ ((1 : Int32) = (0 : Int32)))).2 ?_
 refine Runs.iconst (v := (0 : Int32)) (g j51 7 rfl) (by decide) ?_
 exact Runs.retI (z := (0 : Int32)) (g j51 8 rfl) rfl (Or.inr (Or.inl rfl)) rfl (by decide) (by decide) ⟨rfl, rfl, rfl⟩
theorem own_xln1 (hw : Wds Z a0) (n0 : Nat) (a t : Addr) (k : ClassId) (cap : Nat) (xs : List Int32) (h0 : Heap) (B0 : SBw Z h0 a t k cap xs) (cpt : Int32) (S_C : SC Z cpt) (hcpt : ¬ cpt = 0) : Con 1 l Z EL_ n0 m60_ c60_ 1 (some .int) ⟨0, 0, 0, 0⟩ #[(.ref a)] [] h0 (fun v h D' => v = some (.int (Int32.ofNat xs.length)) ∧ h0 = h ∧ D' = []) := by
 refine Con.of_runs (ls := #[vr a]) (by decide +kernel) (ef rfl rfl) ?_
 obtain ⟨BO, BA, BE, BL, hle, hcap⟩ := id B0
 refine Runs.aloadN (g j60 0 rfl) rfl rfl ?_
 refine Runs.getF (g j60 1 rfl) (host := "") (Or.inl (wd hw 236 rfl)) Via.refl (BO.fld (i := 2) rfl) ?_
 exact Runs.retI (z := (Int32.ofNat xs.length)) (g j60 2 rfl) rfl (Or.inl rfl) rfl (by decide) (by decide) ⟨rfl, rfl, rfl⟩
theorem own_xsl1 (hw : Wds Z a0) (n0 : Nat) (a t : Addr) (k : ClassId) (cap : Nat) (xs : List Int32) (h0 : Heap) (B0 : SBw Z h0 a t k cap xs) (cpt : Int32) (S_C : SC Z cpt) (hcpt : ¬ cpt = 0) : Con 1 l Z EL_ n0 m59_ c59_ 1 (some .int) ⟨1, 0, 0, 12⟩ #[(.ref a)] [] h0 (fun v h D' => v = some (.int (Int32.ofNat xs.length)) ∧ h0 = h ∧ D' = []) := by
 refine Con.of_runs (ls := #[vr a]) (by decide +kernel) (ef rfl rfl) ?_
 obtain ⟨BO, BA, BE, BL, hle, hcap⟩ := id B0
 refine Runs.aloadN (g j59 0 rfl) rfl rfl ?_
 refine Runs.callUW (argsL := []) (rest := []) (W := 0) (g j59 1 rfl) (wd hw 390 rfl) (same_of (wd hw 385 rfl) (nf_same (notFace_of_selects (wd hw 241 rfl)) (wd hw 239 rfl) rfl) (by decide)) (wd hw 386 rfl) (wd hw 223 rfl) (wd hw 391 rfl) (wd hw 205 rfl) (by decide) BO.1 pd_4 rfl rfl rfl rfl (by decide) (by decide) (by decide) (by decide) all0 (by decide) (own_xln1 l Z a0 hw n0 a t k cap xs _ B0 cpt S_C hcpt) ?_
 rintro v h1 D1 ⟨rfl, rfl, rfl⟩ hsz
 show Runs _ _ _ _ _ _ _ _ _ _ _ _ [] h0 0 0 4 _ [(.int (Int32.ofNat xs.length))]
 exact Runs.retI (z := (Int32.ofNat xs.length)) (g j59 2 rfl) rfl (Or.inl rfl) rfl (by decide) (by decide) ⟨rfl, rfl, rfl⟩
theorem own_xsa00 (hw : Wds Z a0) (n0 : Nat) (a t : Addr) (k : ClassId) (cap : Nat) (xs : List Int32) (h0 : Heap) (B0 : SBd Z h0 a t k cap xs) (NS : Nat) (hNS : 2 * xs.length ≤ NS ∧ NS < 100000) (hf : xs.length < cap) (s : Addr) (gs : n0 ≤ s) (O0 : Obj Z h0 s S6_ [(S6_, "value", "[B", .null), (S6_, "coder", "B", (.int 0))]) (cpt : Int32) (S_C : SC Z cpt) (hcpt : ¬ cpt = 0) : Con 1 l Z EL_ n0 m57_ c57_ 5 none ⟨3, 1, NS, 71⟩ #[(.ref s), (.ref a), .null] [s] h0 (fun v h D' => v = none ∧ ∃ u k', h0.size ≤ u ∧ Keep h0 h [s] ∧ Sy Z h s u k' xs ∧ D' = []) := by
 refine Con.of_runs (ls := #[vr s, vr a, .val .null, .unset, .unset]) (by decide +kernel) (ef rfl rfl) ?_
 obtain ⟨BO, BA, BE, BL, hle, hcap⟩ := id B0
 refine Runs.aloadN (g j57 0 rfl) rfl rfl ?_
 refine Runs.initO (W := 0) (g j57 1 rfl) (wd hw 46 rfl) (wd hw 20 rfl) (wd hw 21 rfl) rfl (by first | decide | (dsimp only; first | decide | omega)) rfl (by first | decide | (dsimp only; first | decide | omega)) ?_
 refine Runs.aloadN (g j57 2 rfl) rfl rfl ?_
 refine Runs.callVW (argsL := []) (rest := []) (W := 0) (g j57 3 rfl) (wd hw 379 rfl) (wd hw 380 rfl) (fun s hZ => notFace_of_selects (args := #[]) (mvT hZ (wd hw 382 rfl))) (wd hw 382 rfl) (wd hw 381 rfl) (wd hw 383 rfl) (wd hw 205 rfl) (by decide) BO.1 pd_32 rfl rfl rfl rfl (by first | decide | (dsimp only; first | decide | omega)) (by first | decide | (dsimp only; first | decide | omega)) (by first | decide | (dsimp only; first | decide | omega)) (by first | decide | (dsimp only; first | decide | omega)) all0 (by decide) (own_xgv0 l Z a0 hw n0 a t k cap xs _ B0 cpt S_C hcpt) ?_
 rintro v h1 D1 ⟨rfl, rfl, rfl⟩ hsz
 show Runs _ _ _ _ _ _ _ _ _ _ _ _ [s] h0 0 0 8 _ [(.ref t)]
 refine Runs.astoreN (ls' := #[vr s, vr a, .val .null, vr t, .unset]) (g j57 4 rfl) rfl rfl ?_
 refine Runs.aloadN (g j57 5 rfl) rfl rfl ?_
 refine Runs.callVW (argsL := []) (rest := []) (W := 0) (g j57 6 rfl) (wd hw 384 rfl) (wd hw 385 rfl) (fun s hZ => nf_same (notFace_of_selects (args := #[]) (mvT hZ (wd hw 241 rfl))) (mvT (args := #[]) hZ (wd hw 239 rfl)) rfl) (wd hw 387 rfl) (wd hw 388 rfl) (wd hw 389 rfl) (wd hw 197 rfl) (by decide) BO.1 pd_4 rfl rfl rfl rfl (by first | decide | (dsimp only; first | decide | omega)) (by first | decide | (dsimp only; first | decide | omega)) (by first | decide | (dsimp only; first | decide | omega)) (by first | decide | (dsimp only; first | decide | omega)) all0 (by decide) (own_xsl0 l Z a0 hw n0 a t k cap xs _ B0 cpt S_C hcpt) ?_
 rintro v h1 D1 ⟨rfl, rfl, rfl⟩ hsz
 show Runs _ _ _ _ _ _ _ _ _ _ _ _ [s] h0 0 0 13 _ [(.int (Int32.ofNat xs.length))]
 refine Runs.istore (ls' := #[vr s, vr a, .val .null, vr t, vi (Int32.ofNat xs.length)]) (g j57 7 rfl) rfl ?_
 refine Runs.aloadN (g j57 8 rfl) rfl rfl ?_
 refine Runs.callVW (argsL := []) (rest := []) (W := 0) (g j57 9 rfl) (wd hw 392 rfl) (wd hw 340 rfl) (fun s hZ => notFace_of_selects (args := #[]) (mvT hZ (wd hw 342 rfl))) (wd hw 342 rfl) (wd hw 341 rfl) (wd hw 343 rfl) (wd hw 205 rfl) (by decide) BO.1 pd_7 rfl rfl rfl rfl (by first | decide | (dsimp only; first | decide | omega)) (by first | decide | (dsimp only; first | decide | omega)) (by first | decide | (dsimp only; first | decide | omega)) (by first | decide | (dsimp only; first | decide | omega)) all0 (by decide) (own_xil0 l Z a0 hw n0 a t k cap xs _ B0 cpt S_C hcpt) ?_
 rintro v h1 D1 ⟨rfl, rfl, rfl⟩ hsz
 show Runs _ _ _ _ _ _ _ _ _ _ _ _ [s] h0 0 0 19 _ [(.int 1)]
 refine Runs.ifN (g j57 10 rfl) (feq (by decide : ¬ ((1 : Int32) = (0 : Int32)))).1 ?_
 refine Runs.aloadN (g j57 11 rfl) rfl rfl ?_
 refine Runs.iconst (v := (0 : Int32)) (g j57 12 rfl) (by decide) ?_
 refine Runs.putF (i := 1) (ty := .byte) (g j57 13 rfl) (host := "") (Or.inl (wd hw 49 rfl)) Via.refl O0 rfl (lay_0 hw) rfl (Or.inr ⟨(wd hw 50 rfl), rfl, rfl⟩) (wd hw 37 rfl) (by decide) rfl rfl gs (Or.inl (mi 0 rfl)) ?_
 intro h_1 K_2 (O_3 : Obj Z h_1 s S6_ [(S6_, "value", "[B", .null), (S6_, "coder", "B", (.int 0))])
 refine Runs.aloadN (g j57 14 rfl) rfl rfl ?_
 refine Runs.aloadN (g j57 15 rfl) rfl rfl ?_
 refine Runs.iconst (v := (0 : Int32)) (g j57 16 rfl) (by decide) ?_
 refine Runs.iload (g j57 17 rfl) rfl ?_
 have A_4 := (BA.keep K_2 (ninS (Ne.symm (Exa.neArv O0.1 BA (wd hw 37 rfl))) nin0))
 refine Runs.callSW (argsL := [(.ref t), (.int 0), (.int (Int32.ofNat xs.length))]) (rest := [(.ref s)]) (W := 1) (g j57 18 rfl) (wd hw 393 rfl) (wd hw 394 rfl) (wd hw 127 rfl) (wd hw 395 rfl) (by decide) pd_31 rfl rfl rfl rfl (by first | decide | (dsimp only; first | decide | omega)) (by first | decide | (dsimp only; first | decide | omega)) (by first | decide | (dsimp only; first | decide | omega)) (by first | decide | (dsimp only; first | decide | omega)) all0 (by decide) (own_cr2 l Z a0 hw n0 t k cap xs.length NS (xs.map own_b) (by simp) (by omega) (by omega) _ A_4) ?_
 rintro v h_11 D1 ⟨b_5, k_6, rfl, g_7, K_8, A_9, E_10, rfl⟩ hsz
 show Runs _ _ _ _ _ _ _ _ _ _ _ _ [b_5, s] h_11 1 (0 + NS) 35 _ [(.ref b_5), (.ref s)]
 have O_12 := (O_3.keep K_8 nin0)
 refine Runs.putF (i := 0) (ty := (.array .byte)) (g j57 19 rfl) (host := "") (Or.inl (wd hw 47 rfl)) Via.refl O_12 rfl (lay_0 hw) rfl (Or.inr ⟨(wd hw 48 rfl), rfl, rfl⟩) (wd hw 37 rfl) (by decide) rfl rfl gs (Or.inl (mi 1 rfl)) ?_
 intro h_13 K_14 (O_15 : Obj Z h_13 s S6_ [(S6_, "value", "[B", (.ref b_5)), (S6_, "coder", "B", (.int 0))])
 refine Runs.goto (t := 97) (g j57 20 rfl) (by decide) ?_
 have A_16 := (A_9.keep K_14 (ninS (Nat.ne_of_gt (Nat.lt_of_lt_of_le (Nat.lt_of_lt_of_le O0.lt K_2.1) g_7)) nin0))
 refine Runs.weak (D1 := []) (fun _ q => nomatch q) ?_
 exact Runs.retV (g j57 37 rfl) rfl (by first | decide | (dsimp only; first | decide | omega)) (by first | decide | (dsimp only; first | decide | omega)) ⟨rfl, b_5, k_6, (Nat.le_trans K_2.1 g_7), ((((Keep.refl _ _).trans K_2 (allS (Or.inl (mi 0 rfl)) all0)).trans K_8 all0).trans K_14 (allS (Or.inl (mi 0 rfl)) all0)), Or.inl ⟨O_15, A_16, BL, by omega⟩, rfl⟩
theorem own_xsa01 (hw : Wds Z a0) (n0 : Nat) (a t : Addr) (k : ClassId) (cap : Nat) (xs : List Int32) (h0 : Heap) (B0 : SBd Z h0 a t k cap xs) (NS : Nat) (hNS : 2 * xs.length ≤ NS ∧ NS < 100000) (hf : cap = xs.length) (s : Addr) (gs : n0 ≤ s) (O0 : Obj Z h0 s S6_ [(S6_, "value", "[B", .null), (S6_, "coder", "B", (.int 0))]) (cpt : Int32) (S_C : SC Z cpt) (hcpt : ¬ cpt = 0) : Con 1 l Z EL_ n0 m57_ c57_ 5 none ⟨3, 1, NS, 71⟩ #[(.ref s), (.ref a), .null] [s] h0 (fun v h D' => v = none ∧ ∃ u k', h0.size ≤ u ∧ Keep h0 h [s] ∧ Sy Z h s u k' xs ∧ D' = []) := by
 refine Con.of_runs (ls := #[vr s, vr a, .val .null, .unset, .unset]) (by decide +kernel) (ef rfl rfl) ?_
 subst hf
 obtain ⟨BO, BA, BE, BL, hle, hcap⟩ := id B0
 refine Runs.aloadN (g j57 0 rfl) rfl rfl ?_
 refine Runs.initO (W := 0) (g j57 1 rfl) (wd hw 46 rfl) (wd hw 20 rfl) (wd hw 21 rfl) rfl (by first | decide | (dsimp only; first | decide | omega)) rfl (by first | decide | (dsimp only; first | decide | omega)) ?_
 refine Runs.aloadN (g j57 2 rfl) rfl rfl ?_
 refine Runs.callVW (argsL := []) (rest := []) (W := 0) (g j57 3 rfl) (wd hw 379 rfl) (wd hw 380 rfl) (fun s hZ => notFace_of_selects (args := #[]) (mvT hZ (wd hw 382 rfl))) (wd hw 382 rfl) (wd hw 381 rfl) (wd hw 383 rfl) (wd hw 205 rfl) (by decide) BO.1 pd_32 rfl rfl rfl rfl (by first | decide | (dsimp only; first | decide | omega)) (by first | decide | (dsimp only; first | decide | omega)) (by first | decide | (dsimp only; first | decide | omega)) (by first | decide | (dsimp only; first | decide | omega)) all0 (by decide) (own_xgv0 l Z a0 hw n0 a t k xs.length xs _ B0 cpt S_C hcpt) ?_
 rintro v h1 D1 ⟨rfl, rfl, rfl⟩ hsz
 show Runs _ _ _ _ _ _ _ _ _ _ _ _ [s] h0 0 0 8 _ [(.ref t)]
 refine Runs.astoreN (ls' := #[vr s, vr a, .val .null, vr t, .unset]) (g j57 4 rfl) rfl rfl ?_
 refine Runs.aloadN (g j57 5 rfl) rfl rfl ?_
 refine Runs.callVW (argsL := []) (rest := []) (W := 0) (g j57 6 rfl) (wd hw 384 rfl) (wd hw 385 rfl) (fun s hZ => nf_same (notFace_of_selects (args := #[]) (mvT hZ (wd hw 241 rfl))) (mvT (args := #[]) hZ (wd hw 239 rfl)) rfl) (wd hw 387 rfl) (wd hw 388 rfl) (wd hw 389 rfl) (wd hw 197 rfl) (by decide) BO.1 pd_4 rfl rfl rfl rfl (by first | decide | (dsimp only; first | decide | omega)) (by first | decide | (dsimp only; first | decide | omega)) (by first | decide | (dsimp only; first | decide | omega)) (by first | decide | (dsimp only; first | decide | omega)) all0 (by decide) (own_xsl0 l Z a0 hw n0 a t k xs.length xs _ B0 cpt S_C hcpt) ?_
 rintro v h1 D1 ⟨rfl, rfl, rfl⟩ hsz
 show Runs _ _ _ _ _ _ _ _ _ _ _ _ [s] h0 0 0 13 _ [(.int (Int32.ofNat xs.length))]
 refine Runs.istore (ls' := #[vr s, vr a, .val .null, vr t, vi (Int32.ofNat xs.length)]) (g j57 7 rfl) rfl ?_
 refine Runs.aloadN (g j57 8 rfl) rfl rfl ?_
 refine Runs.callVW (argsL := []) (rest := []) (W := 0) (g j57 9 rfl) (wd hw 392 rfl) (wd hw 340 rfl) (fun s hZ => notFace_of_selects (args := #[]) (mvT hZ (wd hw 342 rfl))) (wd hw 342 rfl) (wd hw 341 rfl) (wd hw 343 rfl) (wd hw 205 rfl) (by decide) BO.1 pd_7 rfl rfl rfl rfl (by first | decide | (dsimp only; first | decide | omega)) (by first | decide | (dsimp only; first | decide | omega)) (by first | decide | (dsimp only; first | decide | omega)) (by first | decide | (dsimp only; first | decide | omega)) all0 (by decide) (own_xil0 l Z a0 hw n0 a t k xs.length xs _ B0 cpt S_C hcpt) ?_
 rintro v h1 D1 ⟨rfl, rfl, rfl⟩ hsz
 show Runs _ _ _ _ _ _ _ _ _ _ _ _ [s] h0 0 0 19 _ [(.int 1)]
 refine Runs.ifN (g j57 10 rfl) (feq (by decide : ¬ ((1 : Int32) = (0 : Int32)))).1 ?_
 refine Runs.aloadN (g j57 11 rfl) rfl rfl ?_
 refine Runs.iconst (v := (0 : Int32)) (g j57 12 rfl) (by decide) ?_
 refine Runs.putF (i := 1) (ty := .byte) (g j57 13 rfl) (host := "") (Or.inl (wd hw 49 rfl)) Via.refl O0 rfl (lay_0 hw) rfl (Or.inr ⟨(wd hw 50 rfl), rfl, rfl⟩) (wd hw 37 rfl) (by decide) rfl rfl gs (Or.inl (mi 0 rfl)) ?_
 intro h_1 K_2 (O_3 : Obj Z h_1 s S6_ [(S6_, "value", "[B", .null), (S6_, "coder", "B", (.int 0))])
 refine Runs.aloadN (g j57 14 rfl) rfl rfl ?_
 refine Runs.aloadN (g j57 15 rfl) rfl rfl ?_
 refine Runs.iconst (v := (0 : Int32)) (g j57 16 rfl) (by decide) ?_
 refine Runs.iload (g j57 17 rfl) rfl ?_
 have A_4 := (BA.keep K_2 (ninS (Ne.symm (Exa.neArv O0.1 BA (wd hw 37 rfl))) nin0))
 refine Runs.callSW (argsL := [(.ref t), (.int 0), (.int (Int32.ofNat xs.length))]) (rest := [(.ref s)]) (W := 1) (g j57 18 rfl) (wd hw 393 rfl) (wd hw 394 rfl) (wd hw 127 rfl) (wd hw 395 rfl) (by decide) pd_31 rfl rfl rfl rfl (by first | decide | (dsimp only; first | decide | omega)) (by first | decide | (dsimp only; first | decide | omega)) (by first | decide | (dsimp only; first | decide | omega)) (by first | decide | (dsimp only; first | decide | omega)) all0 (by decide) (own_cor l Z a0 hw n0 t k xs.length NS (xs.map own_b) (by omega) _ A_4 (BE.keep K_2)) ?_
 rintro v h_9 D1 ⟨b_5, rfl, g_6, K_7, A_8, rfl⟩ hsz
 show Runs _ _ _ _ _ _ _ _ _ _ _ _ [b_5, s] h_9 1 (0 + NS) 35 _ [(.ref b_5), (.ref s)]
 have O_10 := (O_3.keep K_7 nin0)
 refine Runs.putF (i := 0) (ty := (.array .byte)) (g j57 19 rfl) (host := "") (Or.inl (wd hw 47 rfl)) Via.refl O_10 rfl (lay_0 hw) rfl (Or.inr ⟨(wd hw 48 rfl), rfl, rfl⟩) (wd hw 37 rfl) (by decide) rfl rfl gs (Or.inl (mi 1 rfl)) ?_
 intro h_11 K_12 (O_13 : Obj Z h_11 s S6_ [(S6_, "value", "[B", (.ref b_5)), (S6_, "coder", "B", (.int 0))])
 refine Runs.goto (t := 97) (g j57 20 rfl) (by decide) ?_
 have A_14 := (A_8.keep K_12 (ninS (Nat.ne_of_gt (Nat.lt_of_lt_of_le (Nat.lt_of_lt_of_le O0.lt K_2.1) g_6)) nin0))
 refine Runs.weak (D1 := []) (fun _ q => nomatch q) ?_
 exact Runs.retV (g j57 37 rfl) rfl (by first | decide | (dsimp only; first | decide | omega)) (by first | decide | (dsimp only; first | decide | omega)) ⟨rfl, b_5, k, (Nat.le_trans K_2.1 g_6), ((((Keep.refl _ _).trans K_2 (allS (Or.inl (mi 0 rfl)) all0)).trans K_7 all0).trans K_12 (allS (Or.inl (mi 0 rfl)) all0)), Or.inl ⟨O_13, A_14, BL, by omega⟩, rfl⟩
theorem own_xsa10 (hw : Wds Z a0) (n0 : Nat) (a t : Addr) (k : ClassId) (cap : Nat) (xs : List Int32) (h0 : Heap) (B0 : SBw Z h0 a t k cap xs) (NS : Nat) (hNS : 2 * xs.length ≤ NS ∧ NS < 100000) (hf : xs.length < cap) (s : Addr) (gs : n0 ≤ s) (O0 : Obj Z h0 s S6_ [(S6_, "value", "[B", .null), (S6_, "coder", "B", (.int 0))]) (cpt : Int32) (S_C : SC Z cpt) (hcpt : ¬ cpt = 0) : Con 1 l Z EL_ n0 m57_ c57_ 5 none ⟨3, 1, NS, 71⟩ #[(.ref s), (.ref a), .null] [s] h0 (fun v h D' => v = none ∧ ∃ u k', h0.size ≤ u ∧ Keep h0 h [s] ∧ Sy Z h s u k' xs ∧ D' = []) := by
 refine Con.of_runs (ls := #[vr s, vr a, .val .null, .unset, .unset]) (by decide +kernel) (ef rfl rfl) ?_
 obtain ⟨BO, BA, BE, BL, hle, hcap⟩ := id B0
 refine Runs.aloadN (g j57 0 rfl) rfl rfl ?_
 refine Runs.initO (W := 0) (g j57 1 rfl) (wd hw 46 rfl) (wd hw 20 rfl) (wd hw 21 rfl) rfl (by first | decide | (dsimp only; first | decide | omega)) rfl (by first | decide | (dsimp only; first | decide | omega)) ?_
 refine Runs.aloadN (g j57 2 rfl) rfl rfl ?_
 refine Runs.callVW (argsL := []) (rest := []) (W := 0) (g j57 3 rfl) (wd hw 379 rfl) (wd hw 380 rfl) (fun s hZ => notFace_of_selects (args := #[]) (mvT hZ (wd hw 382 rfl))) (wd hw 382 rfl) (wd hw 381 rfl) (wd hw 383 rfl) (wd hw 205 rfl) (by decide) BO.1 pd_32 rfl rfl rfl rfl (by first | decide | (dsimp only; first | decide | omega)) (by first | decide | (dsimp only; first | decide | omega)) (by first | decide | (dsimp only; first | decide | omega)) (by first | decide | (dsimp only; first | decide | omega)) all0 (by decide) (own_xgv1 l Z a0 hw n0 a t k cap xs _ B0 cpt S_C hcpt) ?_
 rintro v h1 D1 ⟨rfl, rfl, rfl⟩ hsz
 show Runs _ _ _ _ _ _ _ _ _ _ _ _ [s] h0 0 0 8 _ [(.ref t)]
 refine Runs.astoreN (ls' := #[vr s, vr a, .val .null, vr t, .unset]) (g j57 4 rfl) rfl rfl ?_
 refine Runs.aloadN (g j57 5 rfl) rfl rfl ?_
 refine Runs.callVW (argsL := []) (rest := []) (W := 0) (g j57 6 rfl) (wd hw 384 rfl) (wd hw 385 rfl) (fun s hZ => nf_same (notFace_of_selects (args := #[]) (mvT hZ (wd hw 241 rfl))) (mvT (args := #[]) hZ (wd hw 239 rfl)) rfl) (wd hw 387 rfl) (wd hw 388 rfl) (wd hw 389 rfl) (wd hw 197 rfl) (by decide) BO.1 pd_4 rfl rfl rfl rfl (by first | decide | (dsimp only; first | decide | omega)) (by first | decide | (dsimp only; first | decide | omega)) (by first | decide | (dsimp only; first | decide | omega)) (by first | decide | (dsimp only; first | decide | omega)) all0 (by decide) (own_xsl1 l Z a0 hw n0 a t k cap xs _ B0 cpt S_C hcpt) ?_
 rintro v h1 D1 ⟨rfl, rfl, rfl⟩ hsz
 show Runs _ _ _ _ _ _ _ _ _ _ _ _ [s] h0 0 0 13 _ [(.int (Int32.ofNat xs.length))]
 refine Runs.istore (ls' := #[vr s, vr a, .val .null, vr t, vi (Int32.ofNat xs.length)]) (g j57 7 rfl) rfl ?_
 refine Runs.aloadN (g j57 8 rfl) rfl rfl ?_
 refine Runs.callVW (argsL := []) (rest := []) (W := 0) (g j57 9 rfl) (wd hw 392 rfl) (wd hw 340 rfl) (fun s hZ => notFace_of_selects (args := #[]) (mvT hZ (wd hw 342 rfl))) (wd hw 342 rfl) (wd hw 341 rfl) (wd hw 343 rfl) (wd hw 205 rfl) (by decide) BO.1 pd_7 rfl rfl rfl rfl (by first | decide | (dsimp only; first | decide | omega)) (by first | decide | (dsimp only; first | decide | omega)) (by first | decide | (dsimp only; first | decide | omega)) (by first | decide | (dsimp only; first | decide | omega)) all0 (by decide) (own_xil1 l Z a0 hw n0 a t k cap xs _ B0 cpt S_C hcpt) ?_
 rintro v h1 D1 ⟨rfl, rfl, rfl⟩ hsz
 show Runs _ _ _ _ _ _ _ _ _ _ _ _ [s] h0 0 0 19 _ [(.int 0)]
 refine Runs.ifY (t := 41) (g j57 10 rfl) (by decide) (teq (by decide : (0 : Int32) = (0 : Int32))).1 ?_
 refine Runs.getS (g j57 21 rfl) (wd hw 31 rfl) Via.refl S_C ?_
 refine Runs.ifN (g j57 22 rfl) (feq hcpt).1 ?_
 refine Runs.aloadN (g j57 23 rfl) rfl rfl ?_
 refine Runs.getF (g j57 24 rfl) (host := "") (Or.inl (wd hw 524 rfl)) Via.refl (BO.fld (i := 3) rfl) ?_
 refine Runs.ifY (t := 79) (g j57 25 rfl) (by decide) (teq (by decide : (0 : Int32) = (0 : Int32))).1 ?_
 refine Runs.aloadN (g j57 26 rfl) rfl rfl ?_
 refine Runs.iconst (v := (1 : Int32)) (g j57 27 rfl) (by decide) ?_
 refine Runs.putF (i := 1) (ty := .byte) (g j57 28 rfl) (host := "") (Or.inl (wd hw 49 rfl)) Via.refl O0 rfl (lay_0 hw) rfl (Or.inr ⟨(wd hw 50 rfl), rfl, rfl⟩) (wd hw 37 rfl) (by decide) rfl rfl gs (Or.inl (mi 0 rfl)) ?_
 intro h_1 K_2 (O_3 : Obj Z h_1 s S6_ [(S6_, "value", "[B", .null), (S6_, "coder", "B", (.int 1))])
 refine Runs.aloadN (g j57 29 rfl) rfl rfl ?_
 refine Runs.aloadN (g j57 30 rfl) rfl rfl ?_
 refine Runs.iconst (v := (0 : Int32)) (g j57 31 rfl) (by decide) ?_
 refine Runs.iload (g j57 32 rfl) rfl ?_
 refine Runs.iconst (v := (1 : Int32)) (g j57 33 rfl) (by decide) ?_
 refine Runs.ishl (z := Int32.ofNat (2 * xs.length)) (g j57 34 rfl) (own_shl1 (by omega)) ?_
 have A_4 := (BA.keep K_2 (ninS (Ne.symm (Exa.neArv O0.1 BA (wd hw 37 rfl))) nin0))
 refine Runs.callSW (argsL := [(.ref t), (.int 0), (.int (Int32.ofNat (2 * xs.length)))]) (rest := [(.ref s)]) (W := 1) (g j57 35 rfl) (wd hw 393 rfl) (wd hw 394 rfl) (wd hw 127 rfl) (wd hw 395 rfl) (by decide) pd_31 rfl rfl rfl rfl (by first | decide | (dsimp only; first | decide | omega)) (by first | decide | (dsimp only; first | decide | omega)) (by first | decide | (dsimp only; first | decide | omega)) (by first | decide | (dsimp only; first | decide | omega)) all0 (by decide) (own_cr2 l Z a0 hw n0 t k (2 * cap) (2 * xs.length) NS (own_ws xs) (by simp [own_wsl]) (by omega) (by omega) _ A_4) ?_
 rintro v h_11 D1 ⟨b_5, k_6, rfl, g_7, K_8, A_9, E_10, rfl⟩ hsz
 show Runs _ _ _ _ _ _ _ _ _ _ _ _ [b_5, s] h_11 1 (0 + NS) 94 _ [(.ref b_5), (.ref s)]
 have O_12 := (O_3.keep K_8 nin0)
 refine Runs.putF (i := 0) (ty := (.array .byte)) (g j57 36 rfl) (host := "") (Or.inl (wd hw 47 rfl)) Via.refl O_12 rfl (lay_0 hw) rfl (Or.inr ⟨(wd hw 48 rfl), rfl, rfl⟩) (wd hw 37 rfl) (by decide) rfl rfl gs (Or.inl (mi 1 rfl)) ?_
 intro h_13 K_14 (O_15 : Obj Z h_13 s S6_ [(S6_, "value", "[B", (.ref b_5)), (S6_, "coder", "B", (.int 1))])
 have A_16 := (A_9.keep K_14 (ninS (Nat.ne_of_gt (Nat.lt_of_lt_of_le (Nat.lt_of_lt_of_le O0.lt K_2.1) g_7)) nin0))
 refine Runs.weak (D1 := []) (fun _ q => nomatch q) ?_
 exact Runs.retV (g j57 37 rfl) rfl (by first | decide | (dsimp only; first | decide | omega)) (by first | decide | (dsimp only; first | decide | omega)) ⟨rfl, b_5, k_6, (Nat.le_trans K_2.1 g_7), ((((Keep.refl _ _).trans K_2 (allS (Or.inl (mi 0 rfl)) all0)).trans K_8 all0).trans K_14 (allS (Or.inl (mi 0 rfl)) all0)), Or.inr ⟨O_15, A_16, BL, by omega⟩, rfl⟩
theorem own_xsa11 (hw : Wds Z a0) (n0 : Nat) (a t : Addr) (k : ClassId) (cap : Nat) (xs : List Int32) (h0 : Heap) (B0 : SBw Z h0 a t k cap xs) (NS : Nat) (hNS : 2 * xs.length ≤ NS ∧ NS < 100000) (hf : cap = xs.length) (s : Addr) (gs : n0 ≤ s) (O0 : Obj Z h0 s S6_ [(S6_, "value", "[B", .null), (S6_, "coder", "B", (.int 0))]) (cpt : Int32) (S_C : SC Z cpt) (hcpt : ¬ cpt = 0) : Con 1 l Z EL_ n0 m57_ c57_ 5 none ⟨3, 1, NS, 71⟩ #[(.ref s), (.ref a), .null] [s] h0 (fun v h D' => v = none ∧ ∃ u k', h0.size ≤ u ∧ Keep h0 h [s] ∧ Sy Z h s u k' xs ∧ D' = []) := by
 refine Con.of_runs (ls := #[vr s, vr a, .val .null, .unset, .unset]) (by decide +kernel) (ef rfl rfl) ?_
 subst hf
 obtain ⟨BO, BA, BE, BL, hle, hcap⟩ := id B0
 refine Runs.aloadN (g j57 0 rfl) rfl rfl ?_
 refine Runs.initO (W := 0) (g j57 1 rfl) (wd hw 46 rfl) (wd hw 20 rfl) (wd hw 21 rfl) rfl (by first | decide | (dsimp only; first | decide | omega)) rfl (by first | decide | (dsimp only; first | decide | omega)) ?_
 refine Runs.aloadN (g j57 2 rfl) rfl rfl ?_
 refine Runs.callVW (argsL := []) (rest := []) (W := 0) (g j57 3 rfl) (wd hw 379 rfl) (wd hw 380 rfl) (fun s hZ => notFace_of_selects (args := #[]) (mvT hZ (wd hw 382 rfl))) (wd hw 382 rfl) (wd hw 381 rfl) (wd hw 383 rfl) (wd hw 205 rfl) (by decide) BO.1 pd_32 rfl rfl rfl rfl (by first | decide | (dsimp only; first | decide | omega)) (by first | decide | (dsimp only; first | decide | omega)) (by first | decide | (dsimp only; first | decide | omega)) (by first | decide | (dsimp only; first | decide | omega)) all0 (by decide) (own_xgv1 l Z a0 hw n0 a t k xs.length xs _ B0 cpt S_C hcpt) ?_
 rintro v h1 D1 ⟨rfl, rfl, rfl⟩ hsz
 show Runs _ _ _ _ _ _ _ _ _ _ _ _ [s] h0 0 0 8 _ [(.ref t)]
 refine Runs.astoreN (ls' := #[vr s, vr a, .val .null, vr t, .unset]) (g j57 4 rfl) rfl rfl ?_
 refine Runs.aloadN (g j57 5 rfl) rfl rfl ?_
 refine Runs.callVW (argsL := []) (rest := []) (W := 0) (g j57 6 rfl) (wd hw 384 rfl) (wd hw 385 rfl) (fun s hZ => nf_same (notFace_of_selects (args := #[]) (mvT hZ (wd hw 241 rfl))) (mvT (args := #[]) hZ (wd hw 239 rfl)) rfl) (wd hw 387 rfl) (wd hw 388 rfl) (wd hw 389 rfl) (wd hw 197 rfl) (by decide) BO.1 pd_4 rfl rfl rfl rfl (by first | decide | (dsimp only; first | decide | omega)) (by first | decide | (dsimp only; first | decide | omega)) (by first | decide | (dsimp only; first | decide | omega)) (by first | decide | (dsimp only; first | decide | omega)) all0 (by decide) (own_xsl1 l Z a0 hw n0 a t k xs.length xs _ B0 cpt S_C hcpt) ?_
 rintro v h1 D1 ⟨rfl, rfl, rfl⟩ hsz
 show Runs _ _ _ _ _ _ _ _ _ _ _ _ [s] h0 0 0 13 _ [(.int (Int32.ofNat xs.length))]
 refine Runs.istore (ls' := #[vr s, vr a, .val .null, vr t, vi (Int32.ofNat xs.length)]) (g j57 7 rfl) rfl ?_
 refine Runs.aloadN (g j57 8 rfl) rfl rfl ?_
 refine Runs.callVW (argsL := []) (rest := []) (W := 0) (g j57 9 rfl) (wd hw 392 rfl) (wd hw 340 rfl) (fun s hZ => notFace_of_selects (args := #[]) (mvT hZ (wd hw 342 rfl))) (wd hw 342 rfl) (wd hw 341 rfl) (wd hw 343 rfl) (wd hw 205 rfl) (by decide) BO.1 pd_7 rfl rfl rfl rfl (by first | decide | (dsimp only; first | decide | omega)) (by first | decide | (dsimp only; first | decide | omega)) (by first | decide | (dsimp only; first | decide | omega)) (by first | decide | (dsimp only; first | decide | omega)) all0 (by decide) (own_xil1 l Z a0 hw n0 a t k xs.length xs _ B0 cpt S_C hcpt) ?_
 rintro v h1 D1 ⟨rfl, rfl, rfl⟩ hsz
 show Runs _ _ _ _ _ _ _ _ _ _ _ _ [s] h0 0 0 19 _ [(.int 0)]
 refine Runs.ifY (t := 41) (g j57 10 rfl) (by decide) (teq (by decide : (0 : Int32) = (0 : Int32))).1 ?_
 refine Runs.getS (g j57 21 rfl) (wd hw 31 rfl) Via.refl S_C ?_
 refine Runs.ifN (g j57 22 rfl) (feq hcpt).1 ?_
 refine Runs.aloadN (g j57 23 rfl) rfl rfl ?_
 refine Runs.getF (g j57 24 rfl) (host := "") (Or.inl (wd hw 524 rfl)) Via.refl (BO.fld (i := 3) rfl) ?_
 refine Runs.ifY (t := 79) (g j57 25 rfl) (by decide) (teq (by decide : (0 : Int32) = (0 : Int32))).1 ?_
 refine Runs.aloadN (g j57 26 rfl) rfl rfl ?_
 refine Runs.iconst (v := (1 : Int32)) (g j57 27 rfl) (by decide) ?_
 refine Runs.putF (i := 1) (ty := .byte) (g j57 28 rfl) (host := "") (Or.inl (wd hw 49 rfl)) Via.refl O0 rfl (lay_0 hw) rfl (Or.inr ⟨(wd hw 50 rfl), rfl, rfl⟩) (wd hw 37 rfl) (by decide) rfl rfl gs (Or.inl (mi 0 rfl)) ?_
 intro h_1 K_2 (O_3 : Obj Z h_1 s S6_ [(S6_, "value", "[B", .null), (S6_, "coder", "B", (.int 1))])
 refine Runs.aloadN (g j57 29 rfl) rfl rfl ?_
 refine Runs.aloadN (g j57 30 rfl) rfl rfl ?_
 refine Runs.iconst (v := (0 : Int32)) (g j57 31 rfl) (by decide) ?_
 refine Runs.iload (g j57 32 rfl) rfl ?_
 refine Runs.iconst (v := (1 : Int32)) (g j57 33 rfl) (by decide) ?_
 refine Runs.ishl (z := Int32.ofNat (2 * xs.length)) (g j57 34 rfl) (own_shl1 (by omega)) ?_
 have A_4 := (BA.keep K_2 (ninS (Ne.symm (Exa.neArv O0.1 BA (wd hw 37 rfl))) nin0))
 refine Runs.callSW (argsL := [(.ref t), (.int 0), (.int (Int32.ofNat (2 * xs.length)))]) (rest := [(.ref s)]) (W := 1) (g j57 35 rfl) (wd hw 393 rfl) (wd hw 394 rfl) (wd hw 127 rfl) (wd hw 395 rfl) (by decide) pd_31 rfl rfl rfl rfl (by first | decide | (dsimp only; first | decide | omega)) (by first | decide | (dsimp only; first | decide | omega)) (by first | decide | (dsimp only; first | decide | omega)) (by first | decide | (dsimp only; first | decide | omega)) all0 (by decide) (own_cor l Z a0 hw n0 t k (2 * xs.length) NS (own_ws xs) (by omega) _ A_4 (BE.keep K_2)) ?_
 rintro v h_9 D1 ⟨b_5, rfl, g_6, K_7, A_8, rfl⟩ hsz
 show Runs _ _ _ _ _ _ _ _ _ _ _ _ [b_5, s] h_9 1 (0 + NS) 94 _ [(.ref b_5), (.ref s)]
 have O_10 := (O_3.keep K_7 nin0)
 refine Runs.putF (i := 0) (ty := (.array .byte)) (g j57 36 rfl) (host := "") (Or.inl (wd hw 47 rfl)) Via.refl O_10 rfl (lay_0 hw) rfl (Or.inr ⟨(wd hw 48 rfl), rfl, rfl⟩) (wd hw 37 rfl) (by decide) rfl rfl gs (Or.inl (mi 1 rfl)) ?_
 intro h_11 K_12 (O_13 : Obj Z h_11 s S6_ [(S6_, "value", "[B", (.ref b_5)), (S6_, "coder", "B", (.int 1))])
 have A_14 := (A_8.keep K_12 (ninS (Nat.ne_of_gt (Nat.lt_of_lt_of_le (Nat.lt_of_lt_of_le O0.lt K_2.1) g_6)) nin0))
 refine Runs.weak (D1 := []) (fun _ q => nomatch q) ?_
 exact Runs.retV (g j57 37 rfl) rfl (by first | decide | (dsimp only; first | decide | omega)) (by first | decide | (dsimp only; first | decide | omega)) ⟨rfl, b_5, k, (Nat.le_trans K_2.1 g_6), ((((Keep.refl _ _).trans K_2 (allS (Or.inl (mi 0 rfl)) all0)).trans K_7 all0).trans K_12 (allS (Or.inl (mi 0 rfl)) all0)), Or.inr ⟨O_13, A_14, BL, by omega⟩, rfl⟩
theorem own_xsa (hw : Wds Z a0) (n0 : Nat) (a t : Addr) (k : ClassId) (cap : Nat) (xs : List Int32) (h0 : Heap) (B0 : SBx Z h0 a t k cap xs) (NS : Nat) (hNS : 2 * xs.length ≤ NS ∧ NS < 100000) (s : Addr) (gs : n0 ≤ s) (O0 : Obj Z h0 s S6_ [(S6_, "value", "[B", .null), (S6_, "coder", "B", (.int 0))]) (cpt : Int32) (S_C : SC Z cpt) (hcpt : ¬ cpt = 0) : Con 1 l Z EL_ n0 m57_ c57_ 5 none ⟨3, 1, NS, 71⟩ #[(.ref s), (.ref a), .null] [s] h0 (fun v h D' => v = none ∧ ∃ u k', h0.size ≤ u ∧ Keep h0 h [s] ∧ Sy Z h s u k' xs ∧ D' = []) := by
 rcases B0 with B0 | B0
 · rcases Nat.lt_or_ge xs.length cap with hf | hf
   · exact own_xsa00 l Z a0 hw n0 a t k cap xs h0 B0 NS hNS hf s gs O0 cpt S_C hcpt
   · exact own_xsa01 l Z a0 hw n0 a t k cap xs h0 B0 NS hNS (Nat.le_antisymm hf B0.2.2.2.2.1) s gs O0 cpt S_C hcpt
 · rcases Nat.lt_or_ge xs.length cap with hf | hf
   · exact own_xsa10 l Z a0 hw n0 a t k cap xs h0 B0 NS hNS hf s gs O0 cpt S_C hcpt
   · exact own_xsa11 l Z a0 hw n0 a t k cap xs h0 B0 NS hNS (Nat.le_antisymm hf B0.2.2.2.2.1) s gs O0 cpt S_C hcpt

theorem own_xsb (hw : Wds Z a0) (n0 : Nat) (a t : Addr) (k : ClassId) (cap : Nat) (xs : List Int32) (h0 : Heap) (B0 : SBx Z h0 a t k cap xs) (NS : Nat) (hNS : 2 * xs.length ≤ NS ∧ NS < 100000) (s : Addr) (gs : n0 ≤ s) (O0 : Obj Z h0 s S6_ [(S6_, "value", "[B", .null), (S6_, "coder", "B", (.int 0))]) (cpt : Int32) (S_C : SC Z cpt) (hcpt : ¬ cpt = 0) : Con 1 l Z EL_ n0 (⟨S6_, "<init>", "(Ljava/lang/StringBuilder;)V"⟩ : MethodName) c56_ 2 none ⟨4, 1, NS, 87⟩ #[(.ref s), (.ref a)] [s] h0 (fun v h D' => v = none ∧ ∃ u k', h0.size ≤ u ∧ Keep h0 h [s] ∧ Sy Z h s u k' xs ∧ D' = []) := by
 refine Con.of_runs (ls := #[vr s, vr a]) (by decide +kernel) (ef rfl rfl) ?_
 refine Runs.aloadN (g j56 0 rfl) rfl rfl ?_
 refine Runs.aloadN (g j56 1 rfl) rfl rfl ?_
 refine Runs.aconstNull (g j56 2 rfl) ?_
 refine Runs.callCW (argsL := [(.ref a), .null]) (rest := []) (W := 0) (g j56 3 rfl) rfl (wd hw 376 rfl) (wd hw 377 rfl) (wd hw 378 rfl) (wd hw 29 rfl) (by decide) pd_33 rfl rfl rfl rfl (by first | decide | (dsimp only; first | decide | omega)) (by first | decide | (dsimp only; first | decide | omega)) (by first | decide | (dsimp only; first | decide | omega)) (by first | decide | (dsimp only; first | decide | omega)) (allS (mi 0 rfl) all0) (by decide) (own_xsa l Z a0 hw n0 a t k cap xs _ B0 NS hNS s gs O0 cpt S_C hcpt) ?_
 rintro v h1 D1 ⟨rfl, u1, k1, g1, K1, S1, rfl⟩ hsz
 show Runs _ _ _ _ _ _ _ _ _ _ _ _ [s] h1 1 (0 + NS) 6 _ []
 refine Runs.weak (D1 := []) (fun _ q => nomatch q) ?_
 exact Runs.retV (g j56 4 rfl) rfl (by first | decide | (dsimp only; first | decide | omega)) (by first | decide | (dsimp only; first | decide | omega)) ⟨rfl, u1, k1, g1, K1, S1, rfl⟩
theorem own_xs (hw : Wds Z a0) (n0 : Nat) (a t : Addr) (k : ClassId) (cap : Nat) (xs : List Int32) (h0 : Heap) (B0 : SBx Z h0 a t k cap xs) (NS : Nat) (hNS : 2 * xs.length ≤ NS ∧ NS < 100000) (cpt : Int32) (S_C : SC Z cpt) (hcpt : ¬ cpt = 0) : Con 1 l Z EL_ n0 (⟨S10_, "toString", "()Ljava/lang/String;"⟩ : MethodName) c55_ 1 (some (.object S6_)) ⟨5, 2, (4 + NS), 101⟩ #[(.ref a)] [] h0 (fun v h D' => ∃ b u k', v = some (.ref b) ∧ h0.size ≤ b ∧ h0.size ≤ u ∧ Keep h0 h [] ∧ Sy Z h b u k' xs ∧ D' = []) := by
 refine Con.of_runs (ls := #[vr a]) (by decide +kernel) (ef rfl rfl) ?_
 refine Runs.newO (g j55 0 rfl) (wd hw 372 rfl) (wd hw 37 rfl) (wd hw 29 rfl) (lay_0 hw) (by first | decide | (dsimp only; first | decide | omega)) (by first | decide | (dsimp only; first | decide | omega)) ?_
 intro h_1 b_2 g_5 ge_6 K_3 (O_4 : Obj Z h_1 b_2 S6_ [(S6_, "value", "[B", .null), (S6_, "coder", "B", (.int 0))]) U_7
 refine Runs.dup (g j55 1 rfl) rfl ?_
 refine Runs.aloadN (g j55 2 rfl) rfl rfl ?_
 refine Runs.callCW (argsL := [(.ref a)]) (rest := [(.ref b_2)]) (W := 1) (g j55 3 rfl) rfl (wd hw 373 rfl) (wd hw 374 rfl) (wd hw 375 rfl) (wd hw 29 rfl) (by decide) pd_34 rfl rfl rfl rfl (by first | decide | (dsimp only; first | decide | omega)) (by first | decide | (dsimp only; first | decide | omega)) (by first | decide | (dsimp only; first | decide | omega)) (by first | decide | (dsimp only; first | decide | omega)) (allS (mi 0 rfl) all0) (by decide) (own_xsb l Z a0 hw n0 a t k cap xs _ (B0.keep K_3 nin0 nin0) NS hNS b_2 ge_6 O_4 cpt S_C hcpt) ?_
 rintro v h1 D1 ⟨rfl, u1, k1, g1, K1, S1, rfl⟩ hsz
 show Runs _ _ _ _ _ _ _ _ _ _ _ _ [b_2] h1 2 (4 + NS) 8 _ [(.ref b_2)]
 refine Runs.weak (D1 := []) (fun _ q => nomatch q) ?_
 exact Runs.retA (g j55 4 rfl) rfl rfl rfl (by first | decide | (dsimp only; first | decide | omega)) (by first | decide | (dsimp only; first | decide | omega)) ⟨b_2, u1, k1, rfl, g_5, (Nat.le_trans K_3.1 g1), (((Keep.refl _ _).trans K_3 all0).trans K1 (allS (Or.inr (Nat.le_trans (Nat.le_refl _) g_5)) all0)), S1, rfl⟩
theorem own_get10 (hw : Wds Z a0) (n0 : Nat) (c s1 : Addr) (eM : Addr) (S_M : Sta Z Z.heap S12_ "EMPTY" S9_ (.ref eM)) (h0 : Heap) (O0 : Obj Z h0 c S4_ [(S4_, "e0", S9_, (.ref s1)), (S4_, "e1", S9_, (.ref eM))]) : Con 1 l Z EL_ n0 m53_ c53_ 2 (some (.object S8_)) ⟨0, 0, 0, 0⟩ #[(.ref c), (.int 0)] [] h0 (fun v h D' => v = some (.ref s1) ∧ h0 = h ∧ D' = []) := by
 refine Con.of_runs (ls := #[vr c, vi 0]) (by decide +kernel) (ef rfl rfl) ?_
 refine Runs.iloadN (g j53 0 rfl) rfl ?_
 refine Runs.ifN (g j53 1 rfl) (teq (by decide : (0 : Int32) = (0 : Int32))).2 ?_
 refine Runs.aloadN (g j53 2 rfl) rfl rfl ?_
 refine Runs.getF (g j53 3 rfl) (host := "") (Or.inl (wd hw 175 rfl)) Via.refl (O0.fld (i := 0) rfl) ?_
 exact Runs.retA (g j53 4 rfl) rfl rfl rfl (by decide) (by decide) ⟨rfl, rfl, rfl⟩
theorem own_nx10 (hw : Wds Z a0) (n0 : Nat) (i : Addr) (c s1 : Addr) (eM : Addr) (S_M : Sta Z Z.heap S12_ "EMPTY" S9_ (.ref eM)) (h0 : Heap) (O0 : Obj Z h0 c S4_ [(S4_, "e0", S9_, (.ref s1)), (S4_, "e1", S9_, (.ref eM))]) (gi : n0 ≤ i) (I0 : Obj Z h0 i S3_ [(S3_, "list", S16_, (.ref c)), (S3_, "size", "I", (.int 1)), (S3_, "cursor", "I", (.int 0)), (S3_, S22_, "Z", (.int 0))]) : ConH 1 l Z EL_ n0 m52_ c52_ 3 (some (.object S8_)) [((0 : Nat), (24 : Nat), (25 : Nat), (30 : Nat))] ⟨1, 0, 0, 13⟩ #[(.ref i)] [] h0 (fun v h D' => v = some (.ref s1) ∧ Keep h0 h [i] ∧ Obj Z h i S3_ [(S3_, "list", S16_, (.ref c)), (S3_, "size", "I", (.int 1)), (S3_, "cursor", "I", (.int 1)), (S3_, S22_, "Z", (.int 0))] ∧ D' = []) := by
 refine ConH.of_runs (ls := #[vr i, .unset, .unset]) (by decide +kernel) (fun m => by simp [entryFrame, mkF, argsToLocals, Value.category]) ?_
 refine Runs.aloadN (g j52 0 rfl) rfl rfl ?_
 refine Runs.getF (g j52 1 rfl) (host := "") (Or.inl (wd hw 314 rfl)) Via.refl (I0.fld (i := 2) rfl) ?_
 refine Runs.istoreN (ls' := #[vr i, vi 0, .unset]) (g j52 2 rfl) rfl ?_
 refine Runs.aloadN (g j52 3 rfl) rfl rfl ?_
 refine Runs.getF (g j52 4 rfl) (host := "") (Or.inl (wd hw 310 rfl)) Via.refl (I0.fld (i := 0) rfl) ?_
 refine Runs.iloadN (g j52 5 rfl) rfl ?_
 refine Runs.callIW (argsL := [(.int 0)]) (rest := []) (W := 0) (g j52 6 rfl) (wd hw 353 rfl) (wd hw 354 rfl) (wd hw 355 rfl) (wd hw 356 rfl) (wd hw 357 rfl) (wd hw 358 rfl) (wd hw 359 rfl) (wd hw 360 rfl) (wd hw 361 rfl) (wd hw 152 rfl) (by decide) O0.1 pd_35 rfl rfl rfl rfl (by decide) (by decide) (by decide) (by decide) all0 (by decide) (own_get10 l Z a0 hw n0 c s1 eM S_M _ O0) ?_
 rintro v h1 D1 ⟨rfl, rfl, rfl⟩ hsz
 show Runs _ _ _ _ _ _ _ _ _ _ _ _ [] h0 0 0 15 _ [(.ref s1)]
 refine Runs.astoreN (ls' := #[vr i, vi 0, vr s1]) (g j52 7 rfl) rfl rfl ?_
 refine Runs.aloadN (g j52 8 rfl) rfl rfl ?_
 refine Runs.iloadN (g j52 9 rfl) rfl ?_
 refine Runs.iconst (v := (1 : Int32)) (g j52 10 rfl) (by decide) ?_
 refine Runs.iadd (z := (1 : Int32)) (g j52 11 rfl) (by decide) ?_
 refine Runs.putF (i := 2) (ty := .int) (g j52 12 rfl) (host := "") (Or.inl (wd hw 314 rfl)) Via.refl I0 rfl (lay_1 hw) rfl (Or.inl (wd hw 315 rfl)) (wd hw 297 rfl) (by decide) rfl rfl gi (Or.inr ⟨by decide, by decide⟩) ?_
 intro h_1 K_2 (O_3 : Obj Z h_1 i S3_ [(S3_, "list", S16_, (.ref c)), (S3_, "size", "I", (.int 1)), (S3_, "cursor", "I", (.int 1)), (S3_, S22_, "Z", (.int 0))])
 refine Runs.aloadN (g j52 13 rfl) rfl rfl ?_
 exact Runs.retA (g j52 14 rfl) rfl rfl rfl (by decide) (by decide) ⟨rfl, ((Keep.refl _ _).trans K_2 (allS (Or.inl (mi 0 rfl)) all0)), O_3, rfl⟩
theorem own_ats1 (hw : Wds Z a0) (n0 : Nat) (c s1 : Addr) (eM : Addr) (S_M : Sta Z Z.heap S12_ "EMPTY" S9_ (.ref eM)) (h0 : Heap) (O0 : Obj Z h0 c S4_ [(S4_, "e0", S9_, (.ref s1)), (S4_, "e1", S9_, (.ref eM))]) (u1 : Addr) (k1 : ClassId) (x1 : Int32) (S1 : Sy Z h0 s1 u1 k1 [x1]) (hc1 : ¬ s1 = c) (t : Addr) (ht : t < h0.size) (hn0 : n0 ≤ h0.size) (cpt : Int32) (S_C : SC Z cpt) (hcpt : ¬ cpt = 0) (S_A : SA Z) (S_H : SH Z) (S_L : SL Z) (fm : Value) (hfm : fm.isRef = true) (S_F : SF Z fm) : Con 1 l Z EL_ n0 m44_ c44_ 4 (some (.object S6_)) ⟨11, 6, 72, 180⟩ #[(.ref c)] [t] h0 (fun v h D' => ∃ b u' k', v = some (.ref b) ∧ u' ≠ t ∧ Keep h0 h [] ∧ Sy Z h b u' k' [91, x1, 93] ∧ D' = []) := by
 refine Con.of_runs (ls := #[vr c, .unset, .unset, .unset]) (by decide +kernel) (ef rfl rfl) ?_
 refine Runs.aloadN (g j44 0 rfl) rfl rfl ?_
 refine Runs.callVW (argsL := []) (rest := []) (W := 0) (g j44 1 rfl) (wd hw 291 rfl) (wd hw 292 rfl) (fun s hZ => RoadKit.nf_super (args := #[]) (mvT hZ (wd hw 105 rfl))) (wd hw 293 rfl) (wd hw 294 rfl) (wd hw 295 rfl) (wd hw 161 rfl) (by decide) O0.1 pd_6 rfl rfl rfl rfl (by decide) (by decide) (by decide) (by decide) all0 (by decide) (own_itr1 l Z a0 hw n0 c s1 eM S_M _ O0) ?_
 rintro v h1 D1 ⟨i, rfl, gi, K1, I1, rfl⟩ hsz
 show Runs _ _ _ _ _ _ _ _ _ _ _ _ [t] h1 1 4 4 _ [(.ref i)]
 have hi := I1.lt
 have gin : n0 ≤ i := Nat.le_trans hn0 gi
 refine Runs.astoreN (ls' := #[vr c, vr i, .unset, .unset]) (g j44 2 rfl) rfl rfl ?_
 refine Runs.aloadN (g j44 3 rfl) rfl rfl ?_
 refine Runs.callIW (argsL := []) (rest := []) (W := 0) (g j44 4 rfl) (wd hw 318 rfl) (wd hw 319 rfl) (wd hw 320 rfl) (wd hw 321 rfl) (wd hw 322 rfl) (wd hw 323 rfl) (wd hw 324 rfl) (wd hw 325 rfl) (wd hw 326 rfl) (wd hw 298 rfl) (by decide) I1.1 pd_7 rfl rfl rfl rfl (by decide) (by decide) (by decide) (by decide) all0 (by decide) (own_hn1 l Z a0 hw n0 i c 1 0 _ I1 (by decide)) ?_
 rintro v h1 D1 ⟨rfl, rfl, rfl⟩ hsz
 show Runs _ _ _ _ _ _ _ _ _ _ _ _ [t] h1 1 4 11 _ [(.int 1)]
 refine Runs.ifY (t := 17) (g j44 5 rfl) (by decide) (feq (by decide : ¬ ((1 : Int32) = (0 : Int32)))).2 ?_
 refine Runs.newO (g j44 8 rfl) (wd hw 327 rfl) (wd hw 196 rfl) (wd hw 197 rfl) (lay_2 hw) (by decide) (by decide) ?_
 intro h_1 b_2 g_5 ge_6 K_3 (O_4 : Obj Z h_1 b_2 S10_ [(S2_, "value", "[B", .null), (S2_, "coder", "B", (.int 0)), (S2_, "count", "I", (.int 0)), (S2_, S21_, "Z", (.int 0))]) U_7
 refine Runs.dup (g j44 9 rfl) rfl ?_
 refine Runs.callCW (argsL := []) (rest := [(.ref b_2)]) (W := 1) (g j44 10 rfl) rfl (wd hw 328 rfl) (wd hw 199 rfl) (wd hw 200 rfl) (wd hw 197 rfl) (by decide) pd_10 rfl rfl rfl rfl (by decide) (by decide) (by decide) (by decide) all0 (by decide) (own_bi l Z a0 hw n0 b_2 _ ge_6 O_4 cpt S_C hcpt) ?_
 rintro v h2 D1 ⟨rfl, t1, kt, gt1, K2, B1, rfl⟩ hsz
 show Runs _ _ _ _ _ _ _ _ _ _ _ _ [t1, b_2, t] h2 3 24 24 _ [(.ref b_2)]
 have ma : h1.size ≤ b_2 := g_5
 have mt1 : h1.size ≤ t1 := Nat.le_trans K_3.1 gt1
 have a0' : h0.size ≤ b_2 := Nat.le_trans K1.1 ma
 have Kc2 := (K1.trans K_3 all0).trans K2 (allS (Or.inr a0') all0)
 have I2 := (I1.keep K_3 nin0).keep K2 (ninS (Nat.ne_of_lt (Nat.lt_of_lt_of_le hi ma)) nin0)
 have Bx1 : SBx Z h2 b_2 t1 kt 16 [] := Or.inl B1
 have hz2 : h1.size ≤ h2.size := Nat.le_trans K_3.1 K2.1
 refine Runs.weak (D1 := [t1]) (by simp) ?_
 refine Runs.astoreN (ls' := #[vr c, vr i, vr b_2, .unset]) (g j44 11 rfl) rfl rfl ?_
 refine Runs.aloadN (g j44 12 rfl) rfl rfl ?_
 refine Runs.bipush (v := (91 : Int32)) (g j44 13 rfl) (by decide) ?_
 refine Runs.callVW (argsL := [(.int 91)]) (rest := []) (W := 0) (g j44 14 rfl) (wd hw 330 rfl) (wd hw 331 rfl) (fun s hZ => notFace_of_selects (args := #[]) (mvT hZ (wd hw 333 rfl))) (wd hw 333 rfl) (wd hw 332 rfl) (wd hw 334 rfl) (wd hw 197 rfl) (by decide) (own_sbb_ Bx1).1 pd_36 rfl rfl rfl rfl (by decide) (by decide) (by decide) (by decide) (allS (mi 0 rfl) all0) (by decide) (own_sc l Z a0 hw n0 b_2 t1 kt 16 [] _ Bx1 91 ⟨by decide, by decide⟩ (by simp) h1.size ⟨Nat.le_trans hn0 K1.1, hz2⟩ ma mt1 cpt S_C hcpt S_A S_H S_L fm hfm S_F) ?_
 rintro v h_13 D1 ⟨rfl, t_8, k_9, g_10, K_11, B_12, rfl⟩ hsz
 show Runs _ _ _ _ _ _ _ _ _ _ _ _ [t_8, t1] h_13 3 24 31 _ [(.ref b_2)]
 have Bx_14 : SBx Z h_13 b_2 t_8 k_9 16 [91] := B_12
 have Kc_15 := Kc2.trans K_11 (allS (Or.inr a0') (allS (Or.inr (Nat.le_trans K1.1 mt1)) all0))
 have I_16 := I2.keep K_11 (ninS (Nat.ne_of_lt (Nat.lt_of_lt_of_le hi ma)) (ninS (Nat.ne_of_lt (Nat.lt_of_lt_of_le hi mt1)) nin0))
 have hz_17 := Nat.le_trans hz2 K_11.1
 refine Runs.weak (D1 := [t_8]) (by simp) ?_
 refine Runs.pop (g j44 15 rfl) rfl ?_
 refine Runs.aloadN (g j44 16 rfl) rfl rfl ?_
 refine Runs.callIH (argsL := []) (rest := []) (W := 0) (g j44 17 rfl) (wd hw 345 rfl) (wd hw 346 rfl) (wd hw 347 rfl) (wd hw 348 rfl) (wd hw 349 rfl) (wd hw 350 rfl) (wd hw 351 rfl) (wd hw 325 rfl) (wd hw 352 rfl) (wd hw 298 rfl) (by decide) I_16.1 pd_37 rfl rfl rfl rfl (by decide) (by decide) (by decide) (by decide) all0 (by decide) (own_nx10 l Z a0 hw n0 i c s1 eM S_M _ (O0.keep Kc_15 nin0) gin I_16) ?_
 rintro v h_20 D1 ⟨rfl, K_18, I_19, rfl⟩ hsz
 show Runs _ _ _ _ _ _ _ _ _ _ _ _ [t_8] h_20 3 24 38 _ [(.ref s1)]
 have Bx_21 := Bx_14.keep K_18 (ninS (Nat.ne_of_gt (Nat.lt_of_lt_of_le hi ma)) nin0) (ninS (Nat.ne_of_gt (Nat.lt_of_lt_of_le hi g_10)) nin0)
 have Kc_22 := Kc_15.trans K_18 (allS (Or.inr gi) all0)
 have hz_23 := Nat.le_trans hz_17 K_18.1
 refine Runs.astoreN (ls' := #[vr c, vr i, vr b_2, vr s1]) (g j44 18 rfl) rfl rfl ?_
 refine Runs.aloadN (g j44 19 rfl) rfl rfl ?_
 refine Runs.aloadN (g j44 20 rfl) rfl rfl ?_
 refine Runs.aloadN (g j44 21 rfl) rfl rfl ?_
 refine Runs.acY (t := 50) (g j44 22 rfl) (by decide) rfl rfl (Jvm.Free.XT.aa_ne_t (fun q => hc1 (Value.ref.inj q))) ?_
 refine Runs.aloadN (g j44 23 rfl) rfl rfl ?_
 refine Runs.callVW (argsL := [(.ref s1)]) (rest := []) (W := 0) (g j44 24 rfl) (wd hw 362 rfl) (wd hw 278 rfl) (fun s hZ => notFace_of_selects (args := #[]) (mvT hZ (wd hw 280 rfl))) (wd hw 280 rfl) (wd hw 279 rfl) (wd hw 281 rfl) (wd hw 197 rfl) (by decide) (own_sbb_ Bx_21).1 pd_38 rfl rfl rfl rfl (by decide) (by decide) (by decide) (by decide) (allS (mi 0 rfl) all0) (by decide) (own_sxos l Z a0 hw n0 b_2 t_8 k_9 16 [91] _ Bx_21 s1 [x1] (own_vos l Z a0 hw n0 t_8 s1 u1 k1 [x1] _ (S1.keep Kc_22 nin0 nin0) (Nat.ne_of_lt (Nat.lt_of_lt_of_le (own_sxa S1).2 (Nat.le_trans K1.1 g_10)))) (by simp) h1.size ⟨Nat.le_trans hn0 K1.1, hz_23⟩ ma g_10 32 (by decide) cpt S_C hcpt S_A S_H S_L fm hfm S_F) ?_
 rintro v h_29 D1 ⟨rfl, t_24, k_25, g_26, K_27, B_28, rfl⟩ hsz
 show Runs _ _ _ _ _ _ _ _ _ _ _ _ [t_24, t_8] h_29 4 56 54 _ [(.ref b_2)]
 have Bx_30 : SBx Z h_29 b_2 t_24 k_25 16 [91, x1] := B_28
 have Kc_31 := Kc_22.trans K_27 (allS (Or.inr a0') (allS (Or.inr (Nat.le_trans K1.1 g_10)) all0))
 have I_32 := I_19.keep K_27 (ninS (Nat.ne_of_lt (Nat.lt_of_lt_of_le hi ma)) (ninS (Nat.ne_of_lt (Nat.lt_of_lt_of_le hi g_10)) nin0))
 have hz_33 := Nat.le_trans hz_23 K_27.1
 refine Runs.weak (D1 := [t_24]) (by simp) ?_
 refine Runs.pop (g j44 25 rfl) rfl ?_
 refine Runs.aloadN (g j44 26 rfl) rfl rfl ?_
 refine Runs.callIW (argsL := []) (rest := []) (W := 0) (g j44 27 rfl) (wd hw 318 rfl) (wd hw 319 rfl) (wd hw 320 rfl) (wd hw 321 rfl) (wd hw 322 rfl) (wd hw 323 rfl) (wd hw 324 rfl) (wd hw 325 rfl) (wd hw 326 rfl) (wd hw 298 rfl) (by decide) I_32.1 pd_7 rfl rfl rfl rfl (by decide) (by decide) (by decide) (by decide) all0 (by decide) (own_hn0 l Z a0 hw n0 i c 1 1 _ I_32 (by decide)) ?_
 rintro v h1 D1 ⟨rfl, rfl, rfl⟩ hsz
 show Runs _ _ _ _ _ _ _ _ _ _ _ _ [t_24] h_29 4 56 61 _ [(.int 0)]
 refine Runs.ifN (g j44 28 rfl) (teq (by decide : (0 : Int32) = (0 : Int32))).2 ?_
 refine Runs.aloadN (g j44 29 rfl) rfl rfl ?_
 refine Runs.bipush (v := (93 : Int32)) (g j44 30 rfl) (by decide) ?_
 refine Runs.callVW (argsL := [(.int 93)]) (rest := []) (W := 0) (g j44 31 rfl) (wd hw 330 rfl) (wd hw 331 rfl) (fun s hZ => notFace_of_selects (args := #[]) (mvT hZ (wd hw 333 rfl))) (wd hw 333 rfl) (wd hw 332 rfl) (wd hw 334 rfl) (wd hw 197 rfl) (by decide) (own_sbb_ Bx_30).1 pd_36 rfl rfl rfl rfl (by decide) (by decide) (by decide) (by decide) (allS (mi 0 rfl) all0) (by decide) (own_sc l Z a0 hw n0 b_2 t_24 k_25 16 [91, x1] _ Bx_30 93 ⟨by decide, by decide⟩ (by simp) h1.size ⟨Nat.le_trans hn0 K1.1, hz_33⟩ ma g_26 cpt S_C hcpt S_A S_H S_L fm hfm S_F) ?_
 rintro v h_39 D1 ⟨rfl, t_34, k_35, g_36, K_37, B_38, rfl⟩ hsz
 show Runs _ _ _ _ _ _ _ _ _ _ _ _ [t_34, t_24] h_39 4 56 70 _ [(.ref b_2)]
 have Bx_40 : SBx Z h_39 b_2 t_34 k_35 16 [91, x1, 93] := B_38
 have Kc_41 := Kc_31.trans K_37 (allS (Or.inr a0') (allS (Or.inr (Nat.le_trans K1.1 g_26)) all0))
 have I_42 := I_32.keep K_37 (ninS (Nat.ne_of_lt (Nat.lt_of_lt_of_le hi ma)) (ninS (Nat.ne_of_lt (Nat.lt_of_lt_of_le hi g_26)) nin0))
 have hz_43 := Nat.le_trans hz_33 K_37.1
 refine Runs.weak (D1 := [t_34]) (by simp) ?_
 refine Runs.callVW (argsL := []) (rest := []) (W := 0) (g j44 32 rfl) (wd hw 367 rfl) (wd hw 368 rfl) (fun s hZ => notFace_of_selects (args := #[]) (mvT hZ (wd hw 370 rfl))) (wd hw 370 rfl) (wd hw 369 rfl) (wd hw 371 rfl) (wd hw 197 rfl) (by decide) (own_sbb_ Bx_40).1 pd_21 rfl rfl rfl rfl (by decide) (by decide) (by decide) (by decide) all0 (by decide) (own_xs l Z a0 hw n0 b_2 t_34 k_35 16 [91, x1, 93] _ Bx_40 12 (by simp) cpt S_C hcpt) ?_
 rintro v h9 D1 ⟨b, ub, kb, rfl, gb, gu, K9, S9, rfl⟩ hsz
 show Runs _ _ _ _ _ _ _ _ _ _ _ _ [t_34] h9 6 72 73 _ [(.ref b)]
 have K10 := Kc_41.trans K9 all0
 refine Runs.weak (D1 := []) (fun _ q => nomatch q) ?_
 exact Runs.retA (g j44 33 rfl) rfl rfl rfl (by decide) (by decide) ⟨b, ub, kb, rfl, (Nat.ne_of_gt (Nat.lt_of_lt_of_le ht (Nat.le_trans Kc_41.1 gu))), K10, S9, rfl⟩
theorem own_sz2 (hw : Wds Z a0) (n0 : Nat) (c s1 s2 : Addr) (eM : Addr) (S_M : Sta Z Z.heap S12_ "EMPTY" S9_ (.ref eM)) (h0 : Heap) (O0 : Obj Z h0 c S4_ [(S4_, "e0", S9_, (.ref s1)), (S4_, "e1", S9_, (.ref s2))]) (he : ¬ s2 = eM) : Con 1 l Z EL_ n0 m46_ c46_ 1 (some .int) ⟨0, 0, 0, 0⟩ #[(.ref c)] [] h0 (fun v h D' => v = some (.int 2) ∧ h0 = h ∧ D' = []) := by
 refine Con.of_runs (ls := #[vr c]) (by decide +kernel) (ef rfl rfl) ?_
 refine Runs.aloadN (g j46 0 rfl) rfl rfl ?_
 refine Runs.getF (g j46 1 rfl) (host := "") (Or.inl (wd hw 178 rfl)) Via.refl (O0.fld (i := 1) rfl) ?_
 refine Runs.getSN (g j46 2 rfl) (wd hw 177 rfl) Via.refl S_M ?_
 refine Runs.acN (g j46 3 rfl) rfl rfl (Jvm.Free.XT.aa_eq_f (fun q => he (Value.ref.inj q))) ?_
 refine Runs.iconst (v := (2 : Int32)) (g j46 4 rfl) (by decide) ?_
 refine Runs.goto (t := 15) (g j46 5 rfl) (by decide) ?_
 exact Runs.retI (z := (2 : Int32)) (g j46 7 rfl) rfl (Or.inl rfl) (by decide) (by decide) (by decide) ⟨rfl, rfl, rfl⟩
theorem own_itr2 (hw : Wds Z a0) (n0 : Nat) (c s1 s2 : Addr) (eM : Addr) (S_M : Sta Z Z.heap S12_ "EMPTY" S9_ (.ref eM)) (h0 : Heap) (O0 : Obj Z h0 c S4_ [(S4_, "e0", S9_, (.ref s1)), (S4_, "e1", S9_, (.ref s2))]) (he : ¬ s2 = eM) : Con 1 l Z EL_ n0 m45_ c45_ 1 (some (.object "java/util/Iterator")) ⟨2, 1, 4, 27⟩ #[(.ref c)] [] h0 (fun v h D' => ∃ i, v = some (.ref i) ∧ h0.size ≤ i ∧ Keep h0 h [] ∧ Obj Z h i S3_ [(S3_, "list", S16_, (.ref c)), (S3_, "size", "I", (.int 2)), (S3_, "cursor", "I", (.int 0)), (S3_, S22_, "Z", (.int 0))] ∧ D' = []) := by
 refine Con.of_runs (ls := #[vr c]) (by decide +kernel) (ef rfl rfl) ?_
 refine Runs.newO (g j45 0 rfl) (wd hw 296 rfl) (wd hw 297 rfl) (wd hw 298 rfl) (lay_1 hw) (by decide) (by decide) ?_
 intro h_1 b_2 g_5 ge_6 K_3 (O_4 : Obj Z h_1 b_2 S3_ [(S3_, "list", S16_, .null), (S3_, "size", "I", (.int 0)), (S3_, "cursor", "I", (.int 0)), (S3_, S22_, "Z", (.int 0))]) U_7
 refine Runs.dup (g j45 1 rfl) rfl ?_
 refine Runs.aloadN (g j45 2 rfl) rfl rfl ?_
 refine Runs.aloadN (g j45 3 rfl) rfl rfl ?_
 refine Runs.callVUW (argsL := []) (rest := [(.ref c), (.ref b_2), (.ref b_2)]) (W := 3) (g j45 4 rfl) (wd hw 299 rfl) (wd hw 300 rfl) (wd hw 301 rfl) (by decide) (wd hw 302 rfl) (wd hw 303 rfl) (wd hw 304 rfl) (wd hw 152 rfl) (O0.1.keep K_3) pd_4 rfl rfl rfl rfl (by decide) (by decide) (by decide) (by decide) all0 (by decide) (own_sz2 l Z a0 hw n0 c s1 s2 eM S_M _ (O0.keep K_3 nin0) he) ?_
 rintro v h1 D1 ⟨rfl, rfl, rfl⟩ hsz
 show Runs _ _ _ _ _ _ _ _ _ _ _ _ [b_2] h_1 1 4 9 _ [(.int 2), (.ref c), (.ref b_2), (.ref b_2)]
 refine Runs.callCW (argsL := [(.ref c), (.int 2)]) (rest := [(.ref b_2)]) (W := 1) (g j45 5 rfl) rfl (wd hw 305 rfl) (wd hw 306 rfl) (wd hw 308 rfl) (wd hw 298 rfl) (by decide) pd_5 rfl rfl rfl rfl (by decide) (by decide) (by decide) (by decide) all0 (by decide) (own_lii l Z a0 hw n0 b_2 c 2 _ ge_6 O_4) ?_
 rintro v h9 D1 ⟨rfl, K9, O9, rfl⟩ hsz
 show Runs _ _ _ _ _ _ _ _ _ _ _ _ [b_2] h9 1 4 12 _ [(.ref b_2)]
 refine Runs.weak (D1 := []) (fun _ q => nomatch q) ?_
 exact Runs.retA (g j45 6 rfl) rfl rfl rfl (by decide) (by decide) ⟨b_2, rfl, g_5, (((Keep.refl _ _).trans K_3 all0).trans K9 (allS (Or.inr (Nat.le_trans (Nat.le_refl _) g_5)) all0)), O9, rfl⟩
theorem own_get20 (hw : Wds Z a0) (n0 : Nat) (c s1 s2 : Addr) (eM : Addr) (S_M : Sta Z Z.heap S12_ "EMPTY" S9_ (.ref eM)) (h0 : Heap) (O0 : Obj Z h0 c S4_ [(S4_, "e0", S9_, (.ref s1)), (S4_, "e1", S9_, (.ref s2))]) (he : ¬ s2 = eM) : Con 1 l Z EL_ n0 m53_ c53_ 2 (some (.object S8_)) ⟨0, 0, 0, 0⟩ #[(.ref c), (.int 0)] [] h0 (fun v h D' => v = some (.ref s1) ∧ h0 = h ∧ D' = []) := by
 refine Con.of_runs (ls := #[vr c, vi 0]) (by decide +kernel) (ef rfl rfl) ?_
 refine Runs.iloadN (g j53 0 rfl) rfl ?_
 refine Runs.ifN (g j53 1 rfl) (teq (by decide : (0 : Int32) = (0 : Int32))).2 ?_
 refine Runs.aloadN (g j53 2 rfl) rfl rfl ?_
 refine Runs.getF (g j53 3 rfl) (host := "") (Or.inl (wd hw 175 rfl)) Via.refl (O0.fld (i := 0) rfl) ?_
 exact Runs.retA (g j53 4 rfl) rfl rfl rfl (by decide) (by decide) ⟨rfl, rfl, rfl⟩
theorem own_nx20 (hw : Wds Z a0) (n0 : Nat) (i : Addr) (c s1 s2 : Addr) (eM : Addr) (S_M : Sta Z Z.heap S12_ "EMPTY" S9_ (.ref eM)) (h0 : Heap) (O0 : Obj Z h0 c S4_ [(S4_, "e0", S9_, (.ref s1)), (S4_, "e1", S9_, (.ref s2))]) (he : ¬ s2 = eM) (gi : n0 ≤ i) (I0 : Obj Z h0 i S3_ [(S3_, "list", S16_, (.ref c)), (S3_, "size", "I", (.int 2)), (S3_, "cursor", "I", (.int 0)), (S3_, S22_, "Z", (.int 0))]) : ConH 1 l Z EL_ n0 m52_ c52_ 3 (some (.object S8_)) [((0 : Nat), (24 : Nat), (25 : Nat), (30 : Nat))] ⟨1, 0, 0, 13⟩ #[(.ref i)] [] h0 (fun v h D' => v = some (.ref s1) ∧ Keep h0 h [i] ∧ Obj Z h i S3_ [(S3_, "list", S16_, (.ref c)), (S3_, "size", "I", (.int 2)), (S3_, "cursor", "I", (.int 1)), (S3_, S22_, "Z", (.int 0))] ∧ D' = []) := by
 refine ConH.of_runs (ls := #[vr i, .unset, .unset]) (by decide +kernel) (fun m => by simp [entryFrame, mkF, argsToLocals, Value.category]) ?_
 refine Runs.aloadN (g j52 0 rfl) rfl rfl ?_
 refine Runs.getF (g j52 1 rfl) (host := "") (Or.inl (wd hw 314 rfl)) Via.refl (I0.fld (i := 2) rfl) ?_
 refine Runs.istoreN (ls' := #[vr i, vi 0, .unset]) (g j52 2 rfl) rfl ?_
 refine Runs.aloadN (g j52 3 rfl) rfl rfl ?_
 refine Runs.getF (g j52 4 rfl) (host := "") (Or.inl (wd hw 310 rfl)) Via.refl (I0.fld (i := 0) rfl) ?_
 refine Runs.iloadN (g j52 5 rfl) rfl ?_
 refine Runs.callIW (argsL := [(.int 0)]) (rest := []) (W := 0) (g j52 6 rfl) (wd hw 353 rfl) (wd hw 354 rfl) (wd hw 355 rfl) (wd hw 356 rfl) (wd hw 357 rfl) (wd hw 358 rfl) (wd hw 359 rfl) (wd hw 360 rfl) (wd hw 361 rfl) (wd hw 152 rfl) (by decide) O0.1 pd_35 rfl rfl rfl rfl (by decide) (by decide) (by decide) (by decide) all0 (by decide) (own_get20 l Z a0 hw n0 c s1 s2 eM S_M _ O0 he) ?_
 rintro v h1 D1 ⟨rfl, rfl, rfl⟩ hsz
 show Runs _ _ _ _ _ _ _ _ _ _ _ _ [] h0 0 0 15 _ [(.ref s1)]
 refine Runs.astoreN (ls' := #[vr i, vi 0, vr s1]) (g j52 7 rfl) rfl rfl ?_
 refine Runs.aloadN (g j52 8 rfl) rfl rfl ?_
 refine Runs.iloadN (g j52 9 rfl) rfl ?_
 refine Runs.iconst (v := (1 : Int32)) (g j52 10 rfl) (by decide) ?_
 refine Runs.iadd (z := (1 : Int32)) (g j52 11 rfl) (by decide) ?_
 refine Runs.putF (i := 2) (ty := .int) (g j52 12 rfl) (host := "") (Or.inl (wd hw 314 rfl)) Via.refl I0 rfl (lay_1 hw) rfl (Or.inl (wd hw 315 rfl)) (wd hw 297 rfl) (by decide) rfl rfl gi (Or.inr ⟨by decide, by decide⟩) ?_
 intro h_1 K_2 (O_3 : Obj Z h_1 i S3_ [(S3_, "list", S16_, (.ref c)), (S3_, "size", "I", (.int 2)), (S3_, "cursor", "I", (.int 1)), (S3_, S22_, "Z", (.int 0))])
 refine Runs.aloadN (g j52 13 rfl) rfl rfl ?_
 exact Runs.retA (g j52 14 rfl) rfl rfl rfl (by decide) (by decide) ⟨rfl, ((Keep.refl _ _).trans K_2 (allS (Or.inl (mi 0 rfl)) all0)), O_3, rfl⟩
theorem own_get21 (hw : Wds Z a0) (n0 : Nat) (c s1 s2 : Addr) (eM : Addr) (S_M : Sta Z Z.heap S12_ "EMPTY" S9_ (.ref eM)) (h0 : Heap) (O0 : Obj Z h0 c S4_ [(S4_, "e0", S9_, (.ref s1)), (S4_, "e1", S9_, (.ref s2))]) (he : ¬ s2 = eM) : Con 1 l Z EL_ n0 m53_ c53_ 2 (some (.object S8_)) ⟨0, 0, 0, 0⟩ #[(.ref c), (.int 1)] [] h0 (fun v h D' => v = some (.ref s2) ∧ h0 = h ∧ D' = []) := by
 refine Con.of_runs (ls := #[vr c, vi 1]) (by decide +kernel) (ef rfl rfl) ?_
 refine Runs.iloadN (g j53 0 rfl) rfl ?_
 refine Runs.ifY (t := 9) (g j53 1 rfl) (by decide) (feq (by decide : ¬ ((1 : Int32) = (0 : Int32)))).2 ?_
 refine Runs.iloadN (g j53 5 rfl) rfl ?_
 refine Runs.iconst (v := (1 : Int32)) (g j53 6 rfl) (by decide) ?_
 refine Runs.icN (g j53 7 rfl) (teq (by decide : (1 : Int32) = (1 : Int32))).2 ?_
 refine Runs.aloadN (g j53 8 rfl) rfl rfl ?_
 refine Runs.getF (g j53 9 rfl) (host := "") (Or.inl (wd hw 178 rfl)) Via.refl (O0.fld (i := 1) rfl) ?_
 refine Runs.getSN (g j53 10 rfl) (wd hw 177 rfl) Via.refl S_M ?_
 refine Runs.acN (g j53 11 rfl) rfl rfl (Jvm.Free.XT.aa_eq_f (fun q => he (Value.ref.inj q))) ?_
 refine Runs.aloadN (g j53 12 rfl) rfl rfl ?_
 refine Runs.getF (g j53 13 rfl) (host := "") (Or.inl (wd hw 178 rfl)) Via.refl (O0.fld (i := 1) rfl) ?_
 exact Runs.retA (g j53 14 rfl) rfl rfl rfl (by decide) (by decide) ⟨rfl, rfl, rfl⟩
theorem own_nx21 (hw : Wds Z a0) (n0 : Nat) (i : Addr) (c s1 s2 : Addr) (eM : Addr) (S_M : Sta Z Z.heap S12_ "EMPTY" S9_ (.ref eM)) (h0 : Heap) (O0 : Obj Z h0 c S4_ [(S4_, "e0", S9_, (.ref s1)), (S4_, "e1", S9_, (.ref s2))]) (he : ¬ s2 = eM) (gi : n0 ≤ i) (I0 : Obj Z h0 i S3_ [(S3_, "list", S16_, (.ref c)), (S3_, "size", "I", (.int 2)), (S3_, "cursor", "I", (.int 1)), (S3_, S22_, "Z", (.int 0))]) : ConH 1 l Z EL_ n0 m52_ c52_ 3 (some (.object S8_)) [((0 : Nat), (24 : Nat), (25 : Nat), (30 : Nat))] ⟨1, 0, 0, 13⟩ #[(.ref i)] [] h0 (fun v h D' => v = some (.ref s2) ∧ Keep h0 h [i] ∧ Obj Z h i S3_ [(S3_, "list", S16_, (.ref c)), (S3_, "size", "I", (.int 2)), (S3_, "cursor", "I", (.int 2)), (S3_, S22_, "Z", (.int 0))] ∧ D' = []) := by
 refine ConH.of_runs (ls := #[vr i, .unset, .unset]) (by decide +kernel) (fun m => by simp [entryFrame, mkF, argsToLocals, Value.category]) ?_
 refine Runs.aloadN (g j52 0 rfl) rfl rfl ?_
 refine Runs.getF (g j52 1 rfl) (host := "") (Or.inl (wd hw 314 rfl)) Via.refl (I0.fld (i := 2) rfl) ?_
 refine Runs.istoreN (ls' := #[vr i, vi 1, .unset]) (g j52 2 rfl) rfl ?_
 refine Runs.aloadN (g j52 3 rfl) rfl rfl ?_
 refine Runs.getF (g j52 4 rfl) (host := "") (Or.inl (wd hw 310 rfl)) Via.refl (I0.fld (i := 0) rfl) ?_
 refine Runs.iloadN (g j52 5 rfl) rfl ?_
 refine Runs.callIW (argsL := [(.int 1)]) (rest := []) (W := 0) (g j52 6 rfl) (wd hw 353 rfl) (wd hw 354 rfl) (wd hw 355 rfl) (wd hw 356 rfl) (wd hw 357 rfl) (wd hw 358 rfl) (wd hw 359 rfl) (wd hw 360 rfl) (wd hw 361 rfl) (wd hw 152 rfl) (by decide) O0.1 pd_35 rfl rfl rfl rfl (by decide) (by decide) (by decide) (by decide) all0 (by decide) (own_get21 l Z a0 hw n0 c s1 s2 eM S_M _ O0 he) ?_
 rintro v h1 D1 ⟨rfl, rfl, rfl⟩ hsz
 show Runs _ _ _ _ _ _ _ _ _ _ _ _ [] h0 0 0 15 _ [(.ref s2)]
 refine Runs.astoreN (ls' := #[vr i, vi 1, vr s2]) (g j52 7 rfl) rfl rfl ?_
 refine Runs.aloadN (g j52 8 rfl) rfl rfl ?_
 refine Runs.iloadN (g j52 9 rfl) rfl ?_
 refine Runs.iconst (v := (1 : Int32)) (g j52 10 rfl) (by decide) ?_
 refine Runs.iadd (z := (2 : Int32)) (g j52 11 rfl) (by decide) ?_
 refine Runs.putF (i := 2) (ty := .int) (g j52 12 rfl) (host := "") (Or.inl (wd hw 314 rfl)) Via.refl I0 rfl (lay_1 hw) rfl (Or.inl (wd hw 315 rfl)) (wd hw 297 rfl) (by decide) rfl rfl gi (Or.inr ⟨by decide, by decide⟩) ?_
 intro h_1 K_2 (O_3 : Obj Z h_1 i S3_ [(S3_, "list", S16_, (.ref c)), (S3_, "size", "I", (.int 2)), (S3_, "cursor", "I", (.int 2)), (S3_, S22_, "Z", (.int 0))])
 refine Runs.aloadN (g j52 13 rfl) rfl rfl ?_
 exact Runs.retA (g j52 14 rfl) rfl rfl rfl (by decide) (by decide) ⟨rfl, ((Keep.refl _ _).trans K_2 (allS (Or.inl (mi 0 rfl)) all0)), O_3, rfl⟩
theorem own_ats2 (hw : Wds Z a0) (n0 : Nat) (c s1 s2 : Addr) (eM : Addr) (S_M : Sta Z Z.heap S12_ "EMPTY" S9_ (.ref eM)) (h0 : Heap) (O0 : Obj Z h0 c S4_ [(S4_, "e0", S9_, (.ref s1)), (S4_, "e1", S9_, (.ref s2))]) (he : ¬ s2 = eM) (u1 : Addr) (k1 : ClassId) (x1 : Int32) (S1 : Sy Z h0 s1 u1 k1 [x1]) (hc1 : ¬ s1 = c) (u2 : Addr) (k2 : ClassId) (x2 : Int32) (S2 : Sy Z h0 s2 u2 k2 [x2]) (hc2 : ¬ s2 = c) (t : Addr) (ht : t < h0.size) (hn0 : n0 ≤ h0.size) (cpt : Int32) (S_C : SC Z cpt) (hcpt : ¬ cpt = 0) (S_A : SA Z) (S_H : SH Z) (S_L : SL Z) (fm : Value) (hfm : fm.isRef = true) (S_F : SF Z fm) : Con 1 l Z EL_ n0 m44_ c44_ 4 (some (.object S6_)) ⟨11, 7, 104, 180⟩ #[(.ref c)] [t] h0 (fun v h D' => ∃ b u' k', v = some (.ref b) ∧ u' ≠ t ∧ Keep h0 h [] ∧ Sy Z h b u' k' [91, x1, 44, 32, x2, 93] ∧ D' = []) := by
 refine Con.of_runs (ls := #[vr c, .unset, .unset, .unset]) (by decide +kernel) (ef rfl rfl) ?_
 refine Runs.aloadN (g j44 0 rfl) rfl rfl ?_
 refine Runs.callVW (argsL := []) (rest := []) (W := 0) (g j44 1 rfl) (wd hw 291 rfl) (wd hw 292 rfl) (fun s hZ => RoadKit.nf_super (args := #[]) (mvT hZ (wd hw 105 rfl))) (wd hw 293 rfl) (wd hw 294 rfl) (wd hw 295 rfl) (wd hw 161 rfl) (by decide) O0.1 pd_6 rfl rfl rfl rfl (by decide) (by decide) (by decide) (by decide) all0 (by decide) (own_itr2 l Z a0 hw n0 c s1 s2 eM S_M _ O0 he) ?_
 rintro v h1 D1 ⟨i, rfl, gi, K1, I1, rfl⟩ hsz
 show Runs _ _ _ _ _ _ _ _ _ _ _ _ [t] h1 1 4 4 _ [(.ref i)]
 have hi := I1.lt
 have gin : n0 ≤ i := Nat.le_trans hn0 gi
 refine Runs.astoreN (ls' := #[vr c, vr i, .unset, .unset]) (g j44 2 rfl) rfl rfl ?_
 refine Runs.aloadN (g j44 3 rfl) rfl rfl ?_
 refine Runs.callIW (argsL := []) (rest := []) (W := 0) (g j44 4 rfl) (wd hw 318 rfl) (wd hw 319 rfl) (wd hw 320 rfl) (wd hw 321 rfl) (wd hw 322 rfl) (wd hw 323 rfl) (wd hw 324 rfl) (wd hw 325 rfl) (wd hw 326 rfl) (wd hw 298 rfl) (by decide) I1.1 pd_7 rfl rfl rfl rfl (by decide) (by decide) (by decide) (by decide) all0 (by decide) (own_hn1 l Z a0 hw n0 i c 2 0 _ I1 (by decide)) ?_
 rintro v h1 D1 ⟨rfl, rfl, rfl⟩ hsz
 show Runs _ _ _ _ _ _ _ _ _ _ _ _ [t] h1 1 4 11 _ [(.int 1)]
 refine Runs.ifY (t := 17) (g j44 5 rfl) (by decide) (feq (by decide : ¬ ((1 : Int32) = (0 : Int32)))).2 ?_
 refine Runs.newO (g j44 8 rfl) (wd hw 327 rfl) (wd hw 196 rfl) (wd hw 197 rfl) (lay_2 hw) (by decide) (by decide) ?_
 intro h_1 b_2 g_5 ge_6 K_3 (O_4 : Obj Z h_1 b_2 S10_ [(S2_, "value", "[B", .null), (S2_, "coder", "B", (.int 0)), (S2_, "count", "I", (.int 0)), (S2_, S21_, "Z", (.int 0))]) U_7
 refine Runs.dup (g j44 9 rfl) rfl ?_
 refine Runs.callCW (argsL := []) (rest := [(.ref b_2)]) (W := 1) (g j44 10 rfl) rfl (wd hw 328 rfl) (wd hw 199 rfl) (wd hw 200 rfl) (wd hw 197 rfl) (by decide) pd_10 rfl rfl rfl rfl (by decide) (by decide) (by decide) (by decide) all0 (by decide) (own_bi l Z a0 hw n0 b_2 _ ge_6 O_4 cpt S_C hcpt) ?_
 rintro v h2 D1 ⟨rfl, t1, kt, gt1, K2, B1, rfl⟩ hsz
 show Runs _ _ _ _ _ _ _ _ _ _ _ _ [t1, b_2, t] h2 3 24 24 _ [(.ref b_2)]
 have ma : h1.size ≤ b_2 := g_5
 have mt1 : h1.size ≤ t1 := Nat.le_trans K_3.1 gt1
 have a0' : h0.size ≤ b_2 := Nat.le_trans K1.1 ma
 have Kc2 := (K1.trans K_3 all0).trans K2 (allS (Or.inr a0') all0)
 have I2 := (I1.keep K_3 nin0).keep K2 (ninS (Nat.ne_of_lt (Nat.lt_of_lt_of_le hi ma)) nin0)
 have Bx1 : SBx Z h2 b_2 t1 kt 16 [] := Or.inl B1
 have hz2 : h1.size ≤ h2.size := Nat.le_trans K_3.1 K2.1
 refine Runs.weak (D1 := [t1]) (by simp) ?_
 refine Runs.astoreN (ls' := #[vr c, vr i, vr b_2, .unset]) (g j44 11 rfl) rfl rfl ?_
 refine Runs.aloadN (g j44 12 rfl) rfl rfl ?_
 refine Runs.bipush (v := (91 : Int32)) (g j44 13 rfl) (by decide) ?_
 refine Runs.callVW (argsL := [(.int 91)]) (rest := []) (W := 0) (g j44 14 rfl) (wd hw 330 rfl) (wd hw 331 rfl) (fun s hZ => notFace_of_selects (args := #[]) (mvT hZ (wd hw 333 rfl))) (wd hw 333 rfl) (wd hw 332 rfl) (wd hw 334 rfl) (wd hw 197 rfl) (by decide) (own_sbb_ Bx1).1 pd_36 rfl rfl rfl rfl (by decide) (by decide) (by decide) (by decide) (allS (mi 0 rfl) all0) (by decide) (own_sc l Z a0 hw n0 b_2 t1 kt 16 [] _ Bx1 91 ⟨by decide, by decide⟩ (by simp) h1.size ⟨Nat.le_trans hn0 K1.1, hz2⟩ ma mt1 cpt S_C hcpt S_A S_H S_L fm hfm S_F) ?_
 rintro v h_13 D1 ⟨rfl, t_8, k_9, g_10, K_11, B_12, rfl⟩ hsz
 show Runs _ _ _ _ _ _ _ _ _ _ _ _ [t_8, t1] h_13 3 24 31 _ [(.ref b_2)]
 have Bx_14 : SBx Z h_13 b_2 t_8 k_9 16 [91] := B_12
 have Kc_15 := Kc2.trans K_11 (allS (Or.inr a0') (allS (Or.inr (Nat.le_trans K1.1 mt1)) all0))
 have I_16 := I2.keep K_11 (ninS (Nat.ne_of_lt (Nat.lt_of_lt_of_le hi ma)) (ninS (Nat.ne_of_lt (Nat.lt_of_lt_of_le hi mt1)) nin0))
 have hz_17 := Nat.le_trans hz2 K_11.1
 refine Runs.weak (D1 := [t_8]) (by simp) ?_
 refine Runs.pop (g j44 15 rfl) rfl ?_
 refine Runs.aloadN (g j44 16 rfl) rfl rfl ?_
 refine Runs.callIH (argsL := []) (rest := []) (W := 0) (g j44 17 rfl) (wd hw 345 rfl) (wd hw 346 rfl) (wd hw 347 rfl) (wd hw 348 rfl) (wd hw 349 rfl) (wd hw 350 rfl) (wd hw 351 rfl) (wd hw 325 rfl) (wd hw 352 rfl) (wd hw 298 rfl) (by decide) I_16.1 pd_37 rfl rfl rfl rfl (by decide) (by decide) (by decide) (by decide) all0 (by decide) (own_nx20 l Z a0 hw n0 i c s1 s2 eM S_M _ (O0.keep Kc_15 nin0) he gin I_16) ?_
 rintro v h_20 D1 ⟨rfl, K_18, I_19, rfl⟩ hsz
 show Runs _ _ _ _ _ _ _ _ _ _ _ _ [t_8] h_20 3 24 38 _ [(.ref s1)]
 have Bx_21 := Bx_14.keep K_18 (ninS (Nat.ne_of_gt (Nat.lt_of_lt_of_le hi ma)) nin0) (ninS (Nat.ne_of_gt (Nat.lt_of_lt_of_le hi g_10)) nin0)
 have Kc_22 := Kc_15.trans K_18 (allS (Or.inr gi) all0)
 have hz_23 := Nat.le_trans hz_17 K_18.1
 refine Runs.astoreN (ls' := #[vr c, vr i, vr b_2, vr s1]) (g j44 18 rfl) rfl rfl ?_
 refine Runs.aloadN (g j44 19 rfl) rfl rfl ?_
 refine Runs.aloadN (g j44 20 rfl) rfl rfl ?_
 refine Runs.aloadN (g j44 21 rfl) rfl rfl ?_
 refine Runs.acY (t := 50) (g j44 22 rfl) (by decide) rfl rfl (Jvm.Free.XT.aa_ne_t (fun q => hc1 (Value.ref.inj q))) ?_
 refine Runs.aloadN (g j44 23 rfl) rfl rfl ?_
 refine Runs.callVW (argsL := [(.ref s1)]) (rest := []) (W := 0) (g j44 24 rfl) (wd hw 362 rfl) (wd hw 278 rfl) (fun s hZ => notFace_of_selects (args := #[]) (mvT hZ (wd hw 280 rfl))) (wd hw 280 rfl) (wd hw 279 rfl) (wd hw 281 rfl) (wd hw 197 rfl) (by decide) (own_sbb_ Bx_21).1 pd_38 rfl rfl rfl rfl (by decide) (by decide) (by decide) (by decide) (allS (mi 0 rfl) all0) (by decide) (own_sxos l Z a0 hw n0 b_2 t_8 k_9 16 [91] _ Bx_21 s1 [x1] (own_vos l Z a0 hw n0 t_8 s1 u1 k1 [x1] _ (S1.keep Kc_22 nin0 nin0) (Nat.ne_of_lt (Nat.lt_of_lt_of_le (own_sxa S1).2 (Nat.le_trans K1.1 g_10)))) (by simp) h1.size ⟨Nat.le_trans hn0 K1.1, hz_23⟩ ma g_10 32 (by decide) cpt S_C hcpt S_A S_H S_L fm hfm S_F) ?_
 rintro v h_29 D1 ⟨rfl, t_24, k_25, g_26, K_27, B_28, rfl⟩ hsz
 show Runs _ _ _ _ _ _ _ _ _ _ _ _ [t_24, t_8] h_29 4 56 54 _ [(.ref b_2)]
 have Bx_30 : SBx Z h_29 b_2 t_24 k_25 16 [91, x1] := B_28
 have Kc_31 := Kc_22.trans K_27 (allS (Or.inr a0') (allS (Or.inr (Nat.le_trans K1.1 g_10)) all0))
 have I_32 := I_19.keep K_27 (ninS (Nat.ne_of_lt (Nat.lt_of_lt_of_le hi ma)) (ninS (Nat.ne_of_lt (Nat.lt_of_lt_of_le hi g_10)) nin0))
 have hz_33 := Nat.le_trans hz_23 K_27.1
 refine Runs.weak (D1 := [t_24]) (by simp) ?_
 refine Runs.pop (g j44 25 rfl) rfl ?_
 refine Runs.aloadN (g j44 26 rfl) rfl rfl ?_
 refine Runs.callIW (argsL := []) (rest := []) (W := 0) (g j44 27 rfl) (wd hw 318 rfl) (wd hw 319 rfl) (wd hw 320 rfl) (wd hw 321 rfl) (wd hw 322 rfl) (wd hw 323 rfl) (wd hw 324 rfl) (wd hw 325 rfl) (wd hw 326 rfl) (wd hw 298 rfl) (by decide) I_32.1 pd_7 rfl rfl rfl rfl (by decide) (by decide) (by decide) (by decide) all0 (by decide) (own_hn1 l Z a0 hw n0 i c 2 1 _ I_32 (by decide)) ?_
 rintro v h1 D1 ⟨rfl, rfl, rfl⟩ hsz
 show Runs _ _ _ _ _ _ _ _ _ _ _ _ [t_24] h_29 4 56 61 _ [(.int 1)]
 refine Runs.ifY (t := 74) (g j44 28 rfl) (by decide) (feq (by decide : ¬ ((1 : Int32) = (0 : Int32)))).2 ?_
 refine Runs.aloadN (g j44 34 rfl) rfl rfl ?_
 refine Runs.bipush (v := (44 : Int32)) (g j44 35 rfl) (by decide) ?_
 refine Runs.callVW (argsL := [(.int 44)]) (rest := []) (W := 0) (g j44 36 rfl) (wd hw 330 rfl) (wd hw 331 rfl) (fun s hZ => notFace_of_selects (args := #[]) (mvT hZ (wd hw 333 rfl))) (wd hw 333 rfl) (wd hw 332 rfl) (wd hw 334 rfl) (wd hw 197 rfl) (by decide) (own_sbb_ Bx_30).1 pd_36 rfl rfl rfl rfl (by decide) (by decide) (by decide) (by decide) (allS (mi 0 rfl) all0) (by decide) (own_sc l Z a0 hw n0 b_2 t_24 k_25 16 [91, x1] _ Bx_30 44 ⟨by decide, by decide⟩ (by simp) h1.size ⟨Nat.le_trans hn0 K1.1, hz_33⟩ ma g_26 cpt S_C hcpt S_A S_H S_L fm hfm S_F) ?_
 rintro v h_39 D1 ⟨rfl, t_34, k_35, g_36, K_37, B_38, rfl⟩ hsz
 show Runs _ _ _ _ _ _ _ _ _ _ _ _ [t_34, t_24] h_39 4 56 80 _ [(.ref b_2)]
 have Bx_40 : SBx Z h_39 b_2 t_34 k_35 16 [91, x1, 44] := B_38
 have Kc_41 := Kc_31.trans K_37 (allS (Or.inr a0') (allS (Or.inr (Nat.le_trans K1.1 g_26)) all0))
 have I_42 := I_32.keep K_37 (ninS (Nat.ne_of_lt (Nat.lt_of_lt_of_le hi ma)) (ninS (Nat.ne_of_lt (Nat.lt_of_lt_of_le hi g_26)) nin0))
 have hz_43 := Nat.le_trans hz_33 K_37.1
 refine Runs.weak (D1 := [t_34]) (by simp) ?_
 refine Runs.bipush (v := (32 : Int32)) (g j44 37 rfl) (by decide) ?_
 refine Runs.callVW (argsL := [(.int 32)]) (rest := []) (W := 0) (g j44 38 rfl) (wd hw 330 rfl) (wd hw 331 rfl) (fun s hZ => notFace_of_selects (args := #[]) (mvT hZ (wd hw 333 rfl))) (wd hw 333 rfl) (wd hw 332 rfl) (wd hw 334 rfl) (wd hw 197 rfl) (by decide) (own_sbb_ Bx_40).1 pd_36 rfl rfl rfl rfl (by decide) (by decide) (by decide) (by decide) (allS (mi 0 rfl) all0) (by decide) (own_sc l Z a0 hw n0 b_2 t_34 k_35 16 [91, x1, 44] _ Bx_40 32 ⟨by decide, by decide⟩ (by simp) h1.size ⟨Nat.le_trans hn0 K1.1, hz_43⟩ ma g_36 cpt S_C hcpt S_A S_H S_L fm hfm S_F) ?_
 rintro v h_49 D1 ⟨rfl, t_44, k_45, g_46, K_47, B_48, rfl⟩ hsz
 show Runs _ _ _ _ _ _ _ _ _ _ _ _ [t_44, t_34] h_49 4 56 85 _ [(.ref b_2)]
 have Bx_50 : SBx Z h_49 b_2 t_44 k_45 16 [91, x1, 44, 32] := B_48
 have Kc_51 := Kc_41.trans K_47 (allS (Or.inr a0') (allS (Or.inr (Nat.le_trans K1.1 g_36)) all0))
 have I_52 := I_42.keep K_47 (ninS (Nat.ne_of_lt (Nat.lt_of_lt_of_le hi ma)) (ninS (Nat.ne_of_lt (Nat.lt_of_lt_of_le hi g_36)) nin0))
 have hz_53 := Nat.le_trans hz_43 K_47.1
 refine Runs.weak (D1 := [t_44]) (by simp) ?_
 refine Runs.pop (g j44 39 rfl) rfl ?_
 refine Runs.goto (t := 32) (g j44 40 rfl) (by decide) ?_
 refine Runs.aloadN (g j44 16 rfl) rfl rfl ?_
 refine Runs.callIH (argsL := []) (rest := []) (W := 0) (g j44 17 rfl) (wd hw 345 rfl) (wd hw 346 rfl) (wd hw 347 rfl) (wd hw 348 rfl) (wd hw 349 rfl) (wd hw 350 rfl) (wd hw 351 rfl) (wd hw 325 rfl) (wd hw 352 rfl) (wd hw 298 rfl) (by decide) I_52.1 pd_37 rfl rfl rfl rfl (by decide) (by decide) (by decide) (by decide) all0 (by decide) (own_nx21 l Z a0 hw n0 i c s1 s2 eM S_M _ (O0.keep Kc_51 nin0) he gin I_52) ?_
 rintro v h_56 D1 ⟨rfl, K_54, I_55, rfl⟩ hsz
 show Runs _ _ _ _ _ _ _ _ _ _ _ _ [t_44] h_56 4 56 38 _ [(.ref s2)]
 have Bx_57 := Bx_50.keep K_54 (ninS (Nat.ne_of_gt (Nat.lt_of_lt_of_le hi ma)) nin0) (ninS (Nat.ne_of_gt (Nat.lt_of_lt_of_le hi g_46)) nin0)
 have Kc_58 := Kc_51.trans K_54 (allS (Or.inr gi) all0)
 have hz_59 := Nat.le_trans hz_53 K_54.1
 refine Runs.astoreN (ls' := #[vr c, vr i, vr b_2, vr s2]) (g j44 18 rfl) rfl rfl ?_
 refine Runs.aloadN (g j44 19 rfl) rfl rfl ?_
 refine Runs.aloadN (g j44 20 rfl) rfl rfl ?_
 refine Runs.aloadN (g j44 21 rfl) rfl rfl ?_
 refine Runs.acY (t := 50) (g j44 22 rfl) (by decide) rfl rfl (Jvm.Free.XT.aa_ne_t (fun q => hc2 (Value.ref.inj q))) ?_
 refine Runs.aloadN (g j44 23 rfl) rfl rfl ?_
 refine Runs.callVW (argsL := [(.ref s2)]) (rest := []) (W := 0) (g j44 24 rfl) (wd hw 362 rfl) (wd hw 278 rfl) (fun s hZ => notFace_of_selects (args := #[]) (mvT hZ (wd hw 280 rfl))) (wd hw 280 rfl) (wd hw 279 rfl) (wd hw 281 rfl) (wd hw 197 rfl) (by decide) (own_sbb_ Bx_57).1 pd_38 rfl rfl rfl rfl (by decide) (by decide) (by decide) (by decide) (allS (mi 0 rfl) all0) (by decide) (own_sxos l Z a0 hw n0 b_2 t_44 k_45 16 [91, x1, 44, 32] _ Bx_57 s2 [x2] (own_vos l Z a0 hw n0 t_44 s2 u2 k2 [x2] _ (S2.keep Kc_58 nin0 nin0) (Nat.ne_of_lt (Nat.lt_of_lt_of_le (own_sxa S2).2 (Nat.le_trans K1.1 g_46)))) (by simp) h1.size ⟨Nat.le_trans hn0 K1.1, hz_59⟩ ma g_46 32 (by decide) cpt S_C hcpt S_A S_H S_L fm hfm S_F) ?_
 rintro v h_65 D1 ⟨rfl, t_60, k_61, g_62, K_63, B_64, rfl⟩ hsz
 show Runs _ _ _ _ _ _ _ _ _ _ _ _ [t_60, t_44] h_65 5 88 54 _ [(.ref b_2)]
 have Bx_66 : SBx Z h_65 b_2 t_60 k_61 16 [91, x1, 44, 32, x2] := B_64
 have Kc_67 := Kc_58.trans K_63 (allS (Or.inr a0') (allS (Or.inr (Nat.le_trans K1.1 g_46)) all0))
 have I_68 := I_55.keep K_63 (ninS (Nat.ne_of_lt (Nat.lt_of_lt_of_le hi ma)) (ninS (Nat.ne_of_lt (Nat.lt_of_lt_of_le hi g_46)) nin0))
 have hz_69 := Nat.le_trans hz_59 K_63.1
 refine Runs.weak (D1 := [t_60]) (by simp) ?_
 refine Runs.pop (g j44 25 rfl) rfl ?_
 refine Runs.aloadN (g j44 26 rfl) rfl rfl ?_
 refine Runs.callIW (argsL := []) (rest := []) (W := 0) (g j44 27 rfl) (wd hw 318 rfl) (wd hw 319 rfl) (wd hw 320 rfl) (wd hw 321 rfl) (wd hw 322 rfl) (wd hw 323 rfl) (wd hw 324 rfl) (wd hw 325 rfl) (wd hw 326 rfl) (wd hw 298 rfl) (by decide) I_68.1 pd_7 rfl rfl rfl rfl (by decide) (by decide) (by decide) (by decide) all0 (by decide) (own_hn0 l Z a0 hw n0 i c 2 2 _ I_68 (by decide)) ?_
 rintro v h1 D1 ⟨rfl, rfl, rfl⟩ hsz
 show Runs _ _ _ _ _ _ _ _ _ _ _ _ [t_60] h_65 5 88 61 _ [(.int 0)]
 refine Runs.ifN (g j44 28 rfl) (teq (by decide : (0 : Int32) = (0 : Int32))).2 ?_
 refine Runs.aloadN (g j44 29 rfl) rfl rfl ?_
 refine Runs.bipush (v := (93 : Int32)) (g j44 30 rfl) (by decide) ?_
 refine Runs.callVW (argsL := [(.int 93)]) (rest := []) (W := 0) (g j44 31 rfl) (wd hw 330 rfl) (wd hw 331 rfl) (fun s hZ => notFace_of_selects (args := #[]) (mvT hZ (wd hw 333 rfl))) (wd hw 333 rfl) (wd hw 332 rfl) (wd hw 334 rfl) (wd hw 197 rfl) (by decide) (own_sbb_ Bx_66).1 pd_36 rfl rfl rfl rfl (by decide) (by decide) (by decide) (by decide) (allS (mi 0 rfl) all0) (by decide) (own_sc l Z a0 hw n0 b_2 t_60 k_61 16 [91, x1, 44, 32, x2] _ Bx_66 93 ⟨by decide, by decide⟩ (by simp) h1.size ⟨Nat.le_trans hn0 K1.1, hz_69⟩ ma g_62 cpt S_C hcpt S_A S_H S_L fm hfm S_F) ?_
 rintro v h_75 D1 ⟨rfl, t_70, k_71, g_72, K_73, B_74, rfl⟩ hsz
 show Runs _ _ _ _ _ _ _ _ _ _ _ _ [t_70, t_60] h_75 5 88 70 _ [(.ref b_2)]
 have Bx_76 : SBx Z h_75 b_2 t_70 k_71 16 [91, x1, 44, 32, x2, 93] := B_74
 have Kc_77 := Kc_67.trans K_73 (allS (Or.inr a0') (allS (Or.inr (Nat.le_trans K1.1 g_62)) all0))
 have I_78 := I_68.keep K_73 (ninS (Nat.ne_of_lt (Nat.lt_of_lt_of_le hi ma)) (ninS (Nat.ne_of_lt (Nat.lt_of_lt_of_le hi g_62)) nin0))
 have hz_79 := Nat.le_trans hz_69 K_73.1
 refine Runs.weak (D1 := [t_70]) (by simp) ?_
 refine Runs.callVW (argsL := []) (rest := []) (W := 0) (g j44 32 rfl) (wd hw 367 rfl) (wd hw 368 rfl) (fun s hZ => notFace_of_selects (args := #[]) (mvT hZ (wd hw 370 rfl))) (wd hw 370 rfl) (wd hw 369 rfl) (wd hw 371 rfl) (wd hw 197 rfl) (by decide) (own_sbb_ Bx_76).1 pd_21 rfl rfl rfl rfl (by decide) (by decide) (by decide) (by decide) all0 (by decide) (own_xs l Z a0 hw n0 b_2 t_70 k_71 16 [91, x1, 44, 32, x2, 93] _ Bx_76 12 (by simp) cpt S_C hcpt) ?_
 rintro v h9 D1 ⟨b, ub, kb, rfl, gb, gu, K9, S9, rfl⟩ hsz
 show Runs _ _ _ _ _ _ _ _ _ _ _ _ [t_70] h9 7 104 73 _ [(.ref b)]
 have K10 := Kc_77.trans K9 all0
 refine Runs.weak (D1 := []) (fun _ q => nomatch q) ?_
 exact Runs.retA (g j44 33 rfl) rfl rfl rfl (by decide) (by decide) ⟨b, ub, kb, rfl, (Nat.ne_of_gt (Nat.lt_of_lt_of_le ht (Nat.le_trans Kc_77.1 gu))), K10, S9, rfl⟩
theorem own_vol0 (hw : Wds Z a0) (n0 : Nat) (c eA : Addr) (kA : ClassId) (h0 : Heap) (O0 : Obj Z h0 c S15_ [(S15_, "elements", S7_, (.ref eA))]) (A0 : Arv Z h0 eA kA (.object S8_) 0 [] .null) (t : Addr) (ht : t < h0.size) (hn0 : n0 ≤ h0.size) (cpt : Int32) (S_C : SC Z cpt) (hcpt : ¬ cpt = 0) (S_A : SA Z) (S_H : SH Z) (S_L : SL Z) (fm : Value) (hfm : fm.isRef = true) (S_F : SF Z fm) : Con 1 l Z EL_ n0 m43_ c43_ 1 (some (.object S6_)) ⟨12, 7, 104, 195⟩ #[(.ref c)] [t] h0 (fun v h D' => ∃ b u' k', v = some (.ref b) ∧ u' ≠ t ∧ Keep h0 h [] ∧ Sy Z h b u' k' (own_T 511) ∧ D' = []) := by
 refine Con.of_runs (ls := #[vr c]) (by decide +kernel) (ef rfl rfl) ?_
 refine Runs.aloadN (g j43 0 rfl) rfl rfl ?_
 refine Runs.nnullY (t := 10) (g j43 1 rfl) (by decide) ?_
 refine Runs.aloadN (g j43 2 rfl) rfl rfl ?_
 refine Runs.callVW (argsL := []) (rest := []) (W := 0) (g j43 3 rfl) (wd hw 285 rfl) (wd hw 286 rfl) (fun s hZ => RoadKit.nf_top (args := #[]) (mvT hZ (wd hw 106 rfl))) (wd hw 503 rfl) (wd hw 289 rfl) (wd hw 290 rfl) (wd hw 17 rfl) (by decide) O0.1 pd_21 rfl rfl rfl rfl (by decide) (by decide) (by decide) (by decide) (allS (mi 0 rfl) all0) (by decide) (own_ats0 l Z a0 hw n0 c eA kA _ O0 A0  t ht hn0 cpt S_C hcpt S_A S_H S_L fm hfm S_F) ?_
 rintro v h1 D1 ⟨bb, uu, kk, rfl, hh, KK, SS, rfl⟩ hsz
 show Runs _ _ _ _ _ _ _ _ _ _ _ _ [t] h1 3 16 14 _ [(.ref bb)]
 refine Runs.weak (D1 := []) (fun _ q => nomatch q) ?_
 exact Runs.retA (g j43 4 rfl) rfl rfl rfl (by decide) (by decide) ⟨bb, uu, kk, rfl, hh, KK, SS, rfl⟩
theorem own_vol1 (hw : Wds Z a0) (n0 : Nat) (c s1 : Addr) (eM : Addr) (S_M : Sta Z Z.heap S12_ "EMPTY" S9_ (.ref eM)) (h0 : Heap) (O0 : Obj Z h0 c S4_ [(S4_, "e0", S9_, (.ref s1)), (S4_, "e1", S9_, (.ref eM))]) (u1 : Addr) (k1 : ClassId) (x1 : Int32) (S1 : Sy Z h0 s1 u1 k1 [x1]) (hc1 : ¬ s1 = c) (t : Addr) (ht : t < h0.size) (hn0 : n0 ≤ h0.size) (cpt : Int32) (S_C : SC Z cpt) (hcpt : ¬ cpt = 0) (S_A : SA Z) (S_H : SH Z) (S_L : SL Z) (fm : Value) (hfm : fm.isRef = true) (S_F : SF Z fm) : Con 1 l Z EL_ n0 m43_ c43_ 1 (some (.object S6_)) ⟨12, 7, 104, 195⟩ #[(.ref c)] [t] h0 (fun v h D' => ∃ b u' k', v = some (.ref b) ∧ u' ≠ t ∧ Keep h0 h [] ∧ Sy Z h b u' k' [91, x1, 93] ∧ D' = []) := by
 refine Con.of_runs (ls := #[vr c]) (by decide +kernel) (ef rfl rfl) ?_
 refine Runs.aloadN (g j43 0 rfl) rfl rfl ?_
 refine Runs.nnullY (t := 10) (g j43 1 rfl) (by decide) ?_
 refine Runs.aloadN (g j43 2 rfl) rfl rfl ?_
 refine Runs.callVW (argsL := []) (rest := []) (W := 0) (g j43 3 rfl) (wd hw 285 rfl) (wd hw 286 rfl) (fun s hZ => RoadKit.nf_top (args := #[]) (mvT hZ (wd hw 106 rfl))) (wd hw 288 rfl) (wd hw 289 rfl) (wd hw 290 rfl) (wd hw 17 rfl) (by decide) O0.1 pd_21 rfl rfl rfl rfl (by decide) (by decide) (by decide) (by decide) (allS (mi 0 rfl) all0) (by decide) (own_ats1 l Z a0 hw n0 c s1 eM S_M _ O0 u1 k1 x1 S1 hc1 t ht hn0 cpt S_C hcpt S_A S_H S_L fm hfm S_F) ?_
 rintro v h1 D1 ⟨bb, uu, kk, rfl, hh, KK, SS, rfl⟩ hsz
 show Runs _ _ _ _ _ _ _ _ _ _ _ _ [t] h1 6 72 14 _ [(.ref bb)]
 refine Runs.weak (D1 := []) (fun _ q => nomatch q) ?_
 exact Runs.retA (g j43 4 rfl) rfl rfl rfl (by decide) (by decide) ⟨bb, uu, kk, rfl, hh, KK, SS, rfl⟩
theorem own_vol2 (hw : Wds Z a0) (n0 : Nat) (c s1 s2 : Addr) (eM : Addr) (S_M : Sta Z Z.heap S12_ "EMPTY" S9_ (.ref eM)) (h0 : Heap) (O0 : Obj Z h0 c S4_ [(S4_, "e0", S9_, (.ref s1)), (S4_, "e1", S9_, (.ref s2))]) (he : ¬ s2 = eM) (u1 : Addr) (k1 : ClassId) (x1 : Int32) (S1 : Sy Z h0 s1 u1 k1 [x1]) (hc1 : ¬ s1 = c) (u2 : Addr) (k2 : ClassId) (x2 : Int32) (S2 : Sy Z h0 s2 u2 k2 [x2]) (hc2 : ¬ s2 = c) (t : Addr) (ht : t < h0.size) (hn0 : n0 ≤ h0.size) (cpt : Int32) (S_C : SC Z cpt) (hcpt : ¬ cpt = 0) (S_A : SA Z) (S_H : SH Z) (S_L : SL Z) (fm : Value) (hfm : fm.isRef = true) (S_F : SF Z fm) : Con 1 l Z EL_ n0 m43_ c43_ 1 (some (.object S6_)) ⟨12, 7, 104, 195⟩ #[(.ref c)] [t] h0 (fun v h D' => ∃ b u' k', v = some (.ref b) ∧ u' ≠ t ∧ Keep h0 h [] ∧ Sy Z h b u' k' [91, x1, 44, 32, x2, 93] ∧ D' = []) := by
 refine Con.of_runs (ls := #[vr c]) (by decide +kernel) (ef rfl rfl) ?_
 refine Runs.aloadN (g j43 0 rfl) rfl rfl ?_
 refine Runs.nnullY (t := 10) (g j43 1 rfl) (by decide) ?_
 refine Runs.aloadN (g j43 2 rfl) rfl rfl ?_
 refine Runs.callVW (argsL := []) (rest := []) (W := 0) (g j43 3 rfl) (wd hw 285 rfl) (wd hw 286 rfl) (fun s hZ => RoadKit.nf_top (args := #[]) (mvT hZ (wd hw 106 rfl))) (wd hw 288 rfl) (wd hw 289 rfl) (wd hw 290 rfl) (wd hw 17 rfl) (by decide) O0.1 pd_21 rfl rfl rfl rfl (by decide) (by decide) (by decide) (by decide) (allS (mi 0 rfl) all0) (by decide) (own_ats2 l Z a0 hw n0 c s1 s2 eM S_M _ O0 he u1 k1 x1 S1 hc1 u2 k2 x2 S2 hc2 t ht hn0 cpt S_C hcpt S_A S_H S_L fm hfm S_F) ?_
 rintro v h1 D1 ⟨bb, uu, kk, rfl, hh, KK, SS, rfl⟩ hsz
 show Runs _ _ _ _ _ _ _ _ _ _ _ _ [t] h1 7 104 14 _ [(.ref bb)]
 refine Runs.weak (D1 := []) (fun _ q => nomatch q) ?_
 exact Runs.retA (g j43 4 rfl) rfl rfl rfl (by decide) (by decide) ⟨bb, uu, kk, rfl, hh, KK, SS, rfl⟩
theorem own_sxol (hw : Wds Z a0) (n0 : Nat) (a t : Addr) (k : ClassId) (cap : Nat) (xs : List Int32) (h0 : Heap) (B0 : SBx Z h0 a t k cap xs) (o : Addr) (ys : List Int32) (HV : Con 1 l Z EL_ n0 m43_ c43_ 1 (some (.object S6_)) ⟨12, 7, 104, 195⟩ #[(.ref o)] [t] h0 (fun v h D' => ∃ b u' k', v = some (.ref b) ∧ u' ≠ t ∧ Keep h0 h [] ∧ Sy Z h b u' k' ys ∧ D' = [])) (hfit : xs.length + ys.length ≤ cap) (m0 : Nat) (hm : n0 ≤ m0 ∧ m0 ≤ h0.size) (ma : m0 ≤ a) (mt : m0 ≤ t) (NS : Nat) (hNS : 2 * cap ≤ NS ∧ NS < 100000) (cpt : Int32) (S_C : SC Z cpt) (hcpt : ¬ cpt = 0) (S_A : SA Z) (S_H : SH Z) (S_L : SL Z) (fm : Value) (hfm : fm.isRef = true) (S_F : SF Z fm) : Con 1 l Z EL_ n0 m42_ c42_ 2 (some (.object S10_)) ⟨13, 8, (104 + NS), 208⟩ #[(.ref a), (.ref o)] [t] h0 (fun v h D' => v = some (.ref a) ∧ ∃ t' k', m0 ≤ t' ∧ Keep h0 h [a, t] ∧ SBx Z h a t' k' cap (xs ++ ys) ∧ D' = [t']) := by
 refine Con.of_runs (ls := #[vr a, vr o]) (by decide +kernel) (ef rfl rfl) ?_
 refine Runs.aloadN (g j42 0 rfl) rfl rfl ?_
 refine Runs.aloadN (g j42 1 rfl) rfl rfl ?_
 refine Runs.callSW (argsL := [(.ref o)]) (rest := [(.ref a)]) (W := 1) (g j42 2 rfl) (wd hw 282 rfl) (wd hw 283 rfl) (wd hw 29 rfl) (wd hw 284 rfl) (by decide) pd_28 rfl rfl rfl rfl (by first | decide | (dsimp only; first | decide | omega)) (by first | decide | (dsimp only; first | decide | omega)) (by first | decide | (dsimp only; first | decide | omega)) (by first | decide | (dsimp only; first | decide | omega)) (allS (mi 0 rfl) all0) (by decide) HV ?_
 rintro v h1 D1 ⟨b1, u1, k1, rfl, hut, K1, S1, rfl⟩ hsz
 show Runs _ _ _ _ _ _ _ _ _ _ _ _ [t] h1 7 104 5 _ [(.ref b1), (.ref a)]
 have B1 := B0.keep K1 nin0 nin0
 refine Runs.callVW (argsL := [(.ref b1)]) (rest := []) (W := 0) (g j42 3 rfl) (wd hw 366 rfl) (wd hw 217 rfl) (fun s hZ => notFace_of_selects (args := #[]) (mvT hZ (wd hw 219 rfl))) (wd hw 219 rfl) (wd hw 218 rfl) (wd hw 220 rfl) (wd hw 197 rfl) (by decide) (own_sbb_ B1).1 pd_29 rfl rfl rfl rfl (by first | decide | (dsimp only; first | decide | omega)) (by first | decide | (dsimp only; first | decide | omega)) (by first | decide | (dsimp only; first | decide | omega)) (by first | decide | (dsimp only; first | decide | omega)) (allS (mi 0 rfl) all0) (by decide) (own_sxf l Z a0 hw n0 a t k cap xs _ B1 b1 u1 k1 ys S1 hfit m0 ⟨hm.1, Nat.le_trans hm.2 K1.1⟩ ma mt hut NS hNS cpt S_C hcpt S_A S_H S_L fm hfm S_F) ?_
 rintro v h2 D1 ⟨rfl, t2, k2, g2, K2, B2, rfl⟩ hsz
 show Runs _ _ _ _ _ _ _ _ _ _ _ _ [t2, t] h2 8 (104 + NS) 8 _ [(.ref a)]
 refine Runs.weak (D1 := [t2]) (by simp) ?_
 exact Runs.retA (g j42 4 rfl) rfl rfl rfl (by first | decide | (dsimp only; first | decide | omega)) (by first | decide | (dsimp only; first | decide | omega)) ⟨rfl, t2, k2, g2, (Keep.sub K1 (by simp)).trans K2 (allS (Or.inl (mi 0 rfl)) (allS (Or.inl (mi 1 rfl)) all0)), B2, rfl⟩
theorem own_max (hw : Wds Z a0) (n0 : Nat) (a b : Nat) (ha : a < 2147483648) (hb : b < 2147483648) (h0 : Heap) : Con 1 l Z EL_ n0 (⟨"java/lang/Math", "max", "(II)I"⟩ : MethodName) c13_ 2 (some .int) ⟨0, 0, 0, 0⟩ #[(.int (Int32.ofNat a)), (.int (Int32.ofNat b))] [] h0 (fun v h D' => v = some (.int (Int32.ofNat (max a b))) ∧ h0 = h ∧ D' = []) := by
 refine Con.of_runs (ls := #[vi (Int32.ofNat a), vi (Int32.ofNat b)]) (Jvm.Free.JP.mathPlain rfl (by decide +kernel)) (ef rfl rfl) ?_
 refine Runs.iloadN (g j13 0 rfl) rfl ?_
 refine Runs.iloadN (g j13 1 rfl) rfl ?_
 by_cases hc2 : (Int32.ofNat a) < (Int32.ofNat b)
 · refine Runs.icY (t := 9) (g j13 2 rfl) (by decide) (tlt hc2).1 ?_
   refine Runs.iloadN (g j13 5 rfl) rfl ?_
   exact Runs.retI (z := (Int32.ofNat b)) (g j13 6 rfl) rfl (Or.inl rfl) rfl (by decide) (by decide) ⟨by rw [own_ltI (by omega) (by omega)] at hc2; congr 3; omega, rfl, rfl⟩
 · refine Runs.icN (g j13 2 rfl) (flt hc2).1 ?_
   refine Runs.iloadN (g j13 3 rfl) rfl ?_
   refine Runs.goto (t := 10) (g j13 4 rfl) (by decide) ?_
   exact Runs.retI (z := (Int32.ofNat a)) (g j13 6 rfl) rfl (Or.inl rfl) rfl (by decide) (by decide) ⟨by rw [own_ltI (by omega) (by omega)] at hc2; congr 3; omega, rfl, rfl⟩
theorem own_nl (hw : Wds Z a0) (n0 : Nat) (o m p : Nat) (ho : o < 100000000) (hm : 0 < m ∧ m < 100000000) (hp : p < 100000000) (h0 : Heap) : Con 1 l Z EL_ n0 (⟨"jdk/internal/util/ArraysSupport", "newLength", "(III)I"⟩ : MethodName) c40_ 4 (some .int) ⟨1, 0, 0, 14⟩ #[(.int (Int32.ofNat o)), (.int (Int32.ofNat m)), (.int (Int32.ofNat p))] [] h0 (fun v h D' => v = some (.int (Int32.ofNat (o + max m p))) ∧ h0 = h ∧ D' = []) := by
 refine Con.of_runs (ls := #[vi (Int32.ofNat o), vi (Int32.ofNat m), vi (Int32.ofNat p), .unset]) (by decide +kernel) (ef rfl rfl) ?_
 refine Runs.iloadN (g j40 0 rfl) rfl ?_
 refine Runs.iloadN (g j40 1 rfl) rfl ?_
 refine Runs.iloadN (g j40 2 rfl) rfl ?_
 refine Runs.callSW (argsL := [(.int (Int32.ofNat m)), (.int (Int32.ofNat p))]) (rest := [(.int (Int32.ofNat o))]) (W := 1) (g j40 3 rfl) (wd hw 269 rfl) (wd hw 76 rfl) (wd hw 77 rfl) (wd hw 78 rfl) (by decide) pd_30 rfl rfl rfl rfl (by decide) (by decide) (by decide) (by decide) all0 (by decide) (own_max l Z a0 hw n0 m p (by omega) (by omega) _) ?_
 rintro v h1 D1 ⟨rfl, rfl, rfl⟩ hsz
 show Runs _ _ _ _ _ _ _ _ _ _ _ _ [] h0 0 0 6 _ [(.int (Int32.ofNat (max m p))), (.int (Int32.ofNat o))]
 refine Runs.iadd (z := (Int32.ofNat (o + (max m p)))) (g j40 4 rfl) (own_add (a := o) (b := (max m p)) (by omega)) ?_
 refine Runs.istoreN (ls' := #[vi (Int32.ofNat o), vi (Int32.ofNat m), vi (Int32.ofNat p), vi (Int32.ofNat (o + (max m p)))]) (g j40 5 rfl) rfl ?_
 refine Runs.iconst (v := (0 : Int32)) (g j40 6 rfl) (by decide) ?_
 refine Runs.iloadN (g j40 7 rfl) rfl ?_
 refine Runs.icN (g j40 8 rfl) (tlt (own_lt (a := 0) (b := (o + (max m p))) (by omega) (by omega))).2.1 ?_
 refine Runs.iloadN (g j40 9 rfl) rfl ?_
 refine Runs.ldcI (g j40 10 rfl) (wd hw 270 rfl) ?_
 refine Runs.icN (g j40 11 rfl) (flt (own_nlt (a := 2147483639) (b := (o + (max m p))) (by omega) (by omega))).2.2.1 ?_
 refine Runs.iloadN (g j40 12 rfl) rfl ?_
 exact Runs.retI (z := (Int32.ofNat (o + (max m p)))) (g j40 13 rfl) rfl (Or.inl rfl) rfl (by decide) (by decide) ⟨rfl, rfl, rfl⟩
theorem own_nc (hw : Wds Z a0) (n0 : Nat) (a t : Addr) (k : ClassId) (cap : Nat) (xs : List Int32) (h0 : Heap) (B0 : SBd Z h0 a t k cap xs) (N : Nat) (hN : cap < N ∧ N < 1000000) : Con 1 l Z EL_ n0 m39_ c39_ 6 (some .int) ⟨2, 0, 0, 32⟩ #[(.ref a), (.int (Int32.ofNat N))] [] h0 (fun v h D' => v = some (.int (Int32.ofNat (cap + max (N - cap) (cap + 2)))) ∧ h0 = h ∧ D' = []) := by
 refine Con.of_runs (ls := #[vr a, vi (Int32.ofNat N), .unset, .unset, .unset, .unset]) (by decide +kernel) (ef rfl rfl) ?_
 obtain ⟨BO, BA, BE, BL, hle, hcap⟩ := id B0
 refine Runs.aloadN (g j39 0 rfl) rfl rfl ?_
 refine Runs.getF (g j39 1 rfl) (host := "") (Or.inl (wd hw 209 rfl)) Via.refl (BO.fld (i := 0) rfl) ?_
 refine Runs.arrlen (g j39 2 rfl) BA ?_
 refine Runs.istoreN (ls' := #[vr a, vi (Int32.ofNat N), vi (Int32.ofNat cap), .unset, .unset, .unset]) (g j39 3 rfl) rfl ?_
 refine Runs.iloadN (g j39 4 rfl) rfl ?_
 refine Runs.aloadN (g j39 5 rfl) rfl rfl ?_
 refine Runs.getF (g j39 6 rfl) (host := "") (Or.inl (wd hw 211 rfl)) Via.refl (BO.fld (i := 1) rfl) ?_
 refine Runs.ishl (z := (Int32.ofNat N)) (g j39 7 rfl) (own_shl0 _) ?_
 refine Runs.istoreN (ls' := #[vr a, vi (Int32.ofNat N), vi (Int32.ofNat cap), vi (Int32.ofNat N), .unset, .unset]) (g j39 8 rfl) rfl ?_
 refine Runs.iloadN (g j39 9 rfl) rfl ?_
 refine Runs.iloadN (g j39 10 rfl) rfl ?_
 refine Runs.isub (z := (Int32.ofNat (N - cap))) (g j39 11 rfl) (own_sub (a := N) (b := cap) (by omega) (by omega)) ?_
 refine Runs.istore (ls' := #[vr a, vi (Int32.ofNat N), vi (Int32.ofNat cap), vi (Int32.ofNat N), vi (Int32.ofNat (N - cap)), .unset]) (g j39 12 rfl) rfl ?_
 refine Runs.iloadN (g j39 13 rfl) rfl ?_
 refine Runs.iload (g j39 14 rfl) rfl ?_
 refine Runs.iloadN (g j39 15 rfl) rfl ?_
 refine Runs.iconst (v := (2 : Int32)) (g j39 16 rfl) (by decide) ?_
 refine Runs.aloadN (g j39 17 rfl) rfl rfl ?_
 refine Runs.getF (g j39 18 rfl) (host := "") (Or.inl (wd hw 211 rfl)) Via.refl (BO.fld (i := 1) rfl) ?_
 refine Runs.ishl (z := (2 : Int32)) (g j39 19 rfl) (own_shl0 _) ?_
 refine Runs.iadd (z := (Int32.ofNat (cap + 2))) (g j39 20 rfl) (own_add (a := cap) (b := 2) (by omega)) ?_
 refine Runs.callSW (argsL := [(.int (Int32.ofNat cap)), (.int (Int32.ofNat (N - cap))), (.int (Int32.ofNat (cap + 2)))]) (rest := []) (W := 0) (g j39 21 rfl) (wd hw 265 rfl) (wd hw 266 rfl) (wd hw 267 rfl) (wd hw 268 rfl) (by decide) pd_13 rfl rfl rfl rfl (by decide) (by decide) (by decide) (by decide) all0 (by decide) (own_nl l Z a0 hw n0 cap (N - cap) (cap + 2) (by omega) (by omega) (by omega) _) ?_
 rintro v h1 D1 ⟨rfl, rfl, rfl⟩ hsz
 show Runs _ _ _ _ _ _ _ _ _ _ _ _ [] h0 0 0 32 _ [(.int (Int32.ofNat (cap + max (N - cap) (cap + 2))))]
 refine Runs.istore (ls' := #[vr a, vi (Int32.ofNat N), vi (Int32.ofNat cap), vi (Int32.ofNat N), vi (Int32.ofNat (N - cap)), vi (Int32.ofNat (cap + max (N - cap) (cap + 2)))]) (g j39 22 rfl) rfl ?_
 refine Runs.iload (g j39 23 rfl) rfl ?_
 refine Runs.ldcI (g j39 24 rfl) (wd hw 271 rfl) ?_
 refine Runs.icY (t := 51) (g j39 25 rfl) (by decide) (feq (fun q => absurd ((own_inj (a := (cap + max (N - cap) (cap + 2))) (b := 2147483647) (by omega) (by omega)).mp q) (by omega))).2 ?_
 refine Runs.iload (g j39 26 rfl) rfl ?_
 refine Runs.aloadN (g j39 27 rfl) rfl rfl ?_
 refine Runs.getF (g j39 28 rfl) (host := "") (Or.inl (wd hw 211 rfl)) Via.refl (BO.fld (i := 1) rfl) ?_
 refine Runs.ishr (z := (Int32.ofNat (cap + max (N - cap) (cap + 2)))) (g j39 29 rfl) (own_shr0 _) ?_
 exact Runs.retI (z := (Int32.ofNat (cap + max (N - cap) (cap + 2)))) (g j39 30 rfl) rfl (Or.inl rfl) rfl (by decide) (by decide) ⟨rfl, rfl, rfl⟩
theorem own_cpo (hw : Wds Z a0) (n0 : Nat) (t : Addr) (k : ClassId) (c n NS : Nat) (vs : List Value) (hv : vs.length ≤ c) (hn : c < n) (hNS : n ≤ NS ∧ NS < 10000000) (h0 : Heap) (T0 : Arv Z h0 t k .byte (Int32.ofNat c) vs (.int 0)) : Con 1 l Z EL_ n0 (⟨"java/util/Arrays", "copyOf", "([BI)[B"⟩ : MethodName) c41_ 3 (some (.array .byte)) ⟨1, 1, NS, 38⟩ #[(.ref t), (.int (Int32.ofNat n))] [] h0 (fun v h D' => ∃ b k', v = some (.ref b) ∧ h0.size ≤ b ∧ Keep h0 h [] ∧ Arv Z h b k' .byte (Int32.ofNat n) vs (.int 0) ∧ Exa Z h b "[B" ∧ D' = [b]) := by
 refine Con.of_runs (ls := #[vr t, vi (Int32.ofNat n), .unset]) (by decide +kernel) (ef rfl rfl) ?_
 refine Runs.iloadN (g j41 0 rfl) rfl ?_
 refine Runs.aloadN (g j41 1 rfl) rfl rfl ?_
 refine Runs.arrlen (g j41 2 rfl) T0 ?_
 refine Runs.icY (t := 14) (g j41 3 rfl) (by decide) (feq (fun q => absurd ((own_inj (a := n) (b := c) (by omega) (by omega)).mp q) (by omega))).2 ?_
 refine Runs.iloadN (g j41 4 rfl) rfl ?_
 refine Runs.newP (cap := NS) (ad := "[B") (g j41 5 rfl) (wd hw 41 rfl) (own_nn (by omega)) (by rw [own_cl (n := n) (by omega)]; omega) (by omega) (by dsimp only; decide) (by first | decide | (dsimp only; first | decide | omega)) rfl ?_
 intro h_1 b_2 k_3 g_6 ge_7 K_4 (A_5 : Arv Z h_1 b_2 k_3 .byte (Int32.ofNat n) [] (.int 0)) E_8
 refine Runs.astoreN (ls' := #[vr t, vi (Int32.ofNat n), vr b_2]) (g j41 6 rfl) rfl rfl ?_
 refine Runs.aloadN (g j41 7 rfl) rfl rfl ?_
 refine Runs.iconst (v := (0 : Int32)) (g j41 8 rfl) (by decide) ?_
 refine Runs.aloadN (g j41 9 rfl) rfl rfl ?_
 refine Runs.iconst (v := (0 : Int32)) (g j41 10 rfl) (by decide) ?_
 refine Runs.aloadN (g j41 11 rfl) rfl rfl ?_
 have A_9 := (T0.keep K_4 nin0)
 refine Runs.arrlen (g j41 12 rfl) A_9 ?_
 refine Runs.iloadN (g j41 13 rfl) rfl ?_
 refine Runs.callSW (argsL := [(.int (Int32.ofNat c)), (.int (Int32.ofNat n))]) (rest := [(.int 0), (.ref b_2), (.int 0), (.ref t)]) (W := 4) (g j41 14 rfl) (wd hw 140 rfl) (wd hw 141 rfl) (wd hw 77 rfl) (wd hw 142 rfl) (by decide) pd_30 rfl rfl rfl rfl (by first | decide | (dsimp only; first | decide | omega)) (by first | decide | (dsimp only; first | decide | omega)) (by first | decide | (dsimp only; first | decide | omega)) (by first | decide | (dsimp only; first | decide | omega)) all0 (by decide) (own_min l Z a0 hw n0 c n (by omega) (by omega) _) ?_
 rw [show min c n = c by omega]
 rintro v h1 D1 ⟨rfl, rfl, rfl⟩ hsz
 show Runs _ _ _ _ _ _ _ _ _ _ _ _ [b_2] h_1 1 (0 + NS) 28 _ [(.int (Int32.ofNat c)), (.int 0), (.ref b_2), (.int 0), (.ref t)]
 have A_10 : Arv Z h_1 b_2 k_3 .byte (Int32.ofNat n) (List.replicate n (.int 0)) (.int 0) := A_5.pad (pad_rep [] (.int 0) n)
 refine Runs.acopy (W := 0) (us := ((List.range c).map fun i => vs.getD (0 + i) (.int 0))) (g j41 15 rfl) (wd hw 143 rfl) (wd hw 146 rfl) (wd hw 144 rfl) (wd hw 145 rfl) A_9 A_10 rfl (by decide) (by decide) (own_nn (by omega)) (by rw [own_cl (n := c) (by omega)]; exact Nat.le_of_eq (Nat.zero_add _)) (by rw [own_cl (n := c) (by omega), own_cl (n := n) (by omega)]; show 0 + c ≤ n; omega) (by rw [own_cl (n := c) (by omega)]; rfl) (by rw [own_cl (n := c) (by omega)]; show 0 + c ≤ _; rw [List.length_replicate]; omega) ge_7 (Or.inl (mi 0 rfl)) rfl (by first | decide | (dsimp only; first | decide | omega)) rfl (by first | decide | (dsimp only; first | decide | omega)) ?_
 intro h_11 K_12 A_13
 have A_14 : Arv Z h_11 b_2 k_3 .byte (Int32.ofNat n) vs (.int 0) := A_13.pad (fun i => by rw [own_cl (n := c) (by omega)]; exact (own_copy vs (.int 0) n c hv (by omega) i).symm)
 refine Runs.aloadN (g j41 16 rfl) rfl rfl ?_
 exact Runs.retA (g j41 17 rfl) rfl rfl rfl (by first | decide | (dsimp only; first | decide | omega)) (by first | decide | (dsimp only; first | decide | omega)) ⟨b_2, k_3, rfl, g_6, (((Keep.refl _ _).trans K_4 all0).trans K_12 (allS (Or.inr (Nat.le_trans (Nat.le_refl _) g_6)) all0)), A_14, (E_8.keep K_12), rfl⟩
theorem own_ecg (hw : Wds Z a0) (n0 : Nat) (a t : Addr) (k : ClassId) (cap : Nat) (xs : List Int32) (h0 : Heap) (B0 : SBd Z h0 a t k cap xs) (N NS : Nat) (hN : cap < N ∧ N < 400000) (hNS : cap + max (N - cap) (cap + 2) ≤ NS ∧ NS < 1000000) (ga : n0 ≤ a) : Con 1 l Z EL_ n0 m35_ c35_ 3 none ⟨3, 1, NS, 58⟩ #[(.ref a), (.int (Int32.ofNat N))] [] h0 (fun v h D' => v = none ∧ ∃ t' k', h0.size ≤ t' ∧ Keep h0 h [a] ∧ SBd Z h a t' k' (cap + max (N - cap) (cap + 2)) xs ∧ D' = [t']) := by
 refine Con.of_runs (ls := #[vr a, vi (Int32.ofNat N), .unset]) (by decide +kernel) (ef rfl rfl) ?_
 obtain ⟨BO, BA, BE, BL, hle, hcap⟩ := id B0
 refine Runs.aloadN (g j35 0 rfl) rfl rfl ?_
 refine Runs.getF (g j35 1 rfl) (host := "") (Or.inl (wd hw 209 rfl)) Via.refl (BO.fld (i := 0) rfl) ?_
 refine Runs.arrlen (g j35 2 rfl) BA ?_
 refine Runs.aloadN (g j35 3 rfl) rfl rfl ?_
 refine Runs.getF (g j35 4 rfl) (host := "") (Or.inl (wd hw 211 rfl)) Via.refl (BO.fld (i := 1) rfl) ?_
 refine Runs.ishr (z := (Int32.ofNat cap)) (g j35 5 rfl) (own_shr0 _) ?_
 refine Runs.istoreN (ls' := #[vr a, vi (Int32.ofNat N), vi (Int32.ofNat cap)]) (g j35 6 rfl) rfl ?_
 refine Runs.iloadN (g j35 7 rfl) rfl ?_
 refine Runs.iloadN (g j35 8 rfl) rfl ?_
 refine Runs.isub (z := (Int32.ofNat (N - cap))) (g j35 9 rfl) (own_sub (a := N) (b := cap) (by omega) (by omega)) ?_
 refine Runs.ifN (g j35 10 rfl) (tlt (own_lt (a := 0) (b := N - cap) (by omega) (by omega))).2.2.2 ?_
 refine Runs.aloadN (g j35 11 rfl) rfl rfl ?_
 refine Runs.aloadN (g j35 12 rfl) rfl rfl ?_
 refine Runs.getF (g j35 13 rfl) (host := "") (Or.inl (wd hw 209 rfl)) Via.refl (BO.fld (i := 0) rfl) ?_
 refine Runs.aloadN (g j35 14 rfl) rfl rfl ?_
 refine Runs.iloadN (g j35 15 rfl) rfl ?_
 refine Runs.callVW (argsL := [(.int (Int32.ofNat N))]) (rest := [(.ref t), (.ref a)]) (W := 2) (g j35 16 rfl) (wd hw 260 rfl) (declares_of (wd hw 261 rfl) (wd hw 264 rfl)) (fun s hZ => notFace_of_selects (args := #[]) (mvT hZ (wd hw 263 rfl))) (wd hw 263 rfl) (wd hw 261 rfl) (wd hw 264 rfl) (wd hw 205 rfl) (by decide) BO.1 pd_25 rfl rfl rfl rfl (by first | decide | (dsimp only; first | decide | omega)) (by first | decide | (dsimp only; first | decide | omega)) (by first | decide | (dsimp only; first | decide | omega)) (by first | decide | (dsimp only; first | decide | omega)) all0 (by decide) (own_nc l Z a0 hw n0 a t k cap xs _ B0 N (by omega)) ?_
 rintro v h1 D1 ⟨rfl, rfl, rfl⟩ hsz
 show Runs _ _ _ _ _ _ _ _ _ _ _ _ [] h0 0 0 27 _ [(.int (Int32.ofNat (cap + max (N - cap) (cap + 2)))), (.ref t), (.ref a)]
 refine Runs.aloadN (g j35 17 rfl) rfl rfl ?_
 refine Runs.getF (g j35 18 rfl) (host := "") (Or.inl (wd hw 211 rfl)) Via.refl (BO.fld (i := 1) rfl) ?_
 refine Runs.ishl (z := (Int32.ofNat (cap + max (N - cap) (cap + 2)))) (g j35 19 rfl) (own_shl0 _) ?_
 refine Runs.callSW (argsL := [(.ref t), (.int (Int32.ofNat (cap + max (N - cap) (cap + 2))))]) (rest := [(.ref a)]) (W := 1) (g j35 20 rfl) (wd hw 272 rfl) (wd hw 273 rfl) (wd hw 127 rfl) (wd hw 274 rfl) (by decide) pd_39 rfl rfl rfl rfl (by first | decide | (dsimp only; first | decide | omega)) (by first | decide | (dsimp only; first | decide | omega)) (by first | decide | (dsimp only; first | decide | omega)) (by first | decide | (dsimp only; first | decide | omega)) all0 (by decide) (own_cpo l Z a0 hw n0 t k cap (cap + max (N - cap) (cap + 2)) NS (xs.map own_b) (by rw [List.length_map]; omega) (by omega) (by omega) _ BA) ?_
 rintro v h_7 D1 ⟨b_1, k_2, rfl, g_3, K_4, A_5, E_6, rfl⟩ hsz
 show Runs _ _ _ _ _ _ _ _ _ _ _ _ [b_1] h_7 1 (0 + NS) 35 _ [(.ref b_1), (.ref a)]
 have O_8 := (BO.keep K_4 nin0)
 refine Runs.putF (i := 0) (ty := (.array .byte)) (g j35 21 rfl) (host := "") (Or.inl (wd hw 209 rfl)) Via.refl O_8 rfl (lay_2 hw) rfl (Or.inl (wd hw 210 rfl)) (wd hw 196 rfl) (by decide) rfl rfl ga (Or.inr ⟨by decide, by decide⟩) ?_
 intro h_9 K_10 (O_11 : Obj Z h_9 a S10_ [(S2_, "value", "[B", (.ref b_1)), (S2_, "coder", "B", (.int 0)), (S2_, "count", "I", (.int (Int32.ofNat xs.length))), (S2_, S21_, "Z", (.int 0))])
 exact Runs.retV (g j35 22 rfl) rfl (by first | decide | (dsimp only; first | decide | omega)) (by first | decide | (dsimp only; first | decide | omega)) ⟨rfl, b_1, k_2, g_3, (((Keep.refl _ _).trans K_4 all0).trans K_10 (allS (Or.inl (mi 0 rfl)) all0)), ⟨O_11, (A_5.keep K_10 (ninS (Nat.ne_of_gt (Nat.lt_of_lt_of_le (Nat.lt_of_lt_of_le BO.lt (Nat.le_refl _)) g_3)) nin0)), (E_6.keep K_10), BL, by omega, by omega⟩, rfl⟩
theorem own_axg00 (hw : Wds Z a0) (n0 : Nat) (a t : Addr) (k : ClassId) (cap : Nat) (xs : List Int32) (h0 : Heap) (B0 : SBd Z h0 a t k cap xs) (s u : Addr) (k2 : ClassId) (ys : List Int32) (S0 : Str Z h0 s u k2 ys) (hfit : cap < xs.length + ys.length ∧ xs.length + ys.length < 10000) (m0 : Nat) (hm : n0 ≤ m0 ∧ m0 ≤ h0.size) (ma : m0 ≤ a) (mt : m0 ≤ t) (mu : u ≠ t) (NS : Nat) (hNS : 2 * (cap + max (xs.length + ys.length - cap) (cap + 2)) ≤ NS ∧ NS < 100000) (cpt : Int32) (S_C : SC Z cpt) (hcpt : ¬ cpt = 0) (S_A : SA Z) (S_H : SH Z) (S_L : SL Z) (fm : Value) (hfm : fm.isRef = true) (S_F : SF Z fm) : Con 1 l Z EL_ n0 m32_ c32_ 3 (some (.object S2_)) ⟨8, 2, (NS + NS), 140⟩ #[(.ref a), (.ref s)] [t] h0 (fun v h D' => v = some (.ref a) ∧ ∃ t' k', m0 ≤ t' ∧ Keep h0 h [a, t] ∧ SBx Z h a t' k' (cap + max (xs.length + ys.length - cap) (cap + 2)) (xs ++ ys) ∧ D' = [t']) := by
 refine Con.of_runs (ls := #[vr a, vr s, .unset]) (by decide +kernel) (ef rfl rfl) ?_
 obtain ⟨BO, BA, BE, BL, hle, hcap⟩ := id B0
 have hys := S0.2.2.2
 refine Runs.aloadN (g j32 0 rfl) rfl rfl ?_
 refine Runs.nnullY (t := 9) (g j32 1 rfl) (by decide) ?_
 refine Runs.aloadN (g j32 2 rfl) rfl rfl ?_
 refine Runs.callVW (argsL := []) (rest := []) (W := 0) (g j32 3 rfl) (wd hw 226 rfl) (wd hw 227 rfl) (fun s hZ => notFace_of_selects (args := #[]) (mvT hZ (wd hw 229 rfl))) (wd hw 229 rfl) (wd hw 228 rfl) (wd hw 230 rfl) (wd hw 29 rfl) (by decide) S0.1.1 pd_4 rfl rfl rfl rfl (by first | decide | (dsimp only; first | decide | omega)) (by first | decide | (dsimp only; first | decide | omega)) (by first | decide | (dsimp only; first | decide | omega)) (by first | decide | (dsimp only; first | decide | omega)) all0 (by decide) (own_len l Z a0 hw n0 s u k2 ys _ S0 cpt S_C hcpt) ?_
 rintro v h1 D1 ⟨rfl, rfl, rfl⟩ hsz
 show Runs _ _ _ _ _ _ _ _ _ _ _ _ [t] h0 0 0 13 _ [(.int (Int32.ofNat ys.length))]
 refine Runs.istoreN (ls' := #[vr a, vr s, vi (Int32.ofNat ys.length)]) (g j32 4 rfl) rfl ?_
 refine Runs.aloadN (g j32 5 rfl) rfl rfl ?_
 refine Runs.aloadN (g j32 6 rfl) rfl rfl ?_
 refine Runs.getF (g j32 7 rfl) (host := "") (Or.inl (wd hw 236 rfl)) Via.refl (BO.fld (i := 2) rfl) ?_
 refine Runs.iloadN (g j32 8 rfl) rfl ?_
 refine Runs.iadd (z := (Int32.ofNat (xs.length + ys.length))) (g j32 9 rfl) (own_add (a := xs.length) (b := ys.length) (by omega)) ?_
 refine Runs.callVW (argsL := [(.int (Int32.ofNat (xs.length + ys.length)))]) (rest := []) (W := 0) (g j32 10 rfl) (wd hw 238 rfl) (declares_of (wd hw 239 rfl) (wd hw 242 rfl)) (fun s hZ => notFace_of_selects (args := #[]) (mvT hZ (wd hw 241 rfl))) (wd hw 241 rfl) (wd hw 239 rfl) (wd hw 242 rfl) (wd hw 205 rfl) (by decide) BO.1 pd_8 rfl rfl rfl rfl (by first | decide | (dsimp only; first | decide | omega)) (by first | decide | (dsimp only; first | decide | omega)) (by first | decide | (dsimp only; first | decide | omega)) (by first | decide | (dsimp only; first | decide | omega)) all0 (by decide) (own_ecg l Z a0 hw n0 a t k cap xs _ B0 (xs.length + ys.length) NS (by omega) (by omega) (Nat.le_trans hm.1 ma)) ?_
 rintro v hh0 D1 ⟨rfl, t0, k0, g0, K0, B1, rfl⟩ hsz
 show Runs _ _ _ _ _ _ _ _ _ _ _ _ [t0, t] hh0 1 (0 + NS) 24 _ []
 have S1 := S0.keep K0 (ninS (Exa.ne S0.1.1 BO.1 (by decide)) nin0) (ninS (Ne.symm (Exa.neArv BO.1 S0.2.1 (wd hw 196 rfl))) nin0)
 have mt0 : m0 ≤ t0 := Nat.le_trans hm.2 g0
 refine Runs.aloadN (g j32 11 rfl) rfl rfl ?_
 refine Runs.aloadN (g j32 12 rfl) rfl rfl ?_
 refine Runs.getF (g j32 13 rfl) (host := "") (Or.inl (wd hw 236 rfl)) Via.refl (B1.1.fld (i := 2) rfl) ?_
 refine Runs.aloadN (g j32 14 rfl) rfl rfl ?_
 refine Runs.callVW (argsL := [(.int (Int32.ofNat xs.length)), (.ref s)]) (rest := []) (W := 0) (g j32 15 rfl) (wd hw 243 rfl) (declares_of (wd hw 244 rfl) (wd hw 247 rfl)) (fun s hZ => notFace_of_selects (args := #[]) (mvT hZ (wd hw 246 rfl))) (wd hw 246 rfl) (wd hw 244 rfl) (wd hw 247 rfl) (wd hw 205 rfl) (by decide) B1.1.1 pd_24 rfl rfl rfl rfl (by first | decide | (dsimp only; first | decide | omega)) (by first | decide | (dsimp only; first | decide | omega)) (by first | decide | (dsimp only; first | decide | omega)) (by first | decide | (dsimp only; first | decide | omega)) (allS (mi 0 rfl) all0) (by decide) (own_ps00 l Z a0 hw n0 a t0 k0 (cap + max (xs.length + ys.length - cap) (cap + 2)) xs _ B1 s u k2 ys S1 (by omega) m0 ⟨hm.1, Nat.le_trans hm.2 K0.1⟩ ma mt0 (Nat.ne_of_lt (Nat.lt_of_lt_of_le S0.2.1.lt g0)) NS (by omega) cpt S_C hcpt S_A S_H S_L fm hfm S_F) ?_
 rintro v h1 D1 ⟨rfl, t1, k1, g1, K1, O1, A1, E1, rfl⟩ hsz
 show Runs _ _ _ _ _ _ _ _ _ _ _ _ [t1, t0, t] h1 2 ((0 + NS) + NS) 33 _ []
 have ha1 : a ≠ t1 := Exa.neArv O1.1 A1 (wd hw 196 rfl)
 refine Runs.aloadN (g j32 16 rfl) rfl rfl ?_
 refine Runs.dup (g j32 17 rfl) rfl ?_
 refine Runs.getF (g j32 18 rfl) (host := "") (Or.inl (wd hw 236 rfl)) Via.refl (O1.fld (i := 2) rfl) ?_
 refine Runs.iloadN (g j32 19 rfl) rfl ?_
 refine Runs.iadd (z := (Int32.ofNat (xs.length + ys.length))) (g j32 20 rfl) (own_add (a := xs.length) (b := ys.length) (by omega)) ?_
 refine Runs.putF (i := 2) (ty := .int) (g j32 21 rfl) (host := "") (Or.inl (wd hw 236 rfl)) Via.refl O1 rfl (lay_2 hw) rfl (Or.inl (wd hw 237 rfl)) (wd hw 196 rfl) (by decide) rfl rfl (Nat.le_trans hm.1 ma) (Or.inr ⟨by decide, by decide⟩) ?_
 intro h_1 K_2 (O_3 : Obj Z h_1 a S10_ [(S2_, "value", "[B", (.ref t1)), (S2_, "coder", "B", (.int 0)), (S2_, "count", "I", (.int (Int32.ofNat (xs.length + ys.length)))), (S2_, S21_, "Z", (.int 0))])
 refine Runs.aloadN (g j32 22 rfl) rfl rfl ?_
 have A_4 := (A1.keep K_2 (ninS (Ne.symm ha1) nin0))
 refine Runs.weak (D1 := [t1]) (by simp) ?_
 exact Runs.retA (g j32 23 rfl) rfl rfl rfl (by first | decide | (dsimp only; first | decide | omega)) (by first | decide | (dsimp only; first | decide | omega)) ⟨rfl, t1, k1, g1, ((((Keep.refl _ _).trans K0 (allS (Or.inl (mi 0 rfl)) all0)).trans K1 (allS (Or.inl (mi 0 rfl)) (allS (Or.inr (Nat.le_trans (Nat.le_refl _) g0)) all0))).trans K_2 (allS (Or.inl (mi 0 rfl)) all0)), Or.inl ⟨by rw [List.length_append]; exact O_3, A_4, (E1.keep K_2), own_lat_app BL S0.2.2.1, by rw [List.length_append]; omega, by omega⟩, rfl⟩
theorem own_axg01 (hw : Wds Z a0) (n0 : Nat) (a t : Addr) (k : ClassId) (cap : Nat) (xs : List Int32) (h0 : Heap) (B0 : SBd Z h0 a t k cap xs) (s u : Addr) (k2 : ClassId) (ys : List Int32) (S0 : Stw Z h0 s u k2 ys) (hfit : cap < xs.length + ys.length ∧ xs.length + ys.length < 10000) (m0 : Nat) (hm : n0 ≤ m0 ∧ m0 ≤ h0.size) (ma : m0 ≤ a) (mt : m0 ≤ t) (mu : u ≠ t) (NS : Nat) (hNS : 2 * (cap + max (xs.length + ys.length - cap) (cap + 2)) ≤ NS ∧ NS < 100000) (cpt : Int32) (S_C : SC Z cpt) (hcpt : ¬ cpt = 0) (S_A : SA Z) (S_H : SH Z) (S_L : SL Z) (fm : Value) (hfm : fm.isRef = true) (S_F : SF Z fm) : Con 1 l Z EL_ n0 m32_ c32_ 3 (some (.object S2_)) ⟨8, 2, (NS + NS), 140⟩ #[(.ref a), (.ref s)] [t] h0 (fun v h D' => v = some (.ref a) ∧ ∃ t' k', m0 ≤ t' ∧ Keep h0 h [a, t] ∧ SBx Z h a t' k' (cap + max (xs.length + ys.length - cap) (cap + 2)) (xs ++ ys) ∧ D' = [t']) := by
 refine Con.of_runs (ls := #[vr a, vr s, .unset]) (by decide +kernel) (ef rfl rfl) ?_
 obtain ⟨BO, BA, BE, BL, hle, hcap⟩ := id B0
 have hys := S0.2.2.2
 refine Runs.aloadN (g j32 0 rfl) rfl rfl ?_
 refine Runs.nnullY (t := 9) (g j32 1 rfl) (by decide) ?_
 refine Runs.aloadN (g j32 2 rfl) rfl rfl ?_
 refine Runs.callVW (argsL := []) (rest := []) (W := 0) (g j32 3 rfl) (wd hw 226 rfl) (wd hw 227 rfl) (fun s hZ => notFace_of_selects (args := #[]) (mvT hZ (wd hw 229 rfl))) (wd hw 229 rfl) (wd hw 228 rfl) (wd hw 230 rfl) (wd hw 29 rfl) (by decide) S0.1.1 pd_4 rfl rfl rfl rfl (by first | decide | (dsimp only; first | decide | omega)) (by first | decide | (dsimp only; first | decide | omega)) (by first | decide | (dsimp only; first | decide | omega)) (by first | decide | (dsimp only; first | decide | omega)) all0 (by decide) (own_lenw l Z a0 hw n0 s u k2 ys _ S0 cpt S_C hcpt) ?_
 rintro v h1 D1 ⟨rfl, rfl, rfl⟩ hsz
 show Runs _ _ _ _ _ _ _ _ _ _ _ _ [t] h0 0 0 13 _ [(.int (Int32.ofNat ys.length))]
 refine Runs.istoreN (ls' := #[vr a, vr s, vi (Int32.ofNat ys.length)]) (g j32 4 rfl) rfl ?_
 refine Runs.aloadN (g j32 5 rfl) rfl rfl ?_
 refine Runs.aloadN (g j32 6 rfl) rfl rfl ?_
 refine Runs.getF (g j32 7 rfl) (host := "") (Or.inl (wd hw 236 rfl)) Via.refl (BO.fld (i := 2) rfl) ?_
 refine Runs.iloadN (g j32 8 rfl) rfl ?_
 refine Runs.iadd (z := (Int32.ofNat (xs.length + ys.length))) (g j32 9 rfl) (own_add (a := xs.length) (b := ys.length) (by omega)) ?_
 refine Runs.callVW (argsL := [(.int (Int32.ofNat (xs.length + ys.length)))]) (rest := []) (W := 0) (g j32 10 rfl) (wd hw 238 rfl) (declares_of (wd hw 239 rfl) (wd hw 242 rfl)) (fun s hZ => notFace_of_selects (args := #[]) (mvT hZ (wd hw 241 rfl))) (wd hw 241 rfl) (wd hw 239 rfl) (wd hw 242 rfl) (wd hw 205 rfl) (by decide) BO.1 pd_8 rfl rfl rfl rfl (by first | decide | (dsimp only; first | decide | omega)) (by first | decide | (dsimp only; first | decide | omega)) (by first | decide | (dsimp only; first | decide | omega)) (by first | decide | (dsimp only; first | decide | omega)) all0 (by decide) (own_ecg l Z a0 hw n0 a t k cap xs _ B0 (xs.length + ys.length) NS (by omega) (by omega) (Nat.le_trans hm.1 ma)) ?_
 rintro v hh0 D1 ⟨rfl, t0, k0, g0, K0, B1, rfl⟩ hsz
 show Runs _ _ _ _ _ _ _ _ _ _ _ _ [t0, t] hh0 1 (0 + NS) 24 _ []
 have S1 := S0.keep K0 (ninS (Exa.ne S0.1.1 BO.1 (by decide)) nin0) (ninS (Ne.symm (Exa.neArv BO.1 S0.2.1 (wd hw 196 rfl))) nin0)
 have mt0 : m0 ≤ t0 := Nat.le_trans hm.2 g0
 refine Runs.aloadN (g j32 11 rfl) rfl rfl ?_
 refine Runs.aloadN (g j32 12 rfl) rfl rfl ?_
 refine Runs.getF (g j32 13 rfl) (host := "") (Or.inl (wd hw 236 rfl)) Via.refl (B1.1.fld (i := 2) rfl) ?_
 refine Runs.aloadN (g j32 14 rfl) rfl rfl ?_
 refine Runs.callVW (argsL := [(.int (Int32.ofNat xs.length)), (.ref s)]) (rest := []) (W := 0) (g j32 15 rfl) (wd hw 243 rfl) (declares_of (wd hw 244 rfl) (wd hw 247 rfl)) (fun s hZ => notFace_of_selects (args := #[]) (mvT hZ (wd hw 246 rfl))) (wd hw 246 rfl) (wd hw 244 rfl) (wd hw 247 rfl) (wd hw 205 rfl) (by decide) B1.1.1 pd_24 rfl rfl rfl rfl (by first | decide | (dsimp only; first | decide | omega)) (by first | decide | (dsimp only; first | decide | omega)) (by first | decide | (dsimp only; first | decide | omega)) (by first | decide | (dsimp only; first | decide | omega)) (allS (mi 0 rfl) all0) (by decide) (own_ps01 l Z a0 hw n0 a t0 k0 (cap + max (xs.length + ys.length - cap) (cap + 2)) xs _ B1 s u k2 ys S1 (by omega) m0 ⟨hm.1, Nat.le_trans hm.2 K0.1⟩ ma mt0 (Nat.ne_of_lt (Nat.lt_of_lt_of_le S0.2.1.lt g0)) NS (by omega) cpt S_C hcpt S_A S_H S_L fm hfm S_F) ?_
 rintro v h1 D1 ⟨rfl, t1, k1, g1, K1, O1, A1, E1, rfl⟩ hsz
 show Runs _ _ _ _ _ _ _ _ _ _ _ _ [t1, t0, t] h1 2 ((0 + NS) + NS) 33 _ []
 have ha1 : a ≠ t1 := Exa.neArv O1.1 A1 (wd hw 196 rfl)
 refine Runs.aloadN (g j32 16 rfl) rfl rfl ?_
 refine Runs.dup (g j32 17 rfl) rfl ?_
 refine Runs.getF (g j32 18 rfl) (host := "") (Or.inl (wd hw 236 rfl)) Via.refl (O1.fld (i := 2) rfl) ?_
 refine Runs.iloadN (g j32 19 rfl) rfl ?_
 refine Runs.iadd (z := (Int32.ofNat (xs.length + ys.length))) (g j32 20 rfl) (own_add (a := xs.length) (b := ys.length) (by omega)) ?_
 refine Runs.putF (i := 2) (ty := .int) (g j32 21 rfl) (host := "") (Or.inl (wd hw 236 rfl)) Via.refl O1 rfl (lay_2 hw) rfl (Or.inl (wd hw 237 rfl)) (wd hw 196 rfl) (by decide) rfl rfl (Nat.le_trans hm.1 ma) (Or.inr ⟨by decide, by decide⟩) ?_
 intro h_1 K_2 (O_3 : Obj Z h_1 a S10_ [(S2_, "value", "[B", (.ref t1)), (S2_, "coder", "B", (.int 1)), (S2_, "count", "I", (.int (Int32.ofNat (xs.length + ys.length)))), (S2_, S21_, "Z", (.int 0))])
 refine Runs.aloadN (g j32 22 rfl) rfl rfl ?_
 have A_4 := (A1.keep K_2 (ninS (Ne.symm ha1) nin0))
 refine Runs.weak (D1 := [t1]) (by simp) ?_
 exact Runs.retA (g j32 23 rfl) rfl rfl rfl (by first | decide | (dsimp only; first | decide | omega)) (by first | decide | (dsimp only; first | decide | omega)) ⟨rfl, t1, k1, g1, ((((Keep.refl _ _).trans K0 (allS (Or.inl (mi 0 rfl)) all0)).trans K1 (allS (Or.inl (mi 0 rfl)) (allS (Or.inr (Nat.le_trans (Nat.le_refl _) g0)) all0))).trans K_2 (allS (Or.inl (mi 0 rfl)) all0)), Or.inr ⟨by rw [List.length_append]; exact O_3, A_4, (E1.keep K_2), own_cha_app (own_chl BL) S0.2.2.1, by rw [List.length_append]; omega, by omega⟩, rfl⟩
theorem own_ncw (hw : Wds Z a0) (n0 : Nat) (a t : Addr) (k : ClassId) (cap : Nat) (xs : List Int32) (h0 : Heap) (B0 : SBw Z h0 a t k cap xs) (N : Nat) (hN : cap < N ∧ N < 400000) : Con 1 l Z EL_ n0 m39_ c39_ 6 (some .int) ⟨2, 0, 0, 29⟩ #[(.ref a), (.int (Int32.ofNat N))] [] h0 (fun v h D' => v = some (.int (Int32.ofNat (cap + max (N - cap) (cap + 2)))) ∧ h0 = h ∧ D' = []) := by
 refine Con.of_runs (ls := #[vr a, vi (Int32.ofNat N), .unset, .unset, .unset, .unset]) (by decide +kernel) (ef rfl rfl) ?_
 obtain ⟨BO, BA, BE, BL, hle, hcap⟩ := id B0
 refine Runs.aloadN (g j39 0 rfl) rfl rfl ?_
 refine Runs.getF (g j39 1 rfl) (host := "") (Or.inl (wd hw 209 rfl)) Via.refl (BO.fld (i := 0) rfl) ?_
 refine Runs.arrlen (g j39 2 rfl) BA ?_
 refine Runs.istoreN (ls' := #[vr a, vi (Int32.ofNat N), vi (Int32.ofNat (2 * cap)), .unset, .unset, .unset]) (g j39 3 rfl) rfl ?_
 refine Runs.iloadN (g j39 4 rfl) rfl ?_
 refine Runs.aloadN (g j39 5 rfl) rfl rfl ?_
 refine Runs.getF (g j39 6 rfl) (host := "") (Or.inl (wd hw 211 rfl)) Via.refl (BO.fld (i := 1) rfl) ?_
 refine Runs.ishl (z := Int32.ofNat (2 * N)) (g j39 7 rfl) (own_shl1 (by omega)) ?_
 refine Runs.istoreN (ls' := #[vr a, vi (Int32.ofNat N), vi (Int32.ofNat (2 * cap)), vi (Int32.ofNat (2 * N)), .unset, .unset]) (g j39 8 rfl) rfl ?_
 refine Runs.iloadN (g j39 9 rfl) rfl ?_
 refine Runs.iloadN (g j39 10 rfl) rfl ?_
 refine Runs.isub (z := (Int32.ofNat ((2 * N) - (2 * cap)))) (g j39 11 rfl) (own_sub (a := (2 * N)) (b := (2 * cap)) (by omega) (by omega)) ?_
 refine Runs.istore (ls' := #[vr a, vi (Int32.ofNat N), vi (Int32.ofNat (2 * cap)), vi (Int32.ofNat (2 * N)), vi (Int32.ofNat ((2 * N) - (2 * cap))), .unset]) (g j39 12 rfl) rfl ?_
 refine Runs.iloadN (g j39 13 rfl) rfl ?_
 refine Runs.iload (g j39 14 rfl) rfl ?_
 refine Runs.iloadN (g j39 15 rfl) rfl ?_
 refine Runs.iconst (v := (2 : Int32)) (g j39 16 rfl) (by decide) ?_
 refine Runs.aloadN (g j39 17 rfl) rfl rfl ?_
 refine Runs.getF (g j39 18 rfl) (host := "") (Or.inl (wd hw 211 rfl)) Via.refl (BO.fld (i := 1) rfl) ?_
 refine Runs.ishl (z := (4 : Int32)) (g j39 19 rfl) (by decide) ?_
 refine Runs.iadd (z := (Int32.ofNat ((2 * cap) + 4))) (g j39 20 rfl) (own_add (a := (2 * cap)) (b := 4) (by omega)) ?_
 refine Runs.callSW (argsL := [(.int (Int32.ofNat (2 * cap))), (.int (Int32.ofNat ((2 * N) - (2 * cap)))), (.int (Int32.ofNat ((2 * cap) + 4)))]) (rest := []) (W := 0) (g j39 21 rfl) (wd hw 265 rfl) (wd hw 266 rfl) (wd hw 267 rfl) (wd hw 268 rfl) (by decide) pd_13 rfl rfl rfl rfl (by decide) (by decide) (by decide) (by decide) all0 (by decide) (own_nl l Z a0 hw n0 (2 * cap) (2 * N - 2 * cap) (2 * cap + 4) (by omega) (by omega) (by omega) _) ?_
 rintro v h1 D1 ⟨rfl, rfl, rfl⟩ hsz
 show Runs _ _ _ _ _ _ _ _ _ _ _ _ [] h0 0 0 32 _ [(.int (Int32.ofNat (2 * cap + max (2 * N - 2 * cap) (2 * cap + 4))))]
 refine Runs.istore (ls' := #[vr a, vi (Int32.ofNat N), vi (Int32.ofNat (2 * cap)), vi (Int32.ofNat (2 * N)), vi (Int32.ofNat ((2 * N) - (2 * cap))), vi (Int32.ofNat (2 * cap + max (2 * N - 2 * cap) (2 * cap + 4)))]) (g j39 22 rfl) rfl ?_
 refine Runs.iload (g j39 23 rfl) rfl ?_
 refine Runs.ldcI (g j39 24 rfl) (wd hw 271 rfl) ?_
 refine Runs.icY (t := 51) (g j39 25 rfl) (by decide) (feq (fun q => absurd ((own_inj (a := (2 * cap + max (2 * N - 2 * cap) (2 * cap + 4))) (b := 2147483647) (by omega) (by omega)).mp q) (by omega))).2 ?_
 refine Runs.iload (g j39 26 rfl) rfl ?_
 refine Runs.aloadN (g j39 27 rfl) rfl rfl ?_
 refine Runs.getF (g j39 28 rfl) (host := "") (Or.inl (wd hw 211 rfl)) Via.refl (BO.fld (i := 1) rfl) ?_
 refine Runs.ishr (z := Int32.ofNat (cap + max (N - cap) (cap + 2))) (g j39 29 rfl) (by rw [show 2 * cap + max (2 * N - 2 * cap) (2 * cap + 4) = 2 * (cap + max (N - cap) (cap + 2)) by omega]; exact own_shr1 (by omega)) ?_
 exact Runs.retI (z := (Int32.ofNat (cap + max (N - cap) (cap + 2)))) (g j39 30 rfl) rfl (Or.inl rfl) rfl (by decide) (by decide) ⟨rfl, rfl, rfl⟩
theorem own_ecgw (hw : Wds Z a0) (n0 : Nat) (a t : Addr) (k : ClassId) (cap : Nat) (xs : List Int32) (h0 : Heap) (B0 : SBw Z h0 a t k cap xs) (N NS : Nat) (hN : cap < N ∧ N < 400000) (hNS : 2 * (cap + max (N - cap) (cap + 2)) ≤ NS ∧ NS < 1000000) (ga : n0 ≤ a) : Con 1 l Z EL_ n0 m35_ c35_ 3 none ⟨3, 1, NS, 53⟩ #[(.ref a), (.int (Int32.ofNat N))] [] h0 (fun v h D' => v = none ∧ ∃ t' k', h0.size ≤ t' ∧ Keep h0 h [a] ∧ SBw Z h a t' k' (cap + max (N - cap) (cap + 2)) xs ∧ D' = [t']) := by
 refine Con.of_runs (ls := #[vr a, vi (Int32.ofNat N), .unset]) (by decide +kernel) (ef rfl rfl) ?_
 obtain ⟨BO, BA, BE, BL, hle, hcap⟩ := id B0
 refine Runs.aloadN (g j35 0 rfl) rfl rfl ?_
 refine Runs.getF (g j35 1 rfl) (host := "") (Or.inl (wd hw 209 rfl)) Via.refl (BO.fld (i := 0) rfl) ?_
 refine Runs.arrlen (g j35 2 rfl) BA ?_
 refine Runs.aloadN (g j35 3 rfl) rfl rfl ?_
 refine Runs.getF (g j35 4 rfl) (host := "") (Or.inl (wd hw 211 rfl)) Via.refl (BO.fld (i := 1) rfl) ?_
 refine Runs.ishr (z := Int32.ofNat cap) (g j35 5 rfl) (own_shr1 (by omega)) ?_
 refine Runs.istoreN (ls' := #[vr a, vi (Int32.ofNat N), vi (Int32.ofNat cap)]) (g j35 6 rfl) rfl ?_
 refine Runs.iloadN (g j35 7 rfl) rfl ?_
 refine Runs.iloadN (g j35 8 rfl) rfl ?_
 refine Runs.isub (z := (Int32.ofNat (N - cap))) (g j35 9 rfl) (own_sub (a := N) (b := cap) (by omega) (by omega)) ?_
 refine Runs.ifN (g j35 10 rfl) (tlt (own_lt (a := 0) (b := N - cap) (by omega) (by omega))).2.2.2 ?_
 refine Runs.aloadN (g j35 11 rfl) rfl rfl ?_
 refine Runs.aloadN (g j35 12 rfl) rfl rfl ?_
 refine Runs.getF (g j35 13 rfl) (host := "") (Or.inl (wd hw 209 rfl)) Via.refl (BO.fld (i := 0) rfl) ?_
 refine Runs.aloadN (g j35 14 rfl) rfl rfl ?_
 refine Runs.iloadN (g j35 15 rfl) rfl ?_
 refine Runs.callVW (argsL := [(.int (Int32.ofNat N))]) (rest := [(.ref t), (.ref a)]) (W := 2) (g j35 16 rfl) (wd hw 260 rfl) (declares_of (wd hw 261 rfl) (wd hw 264 rfl)) (fun s hZ => notFace_of_selects (args := #[]) (mvT hZ (wd hw 263 rfl))) (wd hw 263 rfl) (wd hw 261 rfl) (wd hw 264 rfl) (wd hw 205 rfl) (by decide) BO.1 pd_25 rfl rfl rfl rfl (by first | decide | (dsimp only; first | decide | omega)) (by first | decide | (dsimp only; first | decide | omega)) (by first | decide | (dsimp only; first | decide | omega)) (by first | decide | (dsimp only; first | decide | omega)) all0 (by decide) (own_ncw l Z a0 hw n0 a t k cap xs _ B0 N (by omega)) ?_
 rintro v h1 D1 ⟨rfl, rfl, rfl⟩ hsz
 show Runs _ _ _ _ _ _ _ _ _ _ _ _ [] h0 0 0 27 _ [(.int (Int32.ofNat (cap + max (N - cap) (cap + 2)))), (.ref t), (.ref a)]
 refine Runs.aloadN (g j35 17 rfl) rfl rfl ?_
 refine Runs.getF (g j35 18 rfl) (host := "") (Or.inl (wd hw 211 rfl)) Via.refl (BO.fld (i := 1) rfl) ?_
 refine Runs.ishl (z := Int32.ofNat (2 * (cap + max (N - cap) (cap + 2)))) (g j35 19 rfl) (own_shl1 (by omega)) ?_
 refine Runs.callSW (argsL := [(.ref t), (.int (Int32.ofNat (2 * (cap + max (N - cap) (cap + 2)))))]) (rest := [(.ref a)]) (W := 1) (g j35 20 rfl) (wd hw 272 rfl) (wd hw 273 rfl) (wd hw 127 rfl) (wd hw 274 rfl) (by decide) pd_39 rfl rfl rfl rfl (by first | decide | (dsimp only; first | decide | omega)) (by first | decide | (dsimp only; first | decide | omega)) (by first | decide | (dsimp only; first | decide | omega)) (by first | decide | (dsimp only; first | decide | omega)) all0 (by decide) (own_cpo l Z a0 hw n0 t k (2 * cap) (2 * (cap + max (N - cap) (cap + 2))) NS (own_ws xs) (by rw [own_wsl]; omega) (by omega) (by omega) _ BA) ?_
 rintro v h_7 D1 ⟨b_1, k_2, rfl, g_3, K_4, A_5, E_6, rfl⟩ hsz
 show Runs _ _ _ _ _ _ _ _ _ _ _ _ [b_1] h_7 1 (0 + NS) 35 _ [(.ref b_1), (.ref a)]
 have O_8 := (BO.keep K_4 nin0)
 refine Runs.putF (i := 0) (ty := (.array .byte)) (g j35 21 rfl) (host := "") (Or.inl (wd hw 209 rfl)) Via.refl O_8 rfl (lay_2 hw) rfl (Or.inl (wd hw 210 rfl)) (wd hw 196 rfl) (by decide) rfl rfl ga (Or.inr ⟨by decide, by decide⟩) ?_
 intro h_9 K_10 (O_11 : Obj Z h_9 a S10_ [(S2_, "value", "[B", (.ref b_1)), (S2_, "coder", "B", (.int 1)), (S2_, "count", "I", (.int (Int32.ofNat xs.length))), (S2_, S21_, "Z", (.int 0))])
 have A_12 := (A_5.keep K_10 (ninS (Nat.ne_of_gt (Nat.lt_of_lt_of_le (Nat.lt_of_lt_of_le BO.lt (Nat.le_refl _)) g_3)) nin0))
 exact Runs.retV (g j35 22 rfl) rfl (by first | decide | (dsimp only; first | decide | omega)) (by first | decide | (dsimp only; first | decide | omega)) ⟨rfl, b_1, k_2, g_3, (((Keep.refl _ _).trans K_4 all0).trans K_10 (allS (Or.inl (mi 0 rfl)) all0)), ⟨O_11, A_12, (E_6.keep K_10), BL, by omega, by omega⟩, rfl⟩
theorem own_axg10 (hw : Wds Z a0) (n0 : Nat) (a t : Addr) (k : ClassId) (cap : Nat) (xs : List Int32) (h0 : Heap) (B0 : SBw Z h0 a t k cap xs) (s u : Addr) (k2 : ClassId) (ys : List Int32) (S0 : Str Z h0 s u k2 ys) (hfit : cap < xs.length + ys.length ∧ xs.length + ys.length < 10000) (m0 : Nat) (hm : n0 ≤ m0 ∧ m0 ≤ h0.size) (ma : m0 ≤ a) (mt : m0 ≤ t) (mu : u ≠ t) (NS : Nat) (hNS : 2 * (cap + max (xs.length + ys.length - cap) (cap + 2)) ≤ NS ∧ NS < 100000) (cpt : Int32) (S_C : SC Z cpt) (hcpt : ¬ cpt = 0) (S_A : SA Z) (S_H : SH Z) (S_L : SL Z) (fm : Value) (hfm : fm.isRef = true) (S_F : SF Z fm) : Con 1 l Z EL_ n0 m32_ c32_ 3 (some (.object S2_)) ⟨8, 2, (NS + NS), 140⟩ #[(.ref a), (.ref s)] [t] h0 (fun v h D' => v = some (.ref a) ∧ ∃ t' k', m0 ≤ t' ∧ Keep h0 h [a, t] ∧ SBx Z h a t' k' (cap + max (xs.length + ys.length - cap) (cap + 2)) (xs ++ ys) ∧ D' = [t']) := by
 refine Con.of_runs (ls := #[vr a, vr s, .unset]) (by decide +kernel) (ef rfl rfl) ?_
 obtain ⟨BO, BA, BE, BL, hle, hcap⟩ := id B0
 have hys := S0.2.2.2
 refine Runs.aloadN (g j32 0 rfl) rfl rfl ?_
 refine Runs.nnullY (t := 9) (g j32 1 rfl) (by decide) ?_
 refine Runs.aloadN (g j32 2 rfl) rfl rfl ?_
 refine Runs.callVW (argsL := []) (rest := []) (W := 0) (g j32 3 rfl) (wd hw 226 rfl) (wd hw 227 rfl) (fun s hZ => notFace_of_selects (args := #[]) (mvT hZ (wd hw 229 rfl))) (wd hw 229 rfl) (wd hw 228 rfl) (wd hw 230 rfl) (wd hw 29 rfl) (by decide) S0.1.1 pd_4 rfl rfl rfl rfl (by first | decide | (dsimp only; first | decide | omega)) (by first | decide | (dsimp only; first | decide | omega)) (by first | decide | (dsimp only; first | decide | omega)) (by first | decide | (dsimp only; first | decide | omega)) all0 (by decide) (own_len l Z a0 hw n0 s u k2 ys _ S0 cpt S_C hcpt) ?_
 rintro v h1 D1 ⟨rfl, rfl, rfl⟩ hsz
 show Runs _ _ _ _ _ _ _ _ _ _ _ _ [t] h0 0 0 13 _ [(.int (Int32.ofNat ys.length))]
 refine Runs.istoreN (ls' := #[vr a, vr s, vi (Int32.ofNat ys.length)]) (g j32 4 rfl) rfl ?_
 refine Runs.aloadN (g j32 5 rfl) rfl rfl ?_
 refine Runs.aloadN (g j32 6 rfl) rfl rfl ?_
 refine Runs.getF (g j32 7 rfl) (host := "") (Or.inl (wd hw 236 rfl)) Via.refl (BO.fld (i := 2) rfl) ?_
 refine Runs.iloadN (g j32 8 rfl) rfl ?_
 refine Runs.iadd (z := (Int32.ofNat (xs.length + ys.length))) (g j32 9 rfl) (own_add (a := xs.length) (b := ys.length) (by omega)) ?_
 refine Runs.callVW (argsL := [(.int (Int32.ofNat (xs.length + ys.length)))]) (rest := []) (W := 0) (g j32 10 rfl) (wd hw 238 rfl) (declares_of (wd hw 239 rfl) (wd hw 242 rfl)) (fun s hZ => notFace_of_selects (args := #[]) (mvT hZ (wd hw 241 rfl))) (wd hw 241 rfl) (wd hw 239 rfl) (wd hw 242 rfl) (wd hw 205 rfl) (by decide) BO.1 pd_8 rfl rfl rfl rfl (by first | decide | (dsimp only; first | decide | omega)) (by first | decide | (dsimp only; first | decide | omega)) (by first | decide | (dsimp only; first | decide | omega)) (by first | decide | (dsimp only; first | decide | omega)) all0 (by decide) (own_ecgw l Z a0 hw n0 a t k cap xs _ B0 (xs.length + ys.length) NS (by omega) (by omega) (Nat.le_trans hm.1 ma)) ?_
 rintro v hh0 D1 ⟨rfl, t0, k0, g0, K0, B1, rfl⟩ hsz
 show Runs _ _ _ _ _ _ _ _ _ _ _ _ [t0, t] hh0 1 (0 + NS) 24 _ []
 have S1 := S0.keep K0 (ninS (Exa.ne S0.1.1 BO.1 (by decide)) nin0) (ninS (Ne.symm (Exa.neArv BO.1 S0.2.1 (wd hw 196 rfl))) nin0)
 have mt0 : m0 ≤ t0 := Nat.le_trans hm.2 g0
 refine Runs.aloadN (g j32 11 rfl) rfl rfl ?_
 refine Runs.aloadN (g j32 12 rfl) rfl rfl ?_
 refine Runs.getF (g j32 13 rfl) (host := "") (Or.inl (wd hw 236 rfl)) Via.refl (B1.1.fld (i := 2) rfl) ?_
 refine Runs.aloadN (g j32 14 rfl) rfl rfl ?_
 refine Runs.callVW (argsL := [(.int (Int32.ofNat xs.length)), (.ref s)]) (rest := []) (W := 0) (g j32 15 rfl) (wd hw 243 rfl) (declares_of (wd hw 244 rfl) (wd hw 247 rfl)) (fun s hZ => notFace_of_selects (args := #[]) (mvT hZ (wd hw 246 rfl))) (wd hw 246 rfl) (wd hw 244 rfl) (wd hw 247 rfl) (wd hw 205 rfl) (by decide) B1.1.1 pd_24 rfl rfl rfl rfl (by first | decide | (dsimp only; first | decide | omega)) (by first | decide | (dsimp only; first | decide | omega)) (by first | decide | (dsimp only; first | decide | omega)) (by first | decide | (dsimp only; first | decide | omega)) (allS (mi 0 rfl) all0) (by decide) (own_ps10 l Z a0 hw n0 a t0 k0 (cap + max (xs.length + ys.length - cap) (cap + 2)) xs _ B1 s u k2 ys S1 (by omega) m0 ⟨hm.1, Nat.le_trans hm.2 K0.1⟩ ma mt0 (Nat.ne_of_lt (Nat.lt_of_lt_of_le S0.2.1.lt g0)) NS (by omega) cpt S_C hcpt S_A S_H S_L fm hfm S_F) ?_
 rintro v h1 D1 ⟨rfl, t1, k1, g1, K1, O1, A1, E1, rfl⟩ hsz
 show Runs _ _ _ _ _ _ _ _ _ _ _ _ [t1, t0, t] h1 2 ((0 + NS) + NS) 33 _ []
 have ha1 : a ≠ t1 := Exa.neArv O1.1 A1 (wd hw 196 rfl)
 refine Runs.aloadN (g j32 16 rfl) rfl rfl ?_
 refine Runs.dup (g j32 17 rfl) rfl ?_
 refine Runs.getF (g j32 18 rfl) (host := "") (Or.inl (wd hw 236 rfl)) Via.refl (O1.fld (i := 2) rfl) ?_
 refine Runs.iloadN (g j32 19 rfl) rfl ?_
 refine Runs.iadd (z := (Int32.ofNat (xs.length + ys.length))) (g j32 20 rfl) (own_add (a := xs.length) (b := ys.length) (by omega)) ?_
 refine Runs.putF (i := 2) (ty := .int) (g j32 21 rfl) (host := "") (Or.inl (wd hw 236 rfl)) Via.refl O1 rfl (lay_2 hw) rfl (Or.inl (wd hw 237 rfl)) (wd hw 196 rfl) (by decide) rfl rfl (Nat.le_trans hm.1 ma) (Or.inr ⟨by decide, by decide⟩) ?_
 intro h_1 K_2 (O_3 : Obj Z h_1 a S10_ [(S2_, "value", "[B", (.ref t1)), (S2_, "coder", "B", (.int 1)), (S2_, "count", "I", (.int (Int32.ofNat (xs.length + ys.length)))), (S2_, S21_, "Z", (.int 0))])
 refine Runs.aloadN (g j32 22 rfl) rfl rfl ?_
 have A_4 := (A1.keep K_2 (ninS (Ne.symm ha1) nin0))
 refine Runs.weak (D1 := [t1]) (by simp) ?_
 exact Runs.retA (g j32 23 rfl) rfl rfl rfl (by first | decide | (dsimp only; first | decide | omega)) (by first | decide | (dsimp only; first | decide | omega)) ⟨rfl, t1, k1, g1, ((((Keep.refl _ _).trans K0 (allS (Or.inl (mi 0 rfl)) all0)).trans K1 (allS (Or.inl (mi 0 rfl)) (allS (Or.inr (Nat.le_trans (Nat.le_refl _) g0)) all0))).trans K_2 (allS (Or.inl (mi 0 rfl)) all0)), Or.inr ⟨by rw [List.length_append]; exact O_3, A_4, (E1.keep K_2), own_cha_app BL (own_chl S0.2.2.1), by rw [List.length_append]; omega, by omega⟩, rfl⟩
theorem own_axg11 (hw : Wds Z a0) (n0 : Nat) (a t : Addr) (k : ClassId) (cap : Nat) (xs : List Int32) (h0 : Heap) (B0 : SBw Z h0 a t k cap xs) (s u : Addr) (k2 : ClassId) (ys : List Int32) (S0 : Stw Z h0 s u k2 ys) (hfit : cap < xs.length + ys.length ∧ xs.length + ys.length < 10000) (m0 : Nat) (hm : n0 ≤ m0 ∧ m0 ≤ h0.size) (ma : m0 ≤ a) (mt : m0 ≤ t) (mu : u ≠ t) (NS : Nat) (hNS : 2 * (cap + max (xs.length + ys.length - cap) (cap + 2)) ≤ NS ∧ NS < 100000) (cpt : Int32) (S_C : SC Z cpt) (hcpt : ¬ cpt = 0) (S_A : SA Z) (S_H : SH Z) (S_L : SL Z) (fm : Value) (hfm : fm.isRef = true) (S_F : SF Z fm) : Con 1 l Z EL_ n0 m32_ c32_ 3 (some (.object S2_)) ⟨8, 2, (NS + NS), 140⟩ #[(.ref a), (.ref s)] [t] h0 (fun v h D' => v = some (.ref a) ∧ ∃ t' k', m0 ≤ t' ∧ Keep h0 h [a, t] ∧ SBx Z h a t' k' (cap + max (xs.length + ys.length - cap) (cap + 2)) (xs ++ ys) ∧ D' = [t']) := by
 refine Con.of_runs (ls := #[vr a, vr s, .unset]) (by decide +kernel) (ef rfl rfl) ?_
 obtain ⟨BO, BA, BE, BL, hle, hcap⟩ := id B0
 have hys := S0.2.2.2
 refine Runs.aloadN (g j32 0 rfl) rfl rfl ?_
 refine Runs.nnullY (t := 9) (g j32 1 rfl) (by decide) ?_
 refine Runs.aloadN (g j32 2 rfl) rfl rfl ?_
 refine Runs.callVW (argsL := []) (rest := []) (W := 0) (g j32 3 rfl) (wd hw 226 rfl) (wd hw 227 rfl) (fun s hZ => notFace_of_selects (args := #[]) (mvT hZ (wd hw 229 rfl))) (wd hw 229 rfl) (wd hw 228 rfl) (wd hw 230 rfl) (wd hw 29 rfl) (by decide) S0.1.1 pd_4 rfl rfl rfl rfl (by first | decide | (dsimp only; first | decide | omega)) (by first | decide | (dsimp only; first | decide | omega)) (by first | decide | (dsimp only; first | decide | omega)) (by first | decide | (dsimp only; first | decide | omega)) all0 (by decide) (own_lenw l Z a0 hw n0 s u k2 ys _ S0 cpt S_C hcpt) ?_
 rintro v h1 D1 ⟨rfl, rfl, rfl⟩ hsz
 show Runs _ _ _ _ _ _ _ _ _ _ _ _ [t] h0 0 0 13 _ [(.int (Int32.ofNat ys.length))]
 refine Runs.istoreN (ls' := #[vr a, vr s, vi (Int32.ofNat ys.length)]) (g j32 4 rfl) rfl ?_
 refine Runs.aloadN (g j32 5 rfl) rfl rfl ?_
 refine Runs.aloadN (g j32 6 rfl) rfl rfl ?_
 refine Runs.getF (g j32 7 rfl) (host := "") (Or.inl (wd hw 236 rfl)) Via.refl (BO.fld (i := 2) rfl) ?_
 refine Runs.iloadN (g j32 8 rfl) rfl ?_
 refine Runs.iadd (z := (Int32.ofNat (xs.length + ys.length))) (g j32 9 rfl) (own_add (a := xs.length) (b := ys.length) (by omega)) ?_
 refine Runs.callVW (argsL := [(.int (Int32.ofNat (xs.length + ys.length)))]) (rest := []) (W := 0) (g j32 10 rfl) (wd hw 238 rfl) (declares_of (wd hw 239 rfl) (wd hw 242 rfl)) (fun s hZ => notFace_of_selects (args := #[]) (mvT hZ (wd hw 241 rfl))) (wd hw 241 rfl) (wd hw 239 rfl) (wd hw 242 rfl) (wd hw 205 rfl) (by decide) BO.1 pd_8 rfl rfl rfl rfl (by first | decide | (dsimp only; first | decide | omega)) (by first | decide | (dsimp only; first | decide | omega)) (by first | decide | (dsimp only; first | decide | omega)) (by first | decide | (dsimp only; first | decide | omega)) all0 (by decide) (own_ecgw l Z a0 hw n0 a t k cap xs _ B0 (xs.length + ys.length) NS (by omega) (by omega) (Nat.le_trans hm.1 ma)) ?_
 rintro v hh0 D1 ⟨rfl, t0, k0, g0, K0, B1, rfl⟩ hsz
 show Runs _ _ _ _ _ _ _ _ _ _ _ _ [t0, t] hh0 1 (0 + NS) 24 _ []
 have S1 := S0.keep K0 (ninS (Exa.ne S0.1.1 BO.1 (by decide)) nin0) (ninS (Ne.symm (Exa.neArv BO.1 S0.2.1 (wd hw 196 rfl))) nin0)
 have mt0 : m0 ≤ t0 := Nat.le_trans hm.2 g0
 refine Runs.aloadN (g j32 11 rfl) rfl rfl ?_
 refine Runs.aloadN (g j32 12 rfl) rfl rfl ?_
 refine Runs.getF (g j32 13 rfl) (host := "") (Or.inl (wd hw 236 rfl)) Via.refl (B1.1.fld (i := 2) rfl) ?_
 refine Runs.aloadN (g j32 14 rfl) rfl rfl ?_
 refine Runs.callVW (argsL := [(.int (Int32.ofNat xs.length)), (.ref s)]) (rest := []) (W := 0) (g j32 15 rfl) (wd hw 243 rfl) (declares_of (wd hw 244 rfl) (wd hw 247 rfl)) (fun s hZ => notFace_of_selects (args := #[]) (mvT hZ (wd hw 246 rfl))) (wd hw 246 rfl) (wd hw 244 rfl) (wd hw 247 rfl) (wd hw 205 rfl) (by decide) B1.1.1 pd_24 rfl rfl rfl rfl (by first | decide | (dsimp only; first | decide | omega)) (by first | decide | (dsimp only; first | decide | omega)) (by first | decide | (dsimp only; first | decide | omega)) (by first | decide | (dsimp only; first | decide | omega)) (allS (mi 0 rfl) all0) (by decide) (own_ps11 l Z a0 hw n0 a t0 k0 (cap + max (xs.length + ys.length - cap) (cap + 2)) xs _ B1 s u k2 ys S1 (by omega) m0 ⟨hm.1, Nat.le_trans hm.2 K0.1⟩ ma mt0 (Nat.ne_of_lt (Nat.lt_of_lt_of_le S0.2.1.lt g0)) NS (by omega) cpt S_C hcpt S_A S_H S_L fm hfm S_F) ?_
 rintro v h1 D1 ⟨rfl, t1, k1, g1, K1, O1, A1, E1, rfl⟩ hsz
 show Runs _ _ _ _ _ _ _ _ _ _ _ _ [t1, t0, t] h1 2 ((0 + NS) + NS) 33 _ []
 have ha1 : a ≠ t1 := Exa.neArv O1.1 A1 (wd hw 196 rfl)
 refine Runs.aloadN (g j32 16 rfl) rfl rfl ?_
 refine Runs.dup (g j32 17 rfl) rfl ?_
 refine Runs.getF (g j32 18 rfl) (host := "") (Or.inl (wd hw 236 rfl)) Via.refl (O1.fld (i := 2) rfl) ?_
 refine Runs.iloadN (g j32 19 rfl) rfl ?_
 refine Runs.iadd (z := (Int32.ofNat (xs.length + ys.length))) (g j32 20 rfl) (own_add (a := xs.length) (b := ys.length) (by omega)) ?_
 refine Runs.putF (i := 2) (ty := .int) (g j32 21 rfl) (host := "") (Or.inl (wd hw 236 rfl)) Via.refl O1 rfl (lay_2 hw) rfl (Or.inl (wd hw 237 rfl)) (wd hw 196 rfl) (by decide) rfl rfl (Nat.le_trans hm.1 ma) (Or.inr ⟨by decide, by decide⟩) ?_
 intro h_1 K_2 (O_3 : Obj Z h_1 a S10_ [(S2_, "value", "[B", (.ref t1)), (S2_, "coder", "B", (.int 1)), (S2_, "count", "I", (.int (Int32.ofNat (xs.length + ys.length)))), (S2_, S21_, "Z", (.int 0))])
 refine Runs.aloadN (g j32 22 rfl) rfl rfl ?_
 have A_4 := (A1.keep K_2 (ninS (Ne.symm ha1) nin0))
 refine Runs.weak (D1 := [t1]) (by simp) ?_
 exact Runs.retA (g j32 23 rfl) rfl rfl rfl (by first | decide | (dsimp only; first | decide | omega)) (by first | decide | (dsimp only; first | decide | omega)) ⟨rfl, t1, k1, g1, ((((Keep.refl _ _).trans K0 (allS (Or.inl (mi 0 rfl)) all0)).trans K1 (allS (Or.inl (mi 0 rfl)) (allS (Or.inr (Nat.le_trans (Nat.le_refl _) g0)) all0))).trans K_2 (allS (Or.inl (mi 0 rfl)) all0)), Or.inr ⟨by rw [List.length_append]; exact O_3, A_4, (E1.keep K_2), own_cha_app BL S0.2.2.1, by rw [List.length_append]; omega, by omega⟩, rfl⟩
theorem own_axg (hw : Wds Z a0) (n0 : Nat) (a t : Addr) (k : ClassId) (cap : Nat) (xs : List Int32) (h0 : Heap) (B0 : SBx Z h0 a t k cap xs) (s u : Addr) (k2 : ClassId) (ys : List Int32) (S0 : Sy Z h0 s u k2 ys) (hfit : cap < xs.length + ys.length ∧ xs.length + ys.length < 10000) (m0 : Nat) (hm : n0 ≤ m0 ∧ m0 ≤ h0.size) (ma : m0 ≤ a) (mt : m0 ≤ t) (mu : u ≠ t) (NS : Nat) (hNS : 2 * (cap + max (xs.length + ys.length - cap) (cap + 2)) ≤ NS ∧ NS < 100000) (cpt : Int32) (S_C : SC Z cpt) (hcpt : ¬ cpt = 0) (S_A : SA Z) (S_H : SH Z) (S_L : SL Z) (fm : Value) (hfm : fm.isRef = true) (S_F : SF Z fm) : Con 1 l Z EL_ n0 m32_ c32_ 3 (some (.object S2_)) ⟨8, 2, (NS + NS), 140⟩ #[(.ref a), (.ref s)] [t] h0 (fun v h D' => v = some (.ref a) ∧ ∃ t' k', m0 ≤ t' ∧ Keep h0 h [a, t] ∧ SBx Z h a t' k' (cap + max (xs.length + ys.length - cap) (cap + 2)) (xs ++ ys) ∧ D' = [t']) := by
 rcases B0 with B0 | B0
 · rcases S0 with S0 | S0
   · exact own_axg00 l Z a0 hw n0 a t k cap xs h0 B0 s u k2 ys S0 hfit m0 hm ma mt mu NS hNS cpt S_C hcpt S_A S_H S_L fm hfm S_F
   · exact own_axg01 l Z a0 hw n0 a t k cap xs h0 B0 s u k2 ys S0 hfit m0 hm ma mt mu NS hNS cpt S_C hcpt S_A S_H S_L fm hfm S_F
 · rcases S0 with S0 | S0
   · exact own_axg10 l Z a0 hw n0 a t k cap xs h0 B0 s u k2 ys S0 hfit m0 hm ma mt mu NS hNS cpt S_C hcpt S_A S_H S_L fm hfm S_F
   · exact own_axg11 l Z a0 hw n0 a t k cap xs h0 B0 s u k2 ys S0 hfit m0 hm ma mt mu NS hNS cpt S_C hcpt S_A S_H S_L fm hfm S_F
theorem own_sxg (hw : Wds Z a0) (n0 : Nat) (a t : Addr) (k : ClassId) (cap : Nat) (xs : List Int32) (h0 : Heap) (B0 : SBx Z h0 a t k cap xs) (s u : Addr) (k2 : ClassId) (ys : List Int32) (S0 : Sy Z h0 s u k2 ys) (hfit : cap < xs.length + ys.length ∧ xs.length + ys.length < 10000) (m0 : Nat) (hm : n0 ≤ m0 ∧ m0 ≤ h0.size) (ma : m0 ≤ a) (mt : m0 ≤ t) (mu : u ≠ t) (NS : Nat) (hNS : 2 * (cap + max (xs.length + ys.length - cap) (cap + 2)) ≤ NS ∧ NS < 100000) (cpt : Int32) (S_C : SC Z cpt) (hcpt : ¬ cpt = 0) (S_A : SA Z) (S_H : SH Z) (S_L : SL Z) (fm : Value) (hfm : fm.isRef = true) (S_F : SF Z fm) : Con 1 l Z EL_ n0 m31_ c31_ 2 (some (.object S10_)) ⟨9, 2, (NS + NS), 154⟩ #[(.ref a), (.ref s)] [t] h0 (fun v h D' => v = some (.ref a) ∧ ∃ t' k', m0 ≤ t' ∧ Keep h0 h [a, t] ∧ SBx Z h a t' k' (cap + max (xs.length + ys.length - cap) (cap + 2)) (xs ++ ys) ∧ D' = [t']) := by
 refine Con.of_runs (ls := #[vr a, vr s]) (by decide +kernel) (ef rfl rfl) ?_
 have BO : Exa Z h0 a S10_ := B0.elim (fun q => q.1.1) (fun q => q.1.1)
 refine Runs.aloadN (g j31 0 rfl) rfl rfl ?_
 refine Runs.aloadN (g j31 1 rfl) rfl rfl ?_
 refine Runs.callUW (argsL := [(.ref s)]) (rest := []) (W := 0) (g j31 2 rfl) (wd hw 221 rfl) (same_of (wd hw 224 rfl) (nf_same (notFace_of_selects (wd hw 241 rfl)) (wd hw 239 rfl) rfl) (by decide)) (wd hw 222 rfl) (wd hw 223 rfl) (wd hw 225 rfl) (wd hw 205 rfl) (by decide) BO pd_27 rfl rfl rfl rfl (by first | decide | (dsimp only; first | decide | omega)) (by first | decide | (dsimp only; first | decide | omega)) (by first | decide | (dsimp only; first | decide | omega)) (by first | decide | (dsimp only; first | decide | omega)) (allS (mi 0 rfl) all0) (by decide) (own_axg l Z a0 hw n0 a t k cap xs _ B0 s u k2 ys S0 hfit m0 hm ma mt mu NS hNS cpt S_C hcpt S_A S_H S_L fm hfm S_F) ?_
 rintro v h1 D1 ⟨rfl, t1, k1, g1, K1, B1, rfl⟩ hsz
 show Runs _ _ _ _ _ _ _ _ _ _ _ _ [t1, t] h1 2 (0 + (NS + NS)) 5 _ [(.ref a)]
 refine Runs.pop (g j31 3 rfl) rfl ?_
 refine Runs.aloadN (g j31 4 rfl) rfl rfl ?_
 refine Runs.weak (D1 := [t1]) (by simp) ?_
 exact Runs.retA (g j31 5 rfl) rfl rfl rfl (by first | decide | (dsimp only; first | decide | omega)) (by first | decide | (dsimp only; first | decide | omega)) ⟨rfl, t1, k1, g1, K1, B1, rfl⟩
theorem own_cft (hw : Wds Z a0) (n0 : Nat) (i j cap : Nat) (hi : i ≤ j) (hj : j ≤ cap) (hcap : cap < 1000000) (fm : Value) (hfm : fm.isRef = true) (h0 : Heap) : Con 1 l Z EL_ n0 (⟨"jdk/internal/util/Preconditions", "checkFromToIndex", "(IIILjava/util/function/BiFunction;)I"⟩ : MethodName) c89_ 4 (some .int) ⟨0, 0, 0, 0⟩ #[(.int (Int32.ofNat i)), (.int (Int32.ofNat j)), (.int (Int32.ofNat cap)), fm] [] h0 (fun v h D' => v = some (.int (Int32.ofNat i)) ∧ h0 = h ∧ D' = []) := by
 refine Con.of_runs (ls := #[vi (Int32.ofNat i), vi (Int32.ofNat j), vi (Int32.ofNat cap), .val fm]) (by decide +kernel) (fun m => by rcases ref_cases hfm with rfl | ⟨_, rfl⟩ <;> exact ef rfl rfl m) ?_
 refine Runs.iloadN (g j89 0 rfl) rfl ?_
 refine Runs.ifN (g j89 1 rfl) (flt (own_nn (by omega))).1 ?_
 refine Runs.iloadN (g j89 2 rfl) rfl ?_
 refine Runs.iloadN (g j89 3 rfl) rfl ?_
 refine Runs.icN (g j89 4 rfl) (flt (own_nlt (a := j) (b := i) (by omega) (by omega))).2.2.1 ?_
 refine Runs.iloadN (g j89 5 rfl) rfl ?_
 refine Runs.iloadN (g j89 6 rfl) rfl ?_
 refine Runs.icY (t := 22) (g j89 7 rfl) (by decide) (flt (own_nlt (a := cap) (b := j) (by omega) (by omega))).2.2.2 ?_
 refine Runs.iloadN (g j89 8 rfl) rfl ?_
 exact Runs.retI (z := (Int32.ofNat i)) (g j89 9 rfl) rfl (Or.inl rfl) rfl (by decide) (by decide) ⟨rfl, rfl, rfl⟩
theorem own_sbe (hw : Wds Z a0) (n0 : Nat) (i j cap : Nat) (hi : i ≤ j) (hj : j ≤ cap) (hcap : cap < 1000000) (fm : Value) (hfm : fm.isRef = true) (S_F : SF Z fm) (h0 : Heap) : Con 1 l Z EL_ n0 (⟨S6_, "checkBoundsBeginEnd", "(III)V"⟩ : MethodName) c88_ 3 none ⟨1, 0, 0, 15⟩ #[(.int (Int32.ofNat i)), (.int (Int32.ofNat j)), (.int (Int32.ofNat cap))] [] h0 (fun v h D' => v = none ∧ h0 = h ∧ D' = []) := by
 refine Con.of_runs (ls := #[vi (Int32.ofNat i), vi (Int32.ofNat j), vi (Int32.ofNat cap)]) (by decide +kernel) (ef rfl rfl) ?_
 refine Runs.iloadN (g j88 0 rfl) rfl ?_
 refine Runs.iloadN (g j88 1 rfl) rfl ?_
 refine Runs.iloadN (g j88 2 rfl) rfl ?_
 refine Runs.getS (g j88 3 rfl) (wd hw 441 rfl) Via.refl S_F ?_
 refine Runs.callSW (argsL := [(.int (Int32.ofNat i)), (.int (Int32.ofNat j)), (.int (Int32.ofNat cap)), fm]) (rest := []) (W := 0) (g j88 4 rfl) (wd hw 521 rfl) (wd hw 522 rfl) (wd hw 442 rfl) (wd hw 523 rfl) (by decide) pd_11 rfl rfl rfl rfl (by decide) (by decide) (by decide) (by decide) all0 (by decide) (own_cft l Z a0 hw n0 i j cap hi hj hcap fm hfm _) ?_
 rintro v h1 D1 ⟨rfl, rfl, rfl⟩ hsz
 show Runs _ _ _ _ _ _ _ _ _ _ _ _ [] h0 0 0 9 _ [(.int (Int32.ofNat i))]
 refine Runs.pop (g j88 5 rfl) rfl ?_
 exact Runs.retV (g j88 6 rfl) rfl (by decide) (by decide) ⟨rfl, rfl, rfl⟩
theorem own_ube (hw : Wds Z a0) (n0 : Nat) (i j cap : Nat) (hi : i ≤ j) (hj : j ≤ cap) (hcap : cap < 1000000) (fm : Value) (hfm : fm.isRef = true) (S_F : SF Z fm) (t : Addr) (k : ClassId) (vs : List Value) (h0 : Heap) (T0 : Arv Z h0 t k .byte (Int32.ofNat (2 * cap)) vs (.int 0)) : Con 1 l Z EL_ n0 (⟨S17_, "checkBoundsBeginEnd", "(II[B)V"⟩ : MethodName) c87_ 3 none ⟨2, 0, 0, 29⟩ #[(.int (Int32.ofNat i)), (.int (Int32.ofNat j)), (.ref t)] [] h0 (fun v h D' => v = none ∧ h0 = h ∧ D' = []) := by
 refine Con.of_runs (ls := #[vi (Int32.ofNat i), vi (Int32.ofNat j), vr t]) (by decide +kernel) (ef rfl rfl) ?_
 refine Runs.iloadN (g j87 0 rfl) rfl ?_
 refine Runs.iloadN (g j87 1 rfl) rfl ?_
 refine Runs.aloadN (g j87 2 rfl) rfl rfl ?_
 refine Runs.callSW (argsL := [(.ref t)]) (rest := [(.int (Int32.ofNat j)), (.int (Int32.ofNat i))]) (W := 2) (g j87 3 rfl) (wd hw 493 rfl) (wd hw 494 rfl) (wd hw 460 rfl) (wd hw 495 rfl) (by decide) pd_12 rfl rfl rfl rfl (by decide) (by decide) (by decide) (by decide) all0 (by decide) (own_ulen l Z a0 hw n0 cap hcap t k vs _ T0) ?_
 rintro v h1 D1 ⟨rfl, rfl, rfl⟩ hsz
 show Runs _ _ _ _ _ _ _ _ _ _ _ _ [] h0 0 0 6 _ [(.int (Int32.ofNat cap)), (.int (Int32.ofNat j)), (.int (Int32.ofNat i))]
 refine Runs.callSW (argsL := [(.int (Int32.ofNat i)), (.int (Int32.ofNat j)), (.int (Int32.ofNat cap))]) (rest := []) (W := 0) (g j87 4 rfl) (wd hw 518 rfl) (wd hw 519 rfl) (wd hw 29 rfl) (wd hw 520 rfl) (by decide) pd_40 rfl rfl rfl rfl (by decide) (by decide) (by decide) (by decide) all0 (by decide) (own_sbe l Z a0 hw n0 i j cap hi hj hcap fm hfm S_F _) ?_
 rintro v h1 D1 ⟨rfl, rfl, rfl⟩ hsz
 show Runs _ _ _ _ _ _ _ _ _ _ _ _ [] h0 0 0 9 _ []
 exact Runs.retV (g j87 5 rfl) rfl (by decide) (by decide) ⟨rfl, rfl, rfl⟩
theorem own_pca5 (hw : Wds Z a0) (n0 : Nat) (t : Addr) (k : ClassId) (cap : Nat) (xs : List Int32) (h0 : Heap) (T0 : Arv Z h0 t k .byte (Int32.ofNat (2 * cap)) (own_ws xs) (.int 0)) (c0 c1 c2 c3 c4 : Int32) (hx : xs.length + 5 ≤ cap) (hcap : cap < 1000000) (gt : n0 ≤ t) (S_A : SA Z) (S_H : SH Z) (S_L : SL Z) (fm : Value) (hfm : fm.isRef = true) (S_F : SF Z fm) : Con 1 l Z EL_ n0 (⟨S17_, "putCharsAt", "([BICCCCC)I"⟩ : MethodName) c93_ 8 (some .int) ⟨3, 0, 0, 43⟩ #[(.ref t), (.int (Int32.ofNat xs.length)), (.int c0), (.int c1), (.int c2), (.int c3), (.int c4)] [t] h0 (fun v h D' => v = some (.int (Int32.ofNat (xs.length + 5))) ∧ Keep h0 h [t] ∧ Arv Z h t k .byte (Int32.ofNat (2 * cap)) (own_ws (xs ++ [c0, c1, c2, c3, c4])) (.int 0) ∧ D' = []) := by
 refine Con.of_runs (ls := #[vr t, vi (Int32.ofNat xs.length), vi c0, vi c1, vi c2, vi c3, vi c4, .unset]) (by decide +kernel) (ef rfl rfl) ?_
 refine Runs.iloadN (g j93 0 rfl) rfl ?_
 refine Runs.iconst (v := (5 : Int32)) (g j93 1 rfl) (by decide) ?_
 refine Runs.iadd (z := (Int32.ofNat (xs.length + 5))) (g j93 2 rfl) (own_add (a := xs.length) (b := 5) (by omega)) ?_
 refine Runs.istore (ls' := #[vr t, vi (Int32.ofNat xs.length), vi c0, vi c1, vi c2, vi c3, vi c4, vi (Int32.ofNat (xs.length + 5))]) (g j93 3 rfl) rfl ?_
 refine Runs.iloadN (g j93 4 rfl) rfl ?_
 refine Runs.iload (g j93 5 rfl) rfl ?_
 refine Runs.aloadN (g j93 6 rfl) rfl rfl ?_
 refine Runs.callSW (argsL := [(.int (Int32.ofNat xs.length)), (.int (Int32.ofNat (xs.length + 5))), (.ref t)]) (rest := []) (W := 0) (g j93 7 rfl) (wd hw 515 rfl) (wd hw 516 rfl) (wd hw 460 rfl) (wd hw 517 rfl) (by decide) pd_14 rfl rfl rfl rfl (by decide) (by decide) (by decide) (by decide) all0 (by decide) (own_ube l Z a0 hw n0 xs.length (xs.length + 5) cap (by omega) hx hcap fm hfm S_F t k _ _ T0) ?_
 rintro v h1 D1 ⟨rfl, rfl, rfl⟩ hsz
 show Runs _ _ _ _ _ _ _ _ _ _ _ _ [t] h0 0 0 12 _ []
 refine Runs.aloadN (g j93 8 rfl) rfl rfl ?_
 refine Runs.iloadN (g j93 9 rfl) rfl ?_
 refine Runs.iinc (z := (Int32.ofNat (xs.length + 1))) (ls' := #[vr t, vi (Int32.ofNat (xs.length + 1)), vi c0, vi c1, vi c2, vi c3, vi c4, vi (Int32.ofNat (xs.length + 5))]) (g j93 10 rfl) rfl (own_add (a := xs.length) (b := 1) (by omega)) rfl ?_
 refine Runs.iloadN (g j93 11 rfl) rfl ?_
 have Hc0 := own_upc l Z a0 hw n0 t k cap xs _ T0 c0 (by omega) hcap gt S_A S_H S_L
 refine Runs.callSW (argsL := [(.ref t), (.int (Int32.ofNat xs.length)), (.int c0)]) (rest := []) (W := 0) (g j93 12 rfl) (wd hw 462 rfl) (wd hw 463 rfl) (wd hw 460 rfl) (wd hw 464 rfl) (by decide) pd_0 rfl rfl rfl rfl (by decide) (by decide) (by decide) (by decide) (allS (mi 0 rfl) all0) (by decide) Hc0 ?_
 rintro v h_3 D1 ⟨rfl, K_1, A_2, rfl⟩ hsz
 show Runs _ _ _ _ _ _ _ _ _ _ _ _ [t] h_3 0 0 21 _ []
 refine Runs.aloadN (g j93 13 rfl) rfl rfl ?_
 refine Runs.iloadN (g j93 14 rfl) rfl ?_
 refine Runs.iinc (z := (Int32.ofNat (xs.length + 1 + 1))) (ls' := #[vr t, vi (Int32.ofNat (xs.length + 1 + 1)), vi c0, vi c1, vi c2, vi c3, vi c4, vi (Int32.ofNat (xs.length + 5))]) (g j93 15 rfl) rfl (own_add (a := (xs.length + 1)) (b := 1) (by omega)) rfl ?_
 refine Runs.iloadN (g j93 16 rfl) rfl ?_
 have Hc1 := own_upc l Z a0 hw n0 t k cap (xs ++ [c0]) _ A_2 c1 (by simp only [List.length_append, List.length_cons, List.length_nil, Nat.zero_add]; omega) hcap gt S_A S_H S_L
 rw [show (xs ++ [c0]).length = xs.length + 1 from by simp only [List.length_append, List.length_cons, List.length_nil, Nat.zero_add]] at Hc1
 refine Runs.callSW (argsL := [(.ref t), (.int (Int32.ofNat (xs.length + 1))), (.int c1)]) (rest := []) (W := 0) (g j93 17 rfl) (wd hw 462 rfl) (wd hw 463 rfl) (wd hw 460 rfl) (wd hw 464 rfl) (by decide) pd_0 rfl rfl rfl rfl (by decide) (by decide) (by decide) (by decide) (allS (mi 0 rfl) all0) (by decide) Hc1 ?_
 rintro v h_6 D1 ⟨rfl, K_4, A_5, rfl⟩ hsz
 show Runs _ _ _ _ _ _ _ _ _ _ _ _ [t] h_6 0 0 30 _ []
 refine Runs.aloadN (g j93 18 rfl) rfl rfl ?_
 refine Runs.iloadN (g j93 19 rfl) rfl ?_
 refine Runs.iinc (z := (Int32.ofNat (xs.length + 1 + 1 + 1))) (ls' := #[vr t, vi (Int32.ofNat (xs.length + 1 + 1 + 1)), vi c0, vi c1, vi c2, vi c3, vi c4, vi (Int32.ofNat (xs.length + 5))]) (g j93 20 rfl) rfl (own_add (a := (xs.length + 1 + 1)) (b := 1) (by omega)) rfl ?_
 refine Runs.iload (g j93 21 rfl) rfl ?_
 have Hc2 := own_upc l Z a0 hw n0 t k cap ((xs ++ [c0]) ++ [c1]) _ A_5 c2 (by simp only [List.length_append, List.length_cons, List.length_nil, Nat.zero_add]; omega) hcap gt S_A S_H S_L
 rw [show ((xs ++ [c0]) ++ [c1]).length = xs.length + 1 + 1 from by simp only [List.length_append, List.length_cons, List.length_nil, Nat.zero_add]] at Hc2
 refine Runs.callSW (argsL := [(.ref t), (.int (Int32.ofNat (xs.length + 1 + 1))), (.int c2)]) (rest := []) (W := 0) (g j93 22 rfl) (wd hw 462 rfl) (wd hw 463 rfl) (wd hw 460 rfl) (wd hw 464 rfl) (by decide) pd_0 rfl rfl rfl rfl (by decide) (by decide) (by decide) (by decide) (allS (mi 0 rfl) all0) (by decide) Hc2 ?_
 rintro v h_9 D1 ⟨rfl, K_7, A_8, rfl⟩ hsz
 show Runs _ _ _ _ _ _ _ _ _ _ _ _ [t] h_9 0 0 40 _ []
 refine Runs.aloadN (g j93 23 rfl) rfl rfl ?_
 refine Runs.iloadN (g j93 24 rfl) rfl ?_
 refine Runs.iinc (z := (Int32.ofNat (xs.length + 1 + 1 + 1 + 1))) (ls' := #[vr t, vi (Int32.ofNat (xs.length + 1 + 1 + 1 + 1)), vi c0, vi c1, vi c2, vi c3, vi c4, vi (Int32.ofNat (xs.length + 5))]) (g j93 25 rfl) rfl (own_add (a := (xs.length + 1 + 1 + 1)) (b := 1) (by omega)) rfl ?_
 refine Runs.iload (g j93 26 rfl) rfl ?_
 have Hc3 := own_upc l Z a0 hw n0 t k cap (((xs ++ [c0]) ++ [c1]) ++ [c2]) _ A_8 c3 (by simp only [List.length_append, List.length_cons, List.length_nil, Nat.zero_add]; omega) hcap gt S_A S_H S_L
 rw [show (((xs ++ [c0]) ++ [c1]) ++ [c2]).length = xs.length + 1 + 1 + 1 from by simp only [List.length_append, List.length_cons, List.length_nil, Nat.zero_add]] at Hc3
 refine Runs.callSW (argsL := [(.ref t), (.int (Int32.ofNat (xs.length + 1 + 1 + 1))), (.int c3)]) (rest := []) (W := 0) (g j93 27 rfl) (wd hw 462 rfl) (wd hw 463 rfl) (wd hw 460 rfl) (wd hw 464 rfl) (by decide) pd_0 rfl rfl rfl rfl (by decide) (by decide) (by decide) (by decide) (allS (mi 0 rfl) all0) (by decide) Hc3 ?_
 rintro v h_12 D1 ⟨rfl, K_10, A_11, rfl⟩ hsz
 show Runs _ _ _ _ _ _ _ _ _ _ _ _ [t] h_12 0 0 50 _ []
 refine Runs.aloadN (g j93 28 rfl) rfl rfl ?_
 refine Runs.iloadN (g j93 29 rfl) rfl ?_
 refine Runs.iinc (z := (Int32.ofNat (xs.length + 1 + 1 + 1 + 1 + 1))) (ls' := #[vr t, vi (Int32.ofNat (xs.length + 1 + 1 + 1 + 1 + 1)), vi c0, vi c1, vi c2, vi c3, vi c4, vi (Int32.ofNat (xs.length + 5))]) (g j93 30 rfl) rfl (own_add (a := (xs.length + 1 + 1 + 1 + 1)) (b := 1) (by omega)) rfl ?_
 refine Runs.iload (g j93 31 rfl) rfl ?_
 have Hc4 := own_upc l Z a0 hw n0 t k cap ((((xs ++ [c0]) ++ [c1]) ++ [c2]) ++ [c3]) _ A_11 c4 (by simp only [List.length_append, List.length_cons, List.length_nil, Nat.zero_add]; omega) hcap gt S_A S_H S_L
 rw [show ((((xs ++ [c0]) ++ [c1]) ++ [c2]) ++ [c3]).length = xs.length + 1 + 1 + 1 + 1 from by simp only [List.length_append, List.length_cons, List.length_nil, Nat.zero_add]] at Hc4
 refine Runs.callSW (argsL := [(.ref t), (.int (Int32.ofNat (xs.length + 1 + 1 + 1 + 1))), (.int c4)]) (rest := []) (W := 0) (g j93 32 rfl) (wd hw 462 rfl) (wd hw 463 rfl) (wd hw 460 rfl) (wd hw 464 rfl) (by decide) pd_0 rfl rfl rfl rfl (by decide) (by decide) (by decide) (by decide) (allS (mi 0 rfl) all0) (by decide) Hc4 ?_
 rintro v h_15 D1 ⟨rfl, K_13, A_14, rfl⟩ hsz
 show Runs _ _ _ _ _ _ _ _ _ _ _ _ [t] h_15 0 0 60 _ []
 refine Runs.getS (g j93 33 rfl) (wd hw 465 rfl) Via.refl S_A ?_
 refine Runs.ifY (t := 80) (g j93 34 rfl) (by decide) (feq (by decide : ¬ ((1 : Int32) = (0 : Int32)))).2 ?_
 refine Runs.iload (g j93 35 rfl) rfl ?_
 refine Runs.weak (D1 := []) (fun _ q => nomatch q) ?_
 exact Runs.retI (z := Int32.ofNat (xs.length + 5)) (g j93 36 rfl) rfl (Or.inl rfl) rfl (by decide) (by decide) ⟨rfl, ((((K_1.trans K_4 (allS (Or.inl (mi 0 rfl)) all0)).trans K_7 (allS (Or.inl (mi 0 rfl)) all0)).trans K_10 (allS (Or.inl (mi 0 rfl)) all0)).trans K_13 (allS (Or.inl (mi 0 rfl)) all0)), by rw [show xs ++ [c0, c1, c2, c3, c4] = (((((xs ++ [c0]) ++ [c1]) ++ [c2]) ++ [c3]) ++ [c4]) from by simp only [List.append_assoc, List.cons_append, List.nil_append]]; exact A_14, rfl⟩
theorem own_word0 : Lat ([102, 97, 108, 115, 101] : List Int32) := by unfold Lat; decide
theorem own_word0C : Chs ([102, 97, 108, 115, 101] : List Int32) := own_chl own_word0
theorem own_az0f0 (hw : Wds Z a0) (n0 : Nat) (a t : Addr) (k : ClassId) (cap : Nat) (xs : List Int32) (h0 : Heap) (B0 : SBd Z h0 a t k cap xs) (hfit : xs.length + 5 ≤ cap) (m0 : Nat) (hm : n0 ≤ m0 ∧ m0 ≤ h0.size) (ma : m0 ≤ a) (mt : m0 ≤ t) (cpt : Int32) (S_C : SC Z cpt) (hcpt : ¬ cpt = 0) (S_A : SA Z) (S_H : SH Z) (S_L : SL Z) (fm : Value) (hfm : fm.isRef = true) (S_F : SF Z fm) : Con 1 l Z EL_ n0 m65_ c65_ 4 (some (.object S2_)) ⟨4, 0, 0, 62⟩ #[(.ref a), (.int 0)] [t] h0 (fun v h D' => v = some (.ref a) ∧ ∃ t' k', m0 ≤ t' ∧ Keep h0 h [a, t] ∧ SBx Z h a t' k' cap (xs ++ ([102, 97, 108, 115, 101] : List Int32)) ∧ D' = [t']) := by
 refine Con.of_runs (ls := #[vr a, vi 0, .unset, .unset]) (by decide +kernel) (ef rfl rfl) ?_
 obtain ⟨BO, BA, BE, BL, hle, hcap⟩ := id B0
 have hat : a ≠ t := Exa.neArv BO.1 BA (wd hw 196 rfl)
 refine Runs.aloadN (g j65 0 rfl) rfl rfl ?_
 refine Runs.aloadN (g j65 1 rfl) rfl rfl ?_
 refine Runs.getF (g j65 2 rfl) (host := "") (Or.inl (wd hw 236 rfl)) Via.refl (BO.fld (i := 2) rfl) ?_
 refine Runs.iloadN (g j65 3 rfl) rfl ?_
 refine Runs.ifY (t := 13) (g j65 4 rfl) (by decide) (teq (by decide : (0 : Int32) = (0 : Int32))).1 ?_
 refine Runs.iconst (v := (5 : Int32)) (g j65 7 rfl) (by decide) ?_
 refine Runs.iadd (z := (Int32.ofNat (xs.length + 5))) (g j65 8 rfl) (own_add (a := xs.length) (b := 5) (by omega)) ?_
 refine Runs.callVW (argsL := [(.int (Int32.ofNat (xs.length + 5)))]) (rest := []) (W := 0) (g j65 9 rfl) (wd hw 238 rfl) (declares_of (wd hw 239 rfl) (wd hw 242 rfl)) (fun s hZ => notFace_of_selects (args := #[]) (mvT hZ (wd hw 241 rfl))) (wd hw 241 rfl) (wd hw 239 rfl) (wd hw 242 rfl) (wd hw 205 rfl) (by decide) BO.1 pd_8 rfl rfl rfl rfl (by decide) (by decide) (by decide) (by decide) all0 (by decide) (own_ecf l Z a0 hw n0 a t k cap xs _ B0 (xs.length + 5) (by omega)) ?_
 rintro v h1 D1 ⟨rfl, rfl, rfl⟩ hsz
 show Runs _ _ _ _ _ _ _ _ _ _ _ _ [t] h0 0 0 18 _ []
 have A8 : Arv Z h0 t k .byte (Int32.ofNat cap) ((xs.map own_8).map Value.int) (.int 0) := by rw [← own_map8]; exact BA
 refine Runs.aloadN (g j65 10 rfl) rfl rfl ?_
 refine Runs.getF (g j65 11 rfl) (host := "") (Or.inl (wd hw 236 rfl)) Via.refl (BO.fld (i := 2) rfl) ?_
 refine Runs.istoreN (ls' := #[vr a, vi 0, vi (Int32.ofNat xs.length), .unset]) (g j65 12 rfl) rfl ?_
 refine Runs.aloadN (g j65 13 rfl) rfl rfl ?_
 refine Runs.getF (g j65 14 rfl) (host := "") (Or.inl (wd hw 209 rfl)) Via.refl (BO.fld (i := 0) rfl) ?_
 refine Runs.astoreN (ls' := #[vr a, vi 0, vi (Int32.ofNat xs.length), vr t]) (g j65 15 rfl) rfl rfl ?_
 refine Runs.aloadN (g j65 16 rfl) rfl rfl ?_
 refine Runs.callVW (argsL := []) (rest := []) (W := 0) (g j65 17 rfl) (wd hw 339 rfl) (wd hw 340 rfl) (fun s hZ => notFace_of_selects (args := #[]) (mvT hZ (wd hw 342 rfl))) (wd hw 342 rfl) (wd hw 341 rfl) (wd hw 343 rfl) (wd hw 205 rfl) (by decide) B0.1.1 pd_7 rfl rfl rfl rfl (by decide) (by decide) (by decide) (by decide) all0 (by decide) (own_bil l Z a0 hw n0 a t k cap xs _ B0 cpt S_C hcpt) ?_
 rintro v h1 D1 ⟨rfl, rfl, rfl⟩ hsz
 show Runs _ _ _ _ _ _ _ _ _ _ _ _ [t] h0 0 0 32 _ [(.int 1)]
 refine Runs.ifN (g j65 18 rfl) (feq (by decide : ¬ ((1 : Int32) = (0 : Int32)))).1 ?_
 refine Runs.iloadN (g j65 19 rfl) rfl ?_
 refine Runs.ifY (t := 74) (g j65 20 rfl) (by decide) (teq (by decide : (0 : Int32) = (0 : Int32))).1 ?_
 refine Runs.aloadN (g j65 42 rfl) rfl rfl ?_
 refine Runs.iloadN (g j65 43 rfl) rfl ?_
 refine Runs.iinc (z := (Int32.ofNat (xs.length + 1))) (ls' := #[vr a, vi 0, vi (Int32.ofNat (xs.length + 1)), vr t]) (g j65 44 rfl) rfl (own_add (a := xs.length) (b := 1) (by omega)) rfl ?_
 refine Runs.bipush (v := (102 : Int32)) (g j65 45 rfl) (by decide) ?_
 refine own_bapp (y := (102 : Int32)) (L := (xs.map own_8)) (c := cap) (j := xs.length) (g j65 46 rfl) A8 (by simp only [List.length_map, List.length_append, List.length_cons, List.length_nil, Nat.zero_add]; first | done | omega) (by simp only [List.length_map, List.length_append, List.length_cons, List.length_nil, Nat.zero_add]; omega) (by omega) (by decide) (Nat.le_trans hm.1 mt) (mi 0 rfl) ?_
 intro h_1 K_2 A_3
 refine Runs.aloadN (g j65 47 rfl) rfl rfl ?_
 refine Runs.iloadN (g j65 48 rfl) rfl ?_
 refine Runs.iinc (z := (Int32.ofNat (xs.length + 1 + 1))) (ls' := #[vr a, vi 0, vi (Int32.ofNat (xs.length + 1 + 1)), vr t]) (g j65 49 rfl) rfl (own_add (a := (xs.length + 1)) (b := 1) (by omega)) rfl ?_
 refine Runs.bipush (v := (97 : Int32)) (g j65 50 rfl) (by decide) ?_
 refine own_bapp (y := (97 : Int32)) (L := ((xs.map own_8) ++ [(102 : Int32)])) (c := cap) (j := (xs.length + 1)) (g j65 51 rfl) A_3 (by simp only [List.length_map, List.length_append, List.length_cons, List.length_nil, Nat.zero_add]; first | done | omega) (by simp only [List.length_map, List.length_append, List.length_cons, List.length_nil, Nat.zero_add]; omega) (by omega) (by decide) (Nat.le_trans hm.1 mt) (mi 0 rfl) ?_
 intro h_4 K_5 A_6
 refine Runs.aloadN (g j65 52 rfl) rfl rfl ?_
 refine Runs.iloadN (g j65 53 rfl) rfl ?_
 refine Runs.iinc (z := (Int32.ofNat (xs.length + 1 + 1 + 1))) (ls' := #[vr a, vi 0, vi (Int32.ofNat (xs.length + 1 + 1 + 1)), vr t]) (g j65 54 rfl) rfl (own_add (a := (xs.length + 1 + 1)) (b := 1) (by omega)) rfl ?_
 refine Runs.bipush (v := (108 : Int32)) (g j65 55 rfl) (by decide) ?_
 refine own_bapp (y := (108 : Int32)) (L := (((xs.map own_8) ++ [(102 : Int32)]) ++ [(97 : Int32)])) (c := cap) (j := (xs.length + 1 + 1)) (g j65 56 rfl) A_6 (by simp only [List.length_map, List.length_append, List.length_cons, List.length_nil, Nat.zero_add]; first | done | omega) (by simp only [List.length_map, List.length_append, List.length_cons, List.length_nil, Nat.zero_add]; omega) (by omega) (by decide) (Nat.le_trans hm.1 mt) (mi 0 rfl) ?_
 intro h_7 K_8 A_9
 refine Runs.aloadN (g j65 57 rfl) rfl rfl ?_
 refine Runs.iloadN (g j65 58 rfl) rfl ?_
 refine Runs.iinc (z := (Int32.ofNat (xs.length + 1 + 1 + 1 + 1))) (ls' := #[vr a, vi 0, vi (Int32.ofNat (xs.length + 1 + 1 + 1 + 1)), vr t]) (g j65 59 rfl) rfl (own_add (a := (xs.length + 1 + 1 + 1)) (b := 1) (by omega)) rfl ?_
 refine Runs.bipush (v := (115 : Int32)) (g j65 60 rfl) (by decide) ?_
 refine own_bapp (y := (115 : Int32)) (L := ((((xs.map own_8) ++ [(102 : Int32)]) ++ [(97 : Int32)]) ++ [(108 : Int32)])) (c := cap) (j := (xs.length + 1 + 1 + 1)) (g j65 61 rfl) A_9 (by simp only [List.length_map, List.length_append, List.length_cons, List.length_nil, Nat.zero_add]; first | done | omega) (by simp only [List.length_map, List.length_append, List.length_cons, List.length_nil, Nat.zero_add]; omega) (by omega) (by decide) (Nat.le_trans hm.1 mt) (mi 0 rfl) ?_
 intro h_10 K_11 A_12
 refine Runs.aloadN (g j65 62 rfl) rfl rfl ?_
 refine Runs.iloadN (g j65 63 rfl) rfl ?_
 refine Runs.iinc (z := (Int32.ofNat (xs.length + 1 + 1 + 1 + 1 + 1))) (ls' := #[vr a, vi 0, vi (Int32.ofNat (xs.length + 1 + 1 + 1 + 1 + 1)), vr t]) (g j65 64 rfl) rfl (own_add (a := (xs.length + 1 + 1 + 1 + 1)) (b := 1) (by omega)) rfl ?_
 refine Runs.bipush (v := (101 : Int32)) (g j65 65 rfl) (by decide) ?_
 refine own_bapp (y := (101 : Int32)) (L := (((((xs.map own_8) ++ [(102 : Int32)]) ++ [(97 : Int32)]) ++ [(108 : Int32)]) ++ [(115 : Int32)])) (c := cap) (j := (xs.length + 1 + 1 + 1 + 1)) (g j65 66 rfl) A_12 (by simp only [List.length_map, List.length_append, List.length_cons, List.length_nil, Nat.zero_add]; first | done | omega) (by simp only [List.length_map, List.length_append, List.length_cons, List.length_nil, Nat.zero_add]; omega) (by omega) (by decide) (Nat.le_trans hm.1 mt) (mi 0 rfl) ?_
 intro h_13 K_14 A_15
 refine Runs.goto (t := 154) (g j65 67 rfl) (by decide) ?_
 refine Runs.aloadN (g j65 88 rfl) rfl rfl ?_
 refine Runs.iloadN (g j65 89 rfl) rfl ?_
 have O_16 := (((((BO.keep K_2 (ninS hat nin0)).keep K_5 (ninS hat nin0)).keep K_8 (ninS hat nin0)).keep K_11 (ninS hat nin0)).keep K_14 (ninS hat nin0))
 refine Runs.putF (i := 2) (ty := .int) (g j65 90 rfl) (host := "") (Or.inl (wd hw 236 rfl)) Via.refl O_16 rfl (lay_2 hw) rfl (Or.inl (wd hw 237 rfl)) (wd hw 196 rfl) (by decide) rfl rfl (Nat.le_trans hm.1 ma) (Or.inr ⟨by decide, by decide⟩) ?_
 intro h_17 K_18 (O_19 : Obj Z h_17 a S10_ [(S2_, "value", "[B", (.ref t)), (S2_, "coder", "B", (.int 0)), (S2_, "count", "I", (.int (Int32.ofNat (xs.length + 1 + 1 + 1 + 1 + 1)))), (S2_, S21_, "Z", (.int 0))])
 refine Runs.aloadN (g j65 91 rfl) rfl rfl ?_
 have A_20 := (A_15.keep K_18 (ninS (Ne.symm hat) nin0))
 exact Runs.retA (g j65 92 rfl) rfl rfl rfl (by first | decide | (dsimp only; first | decide | omega)) (by first | decide | (dsimp only; first | decide | omega)) ⟨rfl, t, k, mt, (((((((Keep.refl _ _).trans K_2 (allS (Or.inl (mi 1 rfl)) all0)).trans K_5 (allS (Or.inl (mi 1 rfl)) all0)).trans K_8 (allS (Or.inl (mi 1 rfl)) all0)).trans K_11 (allS (Or.inl (mi 1 rfl)) all0)).trans K_14 (allS (Or.inl (mi 1 rfl)) all0)).trans K_18 (allS (Or.inl (mi 0 rfl)) all0)), Or.inl ⟨by rw [List.length_append]; exact O_19, (by rw [own_map8, List.map_append, show ([102, 97, 108, 115, 101] : List Int32).map own_8 = ([102, 97, 108, 115, 101] : List Int32) from by decide]; simpa only [List.append_assoc, List.cons_append, List.nil_append] using A_20), ((((((BE.keep K_2).keep K_5).keep K_8).keep K_11).keep K_14).keep K_18), own_lat_app BL own_word0, by rw [List.length_append]; show xs.length + 5 ≤ _; omega, by omega⟩, rfl⟩
theorem own_az0f1 (hw : Wds Z a0) (n0 : Nat) (a t : Addr) (k : ClassId) (cap : Nat) (xs : List Int32) (h0 : Heap) (B0 : SBw Z h0 a t k cap xs) (hfit : xs.length + 5 ≤ cap) (m0 : Nat) (hm : n0 ≤ m0 ∧ m0 ≤ h0.size) (ma : m0 ≤ a) (mt : m0 ≤ t) (cpt : Int32) (S_C : SC Z cpt) (hcpt : ¬ cpt = 0) (S_A : SA Z) (S_H : SH Z) (S_L : SL Z) (fm : Value) (hfm : fm.isRef = true) (S_F : SF Z fm) : Con 1 l Z EL_ n0 m65_ c65_ 4 (some (.object S2_)) ⟨4, 0, 0, 62⟩ #[(.ref a), (.int 0)] [t] h0 (fun v h D' => v = some (.ref a) ∧ ∃ t' k', m0 ≤ t' ∧ Keep h0 h [a, t] ∧ SBx Z h a t' k' cap (xs ++ ([102, 97, 108, 115, 101] : List Int32)) ∧ D' = [t']) := by
 refine Con.of_runs (ls := #[vr a, vi 0, .unset, .unset]) (by decide +kernel) (ef rfl rfl) ?_
 obtain ⟨BO, BA, BE, BL, hle, hcap⟩ := id B0
 have hat : a ≠ t := Exa.neArv BO.1 BA (wd hw 196 rfl)
 refine Runs.aloadN (g j65 0 rfl) rfl rfl ?_
 refine Runs.aloadN (g j65 1 rfl) rfl rfl ?_
 refine Runs.getF (g j65 2 rfl) (host := "") (Or.inl (wd hw 236 rfl)) Via.refl (BO.fld (i := 2) rfl) ?_
 refine Runs.iloadN (g j65 3 rfl) rfl ?_
 refine Runs.ifY (t := 13) (g j65 4 rfl) (by decide) (teq (by decide : (0 : Int32) = (0 : Int32))).1 ?_
 refine Runs.iconst (v := (5 : Int32)) (g j65 7 rfl) (by decide) ?_
 refine Runs.iadd (z := (Int32.ofNat (xs.length + 5))) (g j65 8 rfl) (own_add (a := xs.length) (b := 5) (by omega)) ?_
 refine Runs.callVW (argsL := [(.int (Int32.ofNat (xs.length + 5)))]) (rest := []) (W := 0) (g j65 9 rfl) (wd hw 238 rfl) (declares_of (wd hw 239 rfl) (wd hw 242 rfl)) (fun s hZ => notFace_of_selects (args := #[]) (mvT hZ (wd hw 241 rfl))) (wd hw 241 rfl) (wd hw 239 rfl) (wd hw 242 rfl) (wd hw 205 rfl) (by decide) BO.1 pd_8 rfl rfl rfl rfl (by decide) (by decide) (by decide) (by decide) all0 (by decide) (own_ecfw l Z a0 hw n0 a t k cap xs _ B0 (xs.length + 5) (by omega)) ?_
 rintro v h1 D1 ⟨rfl, rfl, rfl⟩ hsz
 show Runs _ _ _ _ _ _ _ _ _ _ _ _ [t] h0 0 0 18 _ []
 refine Runs.aloadN (g j65 10 rfl) rfl rfl ?_
 refine Runs.getF (g j65 11 rfl) (host := "") (Or.inl (wd hw 236 rfl)) Via.refl (BO.fld (i := 2) rfl) ?_
 refine Runs.istoreN (ls' := #[vr a, vi 0, vi (Int32.ofNat xs.length), .unset]) (g j65 12 rfl) rfl ?_
 refine Runs.aloadN (g j65 13 rfl) rfl rfl ?_
 refine Runs.getF (g j65 14 rfl) (host := "") (Or.inl (wd hw 209 rfl)) Via.refl (BO.fld (i := 0) rfl) ?_
 refine Runs.astoreN (ls' := #[vr a, vi 0, vi (Int32.ofNat xs.length), vr t]) (g j65 15 rfl) rfl rfl ?_
 refine Runs.aloadN (g j65 16 rfl) rfl rfl ?_
 refine Runs.callVW (argsL := []) (rest := []) (W := 0) (g j65 17 rfl) (wd hw 339 rfl) (wd hw 340 rfl) (fun s hZ => notFace_of_selects (args := #[]) (mvT hZ (wd hw 342 rfl))) (wd hw 342 rfl) (wd hw 341 rfl) (wd hw 343 rfl) (wd hw 205 rfl) (by decide) B0.1.1 pd_7 rfl rfl rfl rfl (by decide) (by decide) (by decide) (by decide) all0 (by decide) (own_bil1 l Z a0 hw n0 a t k cap xs _ B0 cpt S_C hcpt) ?_
 rintro v h1 D1 ⟨rfl, rfl, rfl⟩ hsz
 show Runs _ _ _ _ _ _ _ _ _ _ _ _ [t] h0 0 0 32 _ [(.int 0)]
 refine Runs.ifY (t := 117) (g j65 18 rfl) (by decide) (teq (by decide : (0 : Int32) = (0 : Int32))).1 ?_
 refine Runs.iloadN (g j65 68 rfl) rfl ?_
 refine Runs.ifY (t := 138) (g j65 69 rfl) (by decide) (teq (by decide : (0 : Int32) = (0 : Int32))).1 ?_
 refine Runs.aloadN (g j65 79 rfl) rfl rfl ?_
 refine Runs.iloadN (g j65 80 rfl) rfl ?_
 refine Runs.bipush (v := (102 : Int32)) (g j65 81 rfl) (by decide) ?_
 refine Runs.bipush (v := (97 : Int32)) (g j65 82 rfl) (by decide) ?_
 refine Runs.bipush (v := (108 : Int32)) (g j65 83 rfl) (by decide) ?_
 refine Runs.bipush (v := (115 : Int32)) (g j65 84 rfl) (by decide) ?_
 refine Runs.bipush (v := (101 : Int32)) (g j65 85 rfl) (by decide) ?_
 refine Runs.callSW (argsL := [(.ref t), (.int (Int32.ofNat xs.length)), (.int 102), (.int 97), (.int 108), (.int 115), (.int 101)]) (rest := []) (W := 0) (g j65 86 rfl) (wd hw 536 rfl) (wd hw 537 rfl) (wd hw 460 rfl) (wd hw 538 rfl) (by decide) pd_41 rfl rfl rfl rfl (by decide) (by decide) (by decide) (by decide) (allS (mi 0 rfl) all0) (by decide) (own_pca5 l Z a0 hw n0 t k cap xs _ BA 102 97 108 115 101 (by omega) (by omega) (Nat.le_trans hm.1 mt) S_A S_H S_L fm hfm S_F) ?_
 rintro v h9 D1 ⟨rfl, K9, A9, rfl⟩ hsz
 show Runs _ _ _ _ _ _ _ _ _ _ _ _ [t] h9 0 0 153 _ [(.int (Int32.ofNat (xs.length + 5)))]
 refine Runs.istoreN (ls' := #[vr a, vi 0, vi (Int32.ofNat (xs.length + 5)), vr t]) (g j65 87 rfl) rfl ?_
 refine Runs.aloadN (g j65 88 rfl) rfl rfl ?_
 refine Runs.iloadN (g j65 89 rfl) rfl ?_
 have O_1 := (BO.keep K9 (ninS hat nin0))
 refine Runs.putF (i := 2) (ty := .int) (g j65 90 rfl) (host := "") (Or.inl (wd hw 236 rfl)) Via.refl O_1 rfl (lay_2 hw) rfl (Or.inl (wd hw 237 rfl)) (wd hw 196 rfl) (by decide) rfl rfl (Nat.le_trans hm.1 ma) (Or.inr ⟨by decide, by decide⟩) ?_
 intro h_2 K_3 (O_4 : Obj Z h_2 a S10_ [(S2_, "value", "[B", (.ref t)), (S2_, "coder", "B", (.int 1)), (S2_, "count", "I", (.int (Int32.ofNat (xs.length + 5)))), (S2_, S21_, "Z", (.int 0))])
 refine Runs.aloadN (g j65 91 rfl) rfl rfl ?_
 have A_5 := (A9.keep K_3 (ninS (Ne.symm hat) nin0))
 exact Runs.retA (g j65 92 rfl) rfl rfl rfl (by first | decide | (dsimp only; first | decide | omega)) (by first | decide | (dsimp only; first | decide | omega)) ⟨rfl, t, k, mt, (((Keep.refl _ _).trans K9 (allS (Or.inl (mi 1 rfl)) all0)).trans K_3 (allS (Or.inl (mi 0 rfl)) all0)), Or.inr ⟨by rw [List.length_append]; exact O_4, A_5, ((BE.keep K9).keep K_3), own_cha_app BL (own_word0C), by rw [List.length_append]; show xs.length + 5 ≤ _; omega, by omega⟩, rfl⟩
theorem own_az0f (hw : Wds Z a0) (n0 : Nat) (a t : Addr) (k : ClassId) (cap : Nat) (xs : List Int32) (h0 : Heap) (B0 : SBx Z h0 a t k cap xs) (hfit : xs.length + 5 ≤ cap) (m0 : Nat) (hm : n0 ≤ m0 ∧ m0 ≤ h0.size) (ma : m0 ≤ a) (mt : m0 ≤ t) (cpt : Int32) (S_C : SC Z cpt) (hcpt : ¬ cpt = 0) (S_A : SA Z) (S_H : SH Z) (S_L : SL Z) (fm : Value) (hfm : fm.isRef = true) (S_F : SF Z fm) : Con 1 l Z EL_ n0 m65_ c65_ 4 (some (.object S2_)) ⟨4, 0, 0, 62⟩ #[(.ref a), (.int 0)] [t] h0 (fun v h D' => v = some (.ref a) ∧ ∃ t' k', m0 ≤ t' ∧ Keep h0 h [a, t] ∧ SBx Z h a t' k' cap (xs ++ ([102, 97, 108, 115, 101] : List Int32)) ∧ D' = [t']) := by
 rcases B0 with B0 | B0
 · exact own_az0f0 l Z a0 hw n0 a t k cap xs h0 B0 hfit m0 hm ma mt cpt S_C hcpt S_A S_H S_L fm hfm S_F
 · exact own_az0f1 l Z a0 hw n0 a t k cap xs h0 B0 hfit m0 hm ma mt cpt S_C hcpt S_A S_H S_L fm hfm S_F
theorem own_sz0f (hw : Wds Z a0) (n0 : Nat) (a t : Addr) (k : ClassId) (cap : Nat) (xs : List Int32) (h0 : Heap) (B0 : SBx Z h0 a t k cap xs) (hfit : xs.length + 5 ≤ cap) (m0 : Nat) (hm : n0 ≤ m0 ∧ m0 ≤ h0.size) (ma : m0 ≤ a) (mt : m0 ≤ t) (cpt : Int32) (S_C : SC Z cpt) (hcpt : ¬ cpt = 0) (S_A : SA Z) (S_H : SH Z) (S_L : SL Z) (fm : Value) (hfm : fm.isRef = true) (S_F : SF Z fm) : Con 1 l Z EL_ n0 m64_ c64_ 2 (some (.object S10_)) ⟨5, 0, 0, 77⟩ #[(.ref a), (.int 0)] [t] h0 (fun v h D' => v = some (.ref a) ∧ ∃ t' k', m0 ≤ t' ∧ Keep h0 h [a, t] ∧ SBx Z h a t' k' cap (xs ++ ([102, 97, 108, 115, 101] : List Int32)) ∧ D' = [t']) := by
 refine Con.of_runs (ls := #[vr a, vi 0]) (by decide +kernel) (ef rfl rfl) ?_
 have BO : Exa Z h0 a S10_ := B0.elim (fun q => q.1.1) (fun q => q.1.1)
 refine Runs.aloadN (g j64 0 rfl) rfl rfl ?_
 refine Runs.iloadN (g j64 1 rfl) rfl ?_
 refine Runs.callUW (argsL := [(.int 0)]) (rest := []) (W := 0) (g j64 2 rfl) (wd hw 408 rfl) (same_of (wd hw 410 rfl) (nf_same (notFace_of_selects (wd hw 241 rfl)) (wd hw 239 rfl) rfl) (by decide)) (wd hw 409 rfl) (wd hw 223 rfl) (wd hw 411 rfl) (wd hw 205 rfl) (by decide) BO pd_42 rfl rfl rfl rfl (by first | decide | (dsimp only; first | decide | omega)) (by first | decide | (dsimp only; first | decide | omega)) (by first | decide | (dsimp only; first | decide | omega)) (by first | decide | (dsimp only; first | decide | omega)) (allS (mi 0 rfl) all0) (by decide) (own_az0f l Z a0 hw n0 a t k cap xs _ B0 hfit m0 hm ma mt cpt S_C hcpt S_A S_H S_L fm hfm S_F) ?_
 rintro v h1 D1 ⟨rfl, t1, k1, g1, K1, B1, rfl⟩ hsz
 show Runs _ _ _ _ _ _ _ _ _ _ _ _ [t1, t] h1 0 0 5 _ [(.ref a)]
 refine Runs.pop (g j64 3 rfl) rfl ?_
 refine Runs.aloadN (g j64 4 rfl) rfl rfl ?_
 refine Runs.weak (D1 := [t1]) (by simp) ?_
 exact Runs.retA (g j64 5 rfl) rfl rfl rfl (by first | decide | (dsimp only; first | decide | omega)) (by first | decide | (dsimp only; first | decide | omega)) ⟨rfl, t1, k1, g1, K1, B1, rfl⟩
theorem own_az0g0 (hw : Wds Z a0) (n0 : Nat) (a t : Addr) (k : ClassId) (cap : Nat) (xs : List Int32) (h0 : Heap) (B0 : SBd Z h0 a t k cap xs) (hfit : cap < xs.length + 5 ∧ xs.length < 10000) (NS : Nat) (hNS : 2 * (cap + max (xs.length + 5 - cap) (cap + 2)) ≤ NS ∧ NS < 100000) (m0 : Nat) (hm : n0 ≤ m0 ∧ m0 ≤ h0.size) (ma : m0 ≤ a) (mt : m0 ≤ t) (cpt : Int32) (S_C : SC Z cpt) (hcpt : ¬ cpt = 0) (S_A : SA Z) (S_H : SH Z) (S_L : SL Z) (fm : Value) (hfm : fm.isRef = true) (S_F : SF Z fm) : Con 1 l Z EL_ n0 m65_ c65_ 4 (some (.object S2_)) ⟨4, 1, NS, 72⟩ #[(.ref a), (.int 0)] [t] h0 (fun v h D' => v = some (.ref a) ∧ ∃ t' k', m0 ≤ t' ∧ Keep h0 h [a, t] ∧ SBx Z h a t' k' (cap + max (xs.length + 5 - cap) (cap + 2)) (xs ++ ([102, 97, 108, 115, 101] : List Int32)) ∧ D' = [t']) := by
 refine Con.of_runs (ls := #[vr a, vi 0, .unset, .unset]) (by decide +kernel) (ef rfl rfl) ?_
 obtain ⟨BO, BA, BE, BL, hle, hcap⟩ := id B0
 have hat : a ≠ t := Exa.neArv BO.1 BA (wd hw 196 rfl)
 refine Runs.aloadN (g j65 0 rfl) rfl rfl ?_
 refine Runs.aloadN (g j65 1 rfl) rfl rfl ?_
 refine Runs.getF (g j65 2 rfl) (host := "") (Or.inl (wd hw 236 rfl)) Via.refl (BO.fld (i := 2) rfl) ?_
 refine Runs.iloadN (g j65 3 rfl) rfl ?_
 refine Runs.ifY (t := 13) (g j65 4 rfl) (by decide) (teq (by decide : (0 : Int32) = (0 : Int32))).1 ?_
 refine Runs.iconst (v := (5 : Int32)) (g j65 7 rfl) (by decide) ?_
 refine Runs.iadd (z := (Int32.ofNat (xs.length + 5))) (g j65 8 rfl) (own_add (a := xs.length) (b := 5) (by omega)) ?_
 refine Runs.callVW (argsL := [(.int (Int32.ofNat (xs.length + 5)))]) (rest := []) (W := 0) (g j65 9 rfl) (wd hw 238 rfl) (declares_of (wd hw 239 rfl) (wd hw 242 rfl)) (fun s hZ => notFace_of_selects (args := #[]) (mvT hZ (wd hw 241 rfl))) (wd hw 241 rfl) (wd hw 239 rfl) (wd hw 242 rfl) (wd hw 205 rfl) (by decide) BO.1 pd_8 rfl rfl rfl rfl (by first | decide | (dsimp only; first | decide | omega)) (by first | decide | (dsimp only; first | decide | omega)) (by first | decide | (dsimp only; first | decide | omega)) (by first | decide | (dsimp only; first | decide | omega)) all0 (by decide) (own_ecg l Z a0 hw n0 a t k cap xs _ B0 (xs.length + 5) NS (by omega) (by omega) (Nat.le_trans hm.1 ma)) ?_
 rintro v hh0 D1 ⟨rfl, t0, k0, g0, K0, B1, rfl⟩ hsz
 show Runs _ _ _ _ _ _ _ _ _ _ _ _ [t0, t] hh0 1 (0 + NS) 18 _ []
 have mt0 : m0 ≤ t0 := Nat.le_trans hm.2 g0
 have hat0 : a ≠ t0 := Exa.neArv B1.1.1 B1.2.1 (wd hw 196 rfl)
 have A8 : Arv Z hh0 t0 k0 .byte (Int32.ofNat (cap + max (xs.length + 5 - cap) (cap + 2))) ((xs.map own_8).map Value.int) (.int 0) := by rw [← own_map8]; exact B1.2.1
 refine Runs.aloadN (g j65 10 rfl) rfl rfl ?_
 refine Runs.getF (g j65 11 rfl) (host := "") (Or.inl (wd hw 236 rfl)) Via.refl (B1.1.fld (i := 2) rfl) ?_
 refine Runs.istoreN (ls' := #[vr a, vi 0, vi (Int32.ofNat xs.length), .unset]) (g j65 12 rfl) rfl ?_
 refine Runs.aloadN (g j65 13 rfl) rfl rfl ?_
 refine Runs.getF (g j65 14 rfl) (host := "") (Or.inl (wd hw 209 rfl)) Via.refl (B1.1.fld (i := 0) rfl) ?_
 refine Runs.astoreN (ls' := #[vr a, vi 0, vi (Int32.ofNat xs.length), vr t0]) (g j65 15 rfl) rfl rfl ?_
 refine Runs.aloadN (g j65 16 rfl) rfl rfl ?_
 refine Runs.callVW (argsL := []) (rest := []) (W := 0) (g j65 17 rfl) (wd hw 339 rfl) (wd hw 340 rfl) (fun s hZ => notFace_of_selects (args := #[]) (mvT hZ (wd hw 342 rfl))) (wd hw 342 rfl) (wd hw 341 rfl) (wd hw 343 rfl) (wd hw 205 rfl) (by decide) B1.1.1 pd_7 rfl rfl rfl rfl (by first | decide | (dsimp only; first | decide | omega)) (by first | decide | (dsimp only; first | decide | omega)) (by first | decide | (dsimp only; first | decide | omega)) (by first | decide | (dsimp only; first | decide | omega)) all0 (by decide) (own_bil l Z a0 hw n0 a t0 k0 (cap + max (xs.length + 5 - cap) (cap + 2)) xs _ B1 cpt S_C hcpt) ?_
 rintro v h1 D1 ⟨rfl, rfl, rfl⟩ hsz
 show Runs _ _ _ _ _ _ _ _ _ _ _ _ [t0, t] hh0 1 (0 + NS) 32 _ [(.int 1)]
 refine Runs.ifN (g j65 18 rfl) (feq (by decide : ¬ ((1 : Int32) = (0 : Int32)))).1 ?_
 refine Runs.iloadN (g j65 19 rfl) rfl ?_
 refine Runs.ifY (t := 74) (g j65 20 rfl) (by decide) (teq (by decide : (0 : Int32) = (0 : Int32))).1 ?_
 refine Runs.aloadN (g j65 42 rfl) rfl rfl ?_
 refine Runs.iloadN (g j65 43 rfl) rfl ?_
 refine Runs.iinc (z := (Int32.ofNat (xs.length + 1))) (ls' := #[vr a, vi 0, vi (Int32.ofNat (xs.length + 1)), vr t0]) (g j65 44 rfl) rfl (own_add (a := xs.length) (b := 1) (by omega)) rfl ?_
 refine Runs.bipush (v := (102 : Int32)) (g j65 45 rfl) (by decide) ?_
 refine own_bapp (y := (102 : Int32)) (L := (xs.map own_8)) (c := (cap + max (xs.length + 5 - cap) (cap + 2))) (j := xs.length) (g j65 46 rfl) A8 (by simp only [List.length_map, List.length_append, List.length_cons, List.length_nil, Nat.zero_add]; first | done | omega) (by simp only [List.length_map, List.length_append, List.length_cons, List.length_nil, Nat.zero_add]; omega) (by omega) (by decide) (Nat.le_trans hm.1 mt0) (mi 0 rfl) ?_
 intro h_1 K_2 A_3
 refine Runs.aloadN (g j65 47 rfl) rfl rfl ?_
 refine Runs.iloadN (g j65 48 rfl) rfl ?_
 refine Runs.iinc (z := (Int32.ofNat (xs.length + 1 + 1))) (ls' := #[vr a, vi 0, vi (Int32.ofNat (xs.length + 1 + 1)), vr t0]) (g j65 49 rfl) rfl (own_add (a := (xs.length + 1)) (b := 1) (by omega)) rfl ?_
 refine Runs.bipush (v := (97 : Int32)) (g j65 50 rfl) (by decide) ?_
 refine own_bapp (y := (97 : Int32)) (L := ((xs.map own_8) ++ [(102 : Int32)])) (c := (cap + max (xs.length + 5 - cap) (cap + 2))) (j := (xs.length + 1)) (g j65 51 rfl) A_3 (by simp only [List.length_map, List.length_append, List.length_cons, List.length_nil, Nat.zero_add]; first | done | omega) (by simp only [List.length_map, List.length_append, List.length_cons, List.length_nil, Nat.zero_add]; omega) (by omega) (by decide) (Nat.le_trans hm.1 mt0) (mi 0 rfl) ?_
 intro h_4 K_5 A_6
 refine Runs.aloadN (g j65 52 rfl) rfl rfl ?_
 refine Runs.iloadN (g j65 53 rfl) rfl ?_
 refine Runs.iinc (z := (Int32.ofNat (xs.length + 1 + 1 + 1))) (ls' := #[vr a, vi 0, vi (Int32.ofNat (xs.length + 1 + 1 + 1)), vr t0]) (g j65 54 rfl) rfl (own_add (a := (xs.length + 1 + 1)) (b := 1) (by omega)) rfl ?_
 refine Runs.bipush (v := (108 : Int32)) (g j65 55 rfl) (by decide) ?_
 refine own_bapp (y := (108 : Int32)) (L := (((xs.map own_8) ++ [(102 : Int32)]) ++ [(97 : Int32)])) (c := (cap + max (xs.length + 5 - cap) (cap + 2))) (j := (xs.length + 1 + 1)) (g j65 56 rfl) A_6 (by simp only [List.length_map, List.length_append, List.length_cons, List.length_nil, Nat.zero_add]; first | done | omega) (by simp only [List.length_map, List.length_append, List.length_cons, List.length_nil, Nat.zero_add]; omega) (by omega) (by decide) (Nat.le_trans hm.1 mt0) (mi 0 rfl) ?_
 intro h_7 K_8 A_9
 refine Runs.aloadN (g j65 57 rfl) rfl rfl ?_
 refine Runs.iloadN (g j65 58 rfl) rfl ?_
 refine Runs.iinc (z := (Int32.ofNat (xs.length + 1 + 1 + 1 + 1))) (ls' := #[vr a, vi 0, vi (Int32.ofNat (xs.length + 1 + 1 + 1 + 1)), vr t0]) (g j65 59 rfl) rfl (own_add (a := (xs.length + 1 + 1 + 1)) (b := 1) (by omega)) rfl ?_
 refine Runs.bipush (v := (115 : Int32)) (g j65 60 rfl) (by decide) ?_
 refine own_bapp (y := (115 : Int32)) (L := ((((xs.map own_8) ++ [(102 : Int32)]) ++ [(97 : Int32)]) ++ [(108 : Int32)])) (c := (cap + max (xs.length + 5 - cap) (cap + 2))) (j := (xs.length + 1 + 1 + 1)) (g j65 61 rfl) A_9 (by simp only [List.length_map, List.length_append, List.length_cons, List.length_nil, Nat.zero_add]; first | done | omega) (by simp only [List.length_map, List.length_append, List.length_cons, List.length_nil, Nat.zero_add]; omega) (by omega) (by decide) (Nat.le_trans hm.1 mt0) (mi 0 rfl) ?_
 intro h_10 K_11 A_12
 refine Runs.aloadN (g j65 62 rfl) rfl rfl ?_
 refine Runs.iloadN (g j65 63 rfl) rfl ?_
 refine Runs.iinc (z := (Int32.ofNat (xs.length + 1 + 1 + 1 + 1 + 1))) (ls' := #[vr a, vi 0, vi (Int32.ofNat (xs.length + 1 + 1 + 1 + 1 + 1)), vr t0]) (g j65 64 rfl) rfl (own_add (a := (xs.length + 1 + 1 + 1 + 1)) (b := 1) (by omega)) rfl ?_
 refine Runs.bipush (v := (101 : Int32)) (g j65 65 rfl) (by decide) ?_
 refine own_bapp (y := (101 : Int32)) (L := (((((xs.map own_8) ++ [(102 : Int32)]) ++ [(97 : Int32)]) ++ [(108 : Int32)]) ++ [(115 : Int32)])) (c := (cap + max (xs.length + 5 - cap) (cap + 2))) (j := (xs.length + 1 + 1 + 1 + 1)) (g j65 66 rfl) A_12 (by simp only [List.length_map, List.length_append, List.length_cons, List.length_nil, Nat.zero_add]; first | done | omega) (by simp only [List.length_map, List.length_append, List.length_cons, List.length_nil, Nat.zero_add]; omega) (by omega) (by decide) (Nat.le_trans hm.1 mt0) (mi 0 rfl) ?_
 intro h_13 K_14 A_15
 refine Runs.goto (t := 154) (g j65 67 rfl) (by decide) ?_
 refine Runs.aloadN (g j65 88 rfl) rfl rfl ?_
 refine Runs.iloadN (g j65 89 rfl) rfl ?_
 have O_16 := (((((B1.1.keep K_2 (ninS hat0 nin0)).keep K_5 (ninS hat0 nin0)).keep K_8 (ninS hat0 nin0)).keep K_11 (ninS hat0 nin0)).keep K_14 (ninS hat0 nin0))
 refine Runs.putF (i := 2) (ty := .int) (g j65 90 rfl) (host := "") (Or.inl (wd hw 236 rfl)) Via.refl O_16 rfl (lay_2 hw) rfl (Or.inl (wd hw 237 rfl)) (wd hw 196 rfl) (by decide) rfl rfl (Nat.le_trans hm.1 ma) (Or.inr ⟨by decide, by decide⟩) ?_
 intro h_17 K_18 (O_19 : Obj Z h_17 a S10_ [(S2_, "value", "[B", (.ref t0)), (S2_, "coder", "B", (.int 0)), (S2_, "count", "I", (.int (Int32.ofNat (xs.length + 1 + 1 + 1 + 1 + 1)))), (S2_, S21_, "Z", (.int 0))])
 refine Runs.aloadN (g j65 91 rfl) rfl rfl ?_
 have A_20 := (A_15.keep K_18 (ninS (Ne.symm hat0) nin0))
 refine Runs.weak (D1 := [t0]) (by simp) ?_
 exact Runs.retA (g j65 92 rfl) rfl rfl rfl (by first | decide | (dsimp only; first | decide | omega)) (by first | decide | (dsimp only; first | decide | omega)) ⟨rfl, t0, k0, mt0, ((((((((Keep.refl _ _).trans K0 (allS (Or.inl (mi 0 rfl)) all0)).trans K_2 (allS (Or.inr (Nat.le_trans (Nat.le_refl _) g0)) all0)).trans K_5 (allS (Or.inr (Nat.le_trans (Nat.le_refl _) g0)) all0)).trans K_8 (allS (Or.inr (Nat.le_trans (Nat.le_refl _) g0)) all0)).trans K_11 (allS (Or.inr (Nat.le_trans (Nat.le_refl _) g0)) all0)).trans K_14 (allS (Or.inr (Nat.le_trans (Nat.le_refl _) g0)) all0)).trans K_18 (allS (Or.inl (mi 0 rfl)) all0)), Or.inl ⟨by rw [List.length_append]; exact O_19, (by rw [own_map8, List.map_append, show ([102, 97, 108, 115, 101] : List Int32).map own_8 = ([102, 97, 108, 115, 101] : List Int32) from by decide]; simpa only [List.append_assoc, List.cons_append, List.nil_append] using A_20), ((((((B1.2.2.1.keep K_2).keep K_5).keep K_8).keep K_11).keep K_14).keep K_18), own_lat_app BL own_word0, by rw [List.length_append]; show xs.length + 5 ≤ _; omega, by omega⟩, rfl⟩
theorem own_az0g1 (hw : Wds Z a0) (n0 : Nat) (a t : Addr) (k : ClassId) (cap : Nat) (xs : List Int32) (h0 : Heap) (B0 : SBw Z h0 a t k cap xs) (hfit : cap < xs.length + 5 ∧ xs.length < 10000) (NS : Nat) (hNS : 2 * (cap + max (xs.length + 5 - cap) (cap + 2)) ≤ NS ∧ NS < 100000) (m0 : Nat) (hm : n0 ≤ m0 ∧ m0 ≤ h0.size) (ma : m0 ≤ a) (mt : m0 ≤ t) (cpt : Int32) (S_C : SC Z cpt) (hcpt : ¬ cpt = 0) (S_A : SA Z) (S_H : SH Z) (S_L : SL Z) (fm : Value) (hfm : fm.isRef = true) (S_F : SF Z fm) : Con 1 l Z EL_ n0 m65_ c65_ 4 (some (.object S2_)) ⟨4, 1, NS, 72⟩ #[(.ref a), (.int 0)] [t] h0 (fun v h D' => v = some (.ref a) ∧ ∃ t' k', m0 ≤ t' ∧ Keep h0 h [a, t] ∧ SBx Z h a t' k' (cap + max (xs.length + 5 - cap) (cap + 2)) (xs ++ ([102, 97, 108, 115, 101] : List Int32)) ∧ D' = [t']) := by
 refine Con.of_runs (ls := #[vr a, vi 0, .unset, .unset]) (by decide +kernel) (ef rfl rfl) ?_
 obtain ⟨BO, BA, BE, BL, hle, hcap⟩ := id B0
 have hat : a ≠ t := Exa.neArv BO.1 BA (wd hw 196 rfl)
 refine Runs.aloadN (g j65 0 rfl) rfl rfl ?_
 refine Runs.aloadN (g j65 1 rfl) rfl rfl ?_
 refine Runs.getF (g j65 2 rfl) (host := "") (Or.inl (wd hw 236 rfl)) Via.refl (BO.fld (i := 2) rfl) ?_
 refine Runs.iloadN (g j65 3 rfl) rfl ?_
 refine Runs.ifY (t := 13) (g j65 4 rfl) (by decide) (teq (by decide : (0 : Int32) = (0 : Int32))).1 ?_
 refine Runs.iconst (v := (5 : Int32)) (g j65 7 rfl) (by decide) ?_
 refine Runs.iadd (z := (Int32.ofNat (xs.length + 5))) (g j65 8 rfl) (own_add (a := xs.length) (b := 5) (by omega)) ?_
 refine Runs.callVW (argsL := [(.int (Int32.ofNat (xs.length + 5)))]) (rest := []) (W := 0) (g j65 9 rfl) (wd hw 238 rfl) (declares_of (wd hw 239 rfl) (wd hw 242 rfl)) (fun s hZ => notFace_of_selects (args := #[]) (mvT hZ (wd hw 241 rfl))) (wd hw 241 rfl) (wd hw 239 rfl) (wd hw 242 rfl) (wd hw 205 rfl) (by decide) BO.1 pd_8 rfl rfl rfl rfl (by first | decide | (dsimp only; first | decide | omega)) (by first | decide | (dsimp only; first | decide | omega)) (by first | decide | (dsimp only; first | decide | omega)) (by first | decide | (dsimp only; first | decide | omega)) all0 (by decide) (own_ecgw l Z a0 hw n0 a t k cap xs _ B0 (xs.length + 5) NS (by omega) (by omega) (Nat.le_trans hm.1 ma)) ?_
 rintro v hh0 D1 ⟨rfl, t0, k0, g0, K0, B1, rfl⟩ hsz
 show Runs _ _ _ _ _ _ _ _ _ _ _ _ [t0, t] hh0 1 (0 + NS) 18 _ []
 have mt0 : m0 ≤ t0 := Nat.le_trans hm.2 g0
 have hat0 : a ≠ t0 := Exa.neArv B1.1.1 B1.2.1 (wd hw 196 rfl)
 refine Runs.aloadN (g j65 10 rfl) rfl rfl ?_
 refine Runs.getF (g j65 11 rfl) (host := "") (Or.inl (wd hw 236 rfl)) Via.refl (B1.1.fld (i := 2) rfl) ?_
 refine Runs.istoreN (ls' := #[vr a, vi 0, vi (Int32.ofNat xs.length), .unset]) (g j65 12 rfl) rfl ?_
 refine Runs.aloadN (g j65 13 rfl) rfl rfl ?_
 refine Runs.getF (g j65 14 rfl) (host := "") (Or.inl (wd hw 209 rfl)) Via.refl (B1.1.fld (i := 0) rfl) ?_
 refine Runs.astoreN (ls' := #[vr a, vi 0, vi (Int32.ofNat xs.length), vr t0]) (g j65 15 rfl) rfl rfl ?_
 refine Runs.aloadN (g j65 16 rfl) rfl rfl ?_
 refine Runs.callVW (argsL := []) (rest := []) (W := 0) (g j65 17 rfl) (wd hw 339 rfl) (wd hw 340 rfl) (fun s hZ => notFace_of_selects (args := #[]) (mvT hZ (wd hw 342 rfl))) (wd hw 342 rfl) (wd hw 341 rfl) (wd hw 343 rfl) (wd hw 205 rfl) (by decide) B1.1.1 pd_7 rfl rfl rfl rfl (by first | decide | (dsimp only; first | decide | omega)) (by first | decide | (dsimp only; first | decide | omega)) (by first | decide | (dsimp only; first | decide | omega)) (by first | decide | (dsimp only; first | decide | omega)) all0 (by decide) (own_bil1 l Z a0 hw n0 a t0 k0 (cap + max (xs.length + 5 - cap) (cap + 2)) xs _ B1 cpt S_C hcpt) ?_
 rintro v h1 D1 ⟨rfl, rfl, rfl⟩ hsz
 show Runs _ _ _ _ _ _ _ _ _ _ _ _ [t0, t] hh0 1 (0 + NS) 32 _ [(.int 0)]
 refine Runs.ifY (t := 117) (g j65 18 rfl) (by decide) (teq (by decide : (0 : Int32) = (0 : Int32))).1 ?_
 refine Runs.iloadN (g j65 68 rfl) rfl ?_
 refine Runs.ifY (t := 138) (g j65 69 rfl) (by decide) (teq (by decide : (0 : Int32) = (0 : Int32))).1 ?_
 refine Runs.aloadN (g j65 79 rfl) rfl rfl ?_
 refine Runs.iloadN (g j65 80 rfl) rfl ?_
 refine Runs.bipush (v := (102 : Int32)) (g j65 81 rfl) (by decide) ?_
 refine Runs.bipush (v := (97 : Int32)) (g j65 82 rfl) (by decide) ?_
 refine Runs.bipush (v := (108 : Int32)) (g j65 83 rfl) (by decide) ?_
 refine Runs.bipush (v := (115 : Int32)) (g j65 84 rfl) (by decide) ?_
 refine Runs.bipush (v := (101 : Int32)) (g j65 85 rfl) (by decide) ?_
 refine Runs.callSW (argsL := [(.ref t0), (.int (Int32.ofNat xs.length)), (.int 102), (.int 97), (.int 108), (.int 115), (.int 101)]) (rest := []) (W := 0) (g j65 86 rfl) (wd hw 536 rfl) (wd hw 537 rfl) (wd hw 460 rfl) (wd hw 538 rfl) (by decide) pd_41 rfl rfl rfl rfl (by first | decide | (dsimp only; first | decide | omega)) (by first | decide | (dsimp only; first | decide | omega)) (by first | decide | (dsimp only; first | decide | omega)) (by first | decide | (dsimp only; first | decide | omega)) (allS (mi 0 rfl) all0) (by decide) (own_pca5 l Z a0 hw n0 t0 k0 (cap + max (xs.length + 5 - cap) (cap + 2)) xs _ B1.2.1 102 97 108 115 101 (by omega) (by omega) (Nat.le_trans hm.1 mt0) S_A S_H S_L fm hfm S_F) ?_
 rintro v h9 D1 ⟨rfl, K9, A9, rfl⟩ hsz
 show Runs _ _ _ _ _ _ _ _ _ _ _ _ [t0, t] h9 1 (0 + NS) 153 _ [(.int (Int32.ofNat (xs.length + 5)))]
 refine Runs.istoreN (ls' := #[vr a, vi 0, vi (Int32.ofNat (xs.length + 5)), vr t0]) (g j65 87 rfl) rfl ?_
 refine Runs.aloadN (g j65 88 rfl) rfl rfl ?_
 refine Runs.iloadN (g j65 89 rfl) rfl ?_
 have O_1 := (B1.1.keep K9 (ninS hat0 nin0))
 refine Runs.putF (i := 2) (ty := .int) (g j65 90 rfl) (host := "") (Or.inl (wd hw 236 rfl)) Via.refl O_1 rfl (lay_2 hw) rfl (Or.inl (wd hw 237 rfl)) (wd hw 196 rfl) (by decide) rfl rfl (Nat.le_trans hm.1 ma) (Or.inr ⟨by decide, by decide⟩) ?_
 intro h_2 K_3 (O_4 : Obj Z h_2 a S10_ [(S2_, "value", "[B", (.ref t0)), (S2_, "coder", "B", (.int 1)), (S2_, "count", "I", (.int (Int32.ofNat (xs.length + 5)))), (S2_, S21_, "Z", (.int 0))])
 refine Runs.aloadN (g j65 91 rfl) rfl rfl ?_
 have A_5 := (A9.keep K_3 (ninS (Ne.symm hat0) nin0))
 refine Runs.weak (D1 := [t0]) (by simp) ?_
 exact Runs.retA (g j65 92 rfl) rfl rfl rfl (by first | decide | (dsimp only; first | decide | omega)) (by first | decide | (dsimp only; first | decide | omega)) ⟨rfl, t0, k0, mt0, ((((Keep.refl _ _).trans K0 (allS (Or.inl (mi 0 rfl)) all0)).trans K9 (allS (Or.inr (Nat.le_trans (Nat.le_refl _) g0)) all0)).trans K_3 (allS (Or.inl (mi 0 rfl)) all0)), Or.inr ⟨by rw [List.length_append]; exact O_4, A_5, ((B1.2.2.1.keep K9).keep K_3), own_cha_app BL (own_word0C), by rw [List.length_append]; show xs.length + 5 ≤ _; omega, by omega⟩, rfl⟩
theorem own_az0g (hw : Wds Z a0) (n0 : Nat) (a t : Addr) (k : ClassId) (cap : Nat) (xs : List Int32) (h0 : Heap) (B0 : SBx Z h0 a t k cap xs) (hfit : cap < xs.length + 5 ∧ xs.length < 10000) (NS : Nat) (hNS : 2 * (cap + max (xs.length + 5 - cap) (cap + 2)) ≤ NS ∧ NS < 100000) (m0 : Nat) (hm : n0 ≤ m0 ∧ m0 ≤ h0.size) (ma : m0 ≤ a) (mt : m0 ≤ t) (cpt : Int32) (S_C : SC Z cpt) (hcpt : ¬ cpt = 0) (S_A : SA Z) (S_H : SH Z) (S_L : SL Z) (fm : Value) (hfm : fm.isRef = true) (S_F : SF Z fm) : Con 1 l Z EL_ n0 m65_ c65_ 4 (some (.object S2_)) ⟨4, 1, NS, 72⟩ #[(.ref a), (.int 0)] [t] h0 (fun v h D' => v = some (.ref a) ∧ ∃ t' k', m0 ≤ t' ∧ Keep h0 h [a, t] ∧ SBx Z h a t' k' (cap + max (xs.length + 5 - cap) (cap + 2)) (xs ++ ([102, 97, 108, 115, 101] : List Int32)) ∧ D' = [t']) := by
 rcases B0 with B0 | B0
 · exact own_az0g0 l Z a0 hw n0 a t k cap xs h0 B0 hfit NS hNS m0 hm ma mt cpt S_C hcpt S_A S_H S_L fm hfm S_F
 · exact own_az0g1 l Z a0 hw n0 a t k cap xs h0 B0 hfit NS hNS m0 hm ma mt cpt S_C hcpt S_A S_H S_L fm hfm S_F
theorem own_sz0g (hw : Wds Z a0) (n0 : Nat) (a t : Addr) (k : ClassId) (cap : Nat) (xs : List Int32) (h0 : Heap) (B0 : SBx Z h0 a t k cap xs) (hfit : cap < xs.length + 5 ∧ xs.length < 10000) (NS : Nat) (hNS : 2 * (cap + max (xs.length + 5 - cap) (cap + 2)) ≤ NS ∧ NS < 100000) (m0 : Nat) (hm : n0 ≤ m0 ∧ m0 ≤ h0.size) (ma : m0 ≤ a) (mt : m0 ≤ t) (cpt : Int32) (S_C : SC Z cpt) (hcpt : ¬ cpt = 0) (S_A : SA Z) (S_H : SH Z) (S_L : SL Z) (fm : Value) (hfm : fm.isRef = true) (S_F : SF Z fm) : Con 1 l Z EL_ n0 m64_ c64_ 2 (some (.object S10_)) ⟨5, 1, NS, 87⟩ #[(.ref a), (.int 0)] [t] h0 (fun v h D' => v = some (.ref a) ∧ ∃ t' k', m0 ≤ t' ∧ Keep h0 h [a, t] ∧ SBx Z h a t' k' (cap + max (xs.length + 5 - cap) (cap + 2)) (xs ++ ([102, 97, 108, 115, 101] : List Int32)) ∧ D' = [t']) := by
 refine Con.of_runs (ls := #[vr a, vi 0]) (by decide +kernel) (ef rfl rfl) ?_
 have BO : Exa Z h0 a S10_ := B0.elim (fun q => q.1.1) (fun q => q.1.1)
 refine Runs.aloadN (g j64 0 rfl) rfl rfl ?_
 refine Runs.iloadN (g j64 1 rfl) rfl ?_
 refine Runs.callUW (argsL := [(.int 0)]) (rest := []) (W := 0) (g j64 2 rfl) (wd hw 408 rfl) (same_of (wd hw 410 rfl) (nf_same (notFace_of_selects (wd hw 241 rfl)) (wd hw 239 rfl) rfl) (by decide)) (wd hw 409 rfl) (wd hw 223 rfl) (wd hw 411 rfl) (wd hw 205 rfl) (by decide) BO pd_42 rfl rfl rfl rfl (by first | decide | (dsimp only; first | decide | omega)) (by first | decide | (dsimp only; first | decide | omega)) (by first | decide | (dsimp only; first | decide | omega)) (by first | decide | (dsimp only; first | decide | omega)) (allS (mi 0 rfl) all0) (by decide) (own_az0g l Z a0 hw n0 a t k cap xs _ B0 hfit NS hNS m0 hm ma mt cpt S_C hcpt S_A S_H S_L fm hfm S_F) ?_
 rintro v h1 D1 ⟨rfl, t1, k1, g1, K1, B1, rfl⟩ hsz
 show Runs _ _ _ _ _ _ _ _ _ _ _ _ [t1, t] h1 1 (0 + NS) 5 _ [(.ref a)]
 refine Runs.pop (g j64 3 rfl) rfl ?_
 refine Runs.aloadN (g j64 4 rfl) rfl rfl ?_
 refine Runs.weak (D1 := [t1]) (by simp) ?_
 exact Runs.retA (g j64 5 rfl) rfl rfl rfl (by first | decide | (dsimp only; first | decide | omega)) (by first | decide | (dsimp only; first | decide | omega)) ⟨rfl, t1, k1, g1, K1, B1, rfl⟩
theorem own_pca4 (hw : Wds Z a0) (n0 : Nat) (t : Addr) (k : ClassId) (cap : Nat) (xs : List Int32) (h0 : Heap) (T0 : Arv Z h0 t k .byte (Int32.ofNat (2 * cap)) (own_ws xs) (.int 0)) (c0 c1 c2 c3 : Int32) (hx : xs.length + 4 ≤ cap) (hcap : cap < 1000000) (gt : n0 ≤ t) (S_A : SA Z) (S_H : SH Z) (S_L : SL Z) (fm : Value) (hfm : fm.isRef = true) (S_F : SF Z fm) : Con 1 l Z EL_ n0 (⟨S17_, "putCharsAt", "([BICCCC)I"⟩ : MethodName) c86_ 7 (some .int) ⟨3, 0, 0, 43⟩ #[(.ref t), (.int (Int32.ofNat xs.length)), (.int c0), (.int c1), (.int c2), (.int c3)] [t] h0 (fun v h D' => v = some (.int (Int32.ofNat (xs.length + 4))) ∧ Keep h0 h [t] ∧ Arv Z h t k .byte (Int32.ofNat (2 * cap)) (own_ws (xs ++ [c0, c1, c2, c3])) (.int 0) ∧ D' = []) := by
 refine Con.of_runs (ls := #[vr t, vi (Int32.ofNat xs.length), vi c0, vi c1, vi c2, vi c3, .unset]) (by decide +kernel) (ef rfl rfl) ?_
 refine Runs.iloadN (g j86 0 rfl) rfl ?_
 refine Runs.iconst (v := (4 : Int32)) (g j86 1 rfl) (by decide) ?_
 refine Runs.iadd (z := (Int32.ofNat (xs.length + 4))) (g j86 2 rfl) (own_add (a := xs.length) (b := 4) (by omega)) ?_
 refine Runs.istore (ls' := #[vr t, vi (Int32.ofNat xs.length), vi c0, vi c1, vi c2, vi c3, vi (Int32.ofNat (xs.length + 4))]) (g j86 3 rfl) rfl ?_
 refine Runs.iloadN (g j86 4 rfl) rfl ?_
 refine Runs.iload (g j86 5 rfl) rfl ?_
 refine Runs.aloadN (g j86 6 rfl) rfl rfl ?_
 refine Runs.callSW (argsL := [(.int (Int32.ofNat xs.length)), (.int (Int32.ofNat (xs.length + 4))), (.ref t)]) (rest := []) (W := 0) (g j86 7 rfl) (wd hw 515 rfl) (wd hw 516 rfl) (wd hw 460 rfl) (wd hw 517 rfl) (by decide) pd_14 rfl rfl rfl rfl (by decide) (by decide) (by decide) (by decide) all0 (by decide) (own_ube l Z a0 hw n0 xs.length (xs.length + 4) cap (by omega) hx hcap fm hfm S_F t k _ _ T0) ?_
 rintro v h1 D1 ⟨rfl, rfl, rfl⟩ hsz
 show Runs _ _ _ _ _ _ _ _ _ _ _ _ [t] h0 0 0 12 _ []
 refine Runs.aloadN (g j86 8 rfl) rfl rfl ?_
 refine Runs.iloadN (g j86 9 rfl) rfl ?_
 refine Runs.iinc (z := (Int32.ofNat (xs.length + 1))) (ls' := #[vr t, vi (Int32.ofNat (xs.length + 1)), vi c0, vi c1, vi c2, vi c3, vi (Int32.ofNat (xs.length + 4))]) (g j86 10 rfl) rfl (own_add (a := xs.length) (b := 1) (by omega)) rfl ?_
 refine Runs.iloadN (g j86 11 rfl) rfl ?_
 have Hc0 := own_upc l Z a0 hw n0 t k cap xs _ T0 c0 (by omega) hcap gt S_A S_H S_L
 refine Runs.callSW (argsL := [(.ref t), (.int (Int32.ofNat xs.length)), (.int c0)]) (rest := []) (W := 0) (g j86 12 rfl) (wd hw 462 rfl) (wd hw 463 rfl) (wd hw 460 rfl) (wd hw 464 rfl) (by decide) pd_0 rfl rfl rfl rfl (by decide) (by decide) (by decide) (by decide) (allS (mi 0 rfl) all0) (by decide) Hc0 ?_
 rintro v h_3 D1 ⟨rfl, K_1, A_2, rfl⟩ hsz
 show Runs _ _ _ _ _ _ _ _ _ _ _ _ [t] h_3 0 0 21 _ []
 refine Runs.aloadN (g j86 13 rfl) rfl rfl ?_
 refine Runs.iloadN (g j86 14 rfl) rfl ?_
 refine Runs.iinc (z := (Int32.ofNat (xs.length + 1 + 1))) (ls' := #[vr t, vi (Int32.ofNat (xs.length + 1 + 1)), vi c0, vi c1, vi c2, vi c3, vi (Int32.ofNat (xs.length + 4))]) (g j86 15 rfl) rfl (own_add (a := (xs.length + 1)) (b := 1) (by omega)) rfl ?_
 refine Runs.iloadN (g j86 16 rfl) rfl ?_
 have Hc1 := own_upc l Z a0 hw n0 t k cap (xs ++ [c0]) _ A_2 c1 (by simp only [List.length_append, List.length_cons, List.length_nil, Nat.zero_add]; omega) hcap gt S_A S_H S_L
 rw [show (xs ++ [c0]).length = xs.length + 1 from by simp only [List.length_append, List.length_cons, List.length_nil, Nat.zero_add]] at Hc1
 refine Runs.callSW (argsL := [(.ref t), (.int (Int32.ofNat (xs.length + 1))), (.int c1)]) (rest := []) (W := 0) (g j86 17 rfl) (wd hw 462 rfl) (wd hw 463 rfl) (wd hw 460 rfl) (wd hw 464 rfl) (by decide) pd_0 rfl rfl rfl rfl (by decide) (by decide) (by decide) (by decide) (allS (mi 0 rfl) all0) (by decide) Hc1 ?_
 rintro v h_6 D1 ⟨rfl, K_4, A_5, rfl⟩ hsz
 show Runs _ _ _ _ _ _ _ _ _ _ _ _ [t] h_6 0 0 30 _ []
 refine Runs.aloadN (g j86 18 rfl) rfl rfl ?_
 refine Runs.iloadN (g j86 19 rfl) rfl ?_
 refine Runs.iinc (z := (Int32.ofNat (xs.length + 1 + 1 + 1))) (ls' := #[vr t, vi (Int32.ofNat (xs.length + 1 + 1 + 1)), vi c0, vi c1, vi c2, vi c3, vi (Int32.ofNat (xs.length + 4))]) (g j86 20 rfl) rfl (own_add (a := (xs.length + 1 + 1)) (b := 1) (by omega)) rfl ?_
 refine Runs.iload (g j86 21 rfl) rfl ?_
 have Hc2 := own_upc l Z a0 hw n0 t k cap ((xs ++ [c0]) ++ [c1]) _ A_5 c2 (by simp only [List.length_append, List.length_cons, List.length_nil, Nat.zero_add]; omega) hcap gt S_A S_H S_L
 rw [show ((xs ++ [c0]) ++ [c1]).length = xs.length + 1 + 1 from by simp only [List.length_append, List.length_cons, List.length_nil, Nat.zero_add]] at Hc2
 refine Runs.callSW (argsL := [(.ref t), (.int (Int32.ofNat (xs.length + 1 + 1))), (.int c2)]) (rest := []) (W := 0) (g j86 22 rfl) (wd hw 462 rfl) (wd hw 463 rfl) (wd hw 460 rfl) (wd hw 464 rfl) (by decide) pd_0 rfl rfl rfl rfl (by decide) (by decide) (by decide) (by decide) (allS (mi 0 rfl) all0) (by decide) Hc2 ?_
 rintro v h_9 D1 ⟨rfl, K_7, A_8, rfl⟩ hsz
 show Runs _ _ _ _ _ _ _ _ _ _ _ _ [t] h_9 0 0 40 _ []
 refine Runs.aloadN (g j86 23 rfl) rfl rfl ?_
 refine Runs.iloadN (g j86 24 rfl) rfl ?_
 refine Runs.iinc (z := (Int32.ofNat (xs.length + 1 + 1 + 1 + 1))) (ls' := #[vr t, vi (Int32.ofNat (xs.length + 1 + 1 + 1 + 1)), vi c0, vi c1, vi c2, vi c3, vi (Int32.ofNat (xs.length + 4))]) (g j86 25 rfl) rfl (own_add (a := (xs.length + 1 + 1 + 1)) (b := 1) (by omega)) rfl ?_
 refine Runs.iload (g j86 26 rfl) rfl ?_
 have Hc3 := own_upc l Z a0 hw n0 t k cap (((xs ++ [c0]) ++ [c1]) ++ [c2]) _ A_8 c3 (by simp only [List.length_append, List.length_cons, List.length_nil, Nat.zero_add]; omega) hcap gt S_A S_H S_L
 rw [show (((xs ++ [c0]) ++ [c1]) ++ [c2]).length = xs.length + 1 + 1 + 1 from by simp only [List.length_append, List.length_cons, List.length_nil, Nat.zero_add]] at Hc3
 refine Runs.callSW (argsL := [(.ref t), (.int (Int32.ofNat (xs.length + 1 + 1 + 1))), (.int c3)]) (rest := []) (W := 0) (g j86 27 rfl) (wd hw 462 rfl) (wd hw 463 rfl) (wd hw 460 rfl) (wd hw 464 rfl) (by decide) pd_0 rfl rfl rfl rfl (by decide) (by decide) (by decide) (by decide) (allS (mi 0 rfl) all0) (by decide) Hc3 ?_
 rintro v h_12 D1 ⟨rfl, K_10, A_11, rfl⟩ hsz
 show Runs _ _ _ _ _ _ _ _ _ _ _ _ [t] h_12 0 0 50 _ []
 refine Runs.getS (g j86 28 rfl) (wd hw 465 rfl) Via.refl S_A ?_
 refine Runs.ifY (t := 70) (g j86 29 rfl) (by decide) (feq (by decide : ¬ ((1 : Int32) = (0 : Int32)))).2 ?_
 refine Runs.iload (g j86 30 rfl) rfl ?_
 refine Runs.weak (D1 := []) (fun _ q => nomatch q) ?_
 exact Runs.retI (z := Int32.ofNat (xs.length + 4)) (g j86 31 rfl) rfl (Or.inl rfl) rfl (by decide) (by decide) ⟨rfl, (((K_1.trans K_4 (allS (Or.inl (mi 0 rfl)) all0)).trans K_7 (allS (Or.inl (mi 0 rfl)) all0)).trans K_10 (allS (Or.inl (mi 0 rfl)) all0)), by rw [show xs ++ [c0, c1, c2, c3] = ((((xs ++ [c0]) ++ [c1]) ++ [c2]) ++ [c3]) from by simp only [List.append_assoc, List.cons_append, List.nil_append]]; exact A_11, rfl⟩
theorem own_word1 : Lat ([116, 114, 117, 101] : List Int32) := by unfold Lat; decide
theorem own_word1C : Chs ([116, 114, 117, 101] : List Int32) := own_chl own_word1
theorem own_az1f0 (hw : Wds Z a0) (n0 : Nat) (a t : Addr) (k : ClassId) (cap : Nat) (xs : List Int32) (h0 : Heap) (B0 : SBd Z h0 a t k cap xs) (hfit : xs.length + 4 ≤ cap) (m0 : Nat) (hm : n0 ≤ m0 ∧ m0 ≤ h0.size) (ma : m0 ≤ a) (mt : m0 ≤ t) (cpt : Int32) (S_C : SC Z cpt) (hcpt : ¬ cpt = 0) (S_A : SA Z) (S_H : SH Z) (S_L : SL Z) (fm : Value) (hfm : fm.isRef = true) (S_F : SF Z fm) : Con 1 l Z EL_ n0 m65_ c65_ 4 (some (.object S2_)) ⟨4, 0, 0, 61⟩ #[(.ref a), (.int 1)] [t] h0 (fun v h D' => v = some (.ref a) ∧ ∃ t' k', m0 ≤ t' ∧ Keep h0 h [a, t] ∧ SBx Z h a t' k' cap (xs ++ ([116, 114, 117, 101] : List Int32)) ∧ D' = [t']) := by
 refine Con.of_runs (ls := #[vr a, vi 1, .unset, .unset]) (by decide +kernel) (ef rfl rfl) ?_
 obtain ⟨BO, BA, BE, BL, hle, hcap⟩ := id B0
 have hat : a ≠ t := Exa.neArv BO.1 BA (wd hw 196 rfl)
 refine Runs.aloadN (g j65 0 rfl) rfl rfl ?_
 refine Runs.aloadN (g j65 1 rfl) rfl rfl ?_
 refine Runs.getF (g j65 2 rfl) (host := "") (Or.inl (wd hw 236 rfl)) Via.refl (BO.fld (i := 2) rfl) ?_
 refine Runs.iloadN (g j65 3 rfl) rfl ?_
 refine Runs.ifN (g j65 4 rfl) (feq (by decide : ¬ ((1 : Int32) = (0 : Int32)))).1 ?_
 refine Runs.iconst (v := (4 : Int32)) (g j65 5 rfl) (by decide) ?_
 refine Runs.goto (t := 14) (g j65 6 rfl) (by decide) ?_
 refine Runs.iadd (z := (Int32.ofNat (xs.length + 4))) (g j65 8 rfl) (own_add (a := xs.length) (b := 4) (by omega)) ?_
 refine Runs.callVW (argsL := [(.int (Int32.ofNat (xs.length + 4)))]) (rest := []) (W := 0) (g j65 9 rfl) (wd hw 238 rfl) (declares_of (wd hw 239 rfl) (wd hw 242 rfl)) (fun s hZ => notFace_of_selects (args := #[]) (mvT hZ (wd hw 241 rfl))) (wd hw 241 rfl) (wd hw 239 rfl) (wd hw 242 rfl) (wd hw 205 rfl) (by decide) BO.1 pd_8 rfl rfl rfl rfl (by decide) (by decide) (by decide) (by decide) all0 (by decide) (own_ecf l Z a0 hw n0 a t k cap xs _ B0 (xs.length + 4) (by omega)) ?_
 rintro v h1 D1 ⟨rfl, rfl, rfl⟩ hsz
 show Runs _ _ _ _ _ _ _ _ _ _ _ _ [t] h0 0 0 18 _ []
 have A8 : Arv Z h0 t k .byte (Int32.ofNat cap) ((xs.map own_8).map Value.int) (.int 0) := by rw [← own_map8]; exact BA
 refine Runs.aloadN (g j65 10 rfl) rfl rfl ?_
 refine Runs.getF (g j65 11 rfl) (host := "") (Or.inl (wd hw 236 rfl)) Via.refl (BO.fld (i := 2) rfl) ?_
 refine Runs.istoreN (ls' := #[vr a, vi 1, vi (Int32.ofNat xs.length), .unset]) (g j65 12 rfl) rfl ?_
 refine Runs.aloadN (g j65 13 rfl) rfl rfl ?_
 refine Runs.getF (g j65 14 rfl) (host := "") (Or.inl (wd hw 209 rfl)) Via.refl (BO.fld (i := 0) rfl) ?_
 refine Runs.astoreN (ls' := #[vr a, vi 1, vi (Int32.ofNat xs.length), vr t]) (g j65 15 rfl) rfl rfl ?_
 refine Runs.aloadN (g j65 16 rfl) rfl rfl ?_
 refine Runs.callVW (argsL := []) (rest := []) (W := 0) (g j65 17 rfl) (wd hw 339 rfl) (wd hw 340 rfl) (fun s hZ => notFace_of_selects (args := #[]) (mvT hZ (wd hw 342 rfl))) (wd hw 342 rfl) (wd hw 341 rfl) (wd hw 343 rfl) (wd hw 205 rfl) (by decide) B0.1.1 pd_7 rfl rfl rfl rfl (by decide) (by decide) (by decide) (by decide) all0 (by decide) (own_bil l Z a0 hw n0 a t k cap xs _ B0 cpt S_C hcpt) ?_
 rintro v h1 D1 ⟨rfl, rfl, rfl⟩ hsz
 show Runs _ _ _ _ _ _ _ _ _ _ _ _ [t] h0 0 0 32 _ [(.int 1)]
 refine Runs.ifN (g j65 18 rfl) (feq (by decide : ¬ ((1 : Int32) = (0 : Int32)))).1 ?_
 refine Runs.iloadN (g j65 19 rfl) rfl ?_
 refine Runs.ifN (g j65 20 rfl) (feq (by decide : ¬ ((1 : Int32) = (0 : Int32)))).1 ?_
 refine Runs.aloadN (g j65 21 rfl) rfl rfl ?_
 refine Runs.iloadN (g j65 22 rfl) rfl ?_
 refine Runs.iinc (z := (Int32.ofNat (xs.length + 1))) (ls' := #[vr a, vi 1, vi (Int32.ofNat (xs.length + 1)), vr t]) (g j65 23 rfl) rfl (own_add (a := xs.length) (b := 1) (by omega)) rfl ?_
 refine Runs.bipush (v := (116 : Int32)) (g j65 24 rfl) (by decide) ?_
 refine own_bapp (y := (116 : Int32)) (L := (xs.map own_8)) (c := cap) (j := xs.length) (g j65 25 rfl) A8 (by simp only [List.length_map, List.length_append, List.length_cons, List.length_nil, Nat.zero_add]; first | done | omega) (by simp only [List.length_map, List.length_append, List.length_cons, List.length_nil, Nat.zero_add]; omega) (by omega) (by decide) (Nat.le_trans hm.1 mt) (mi 0 rfl) ?_
 intro h_1 K_2 A_3
 refine Runs.aloadN (g j65 26 rfl) rfl rfl ?_
 refine Runs.iloadN (g j65 27 rfl) rfl ?_
 refine Runs.iinc (z := (Int32.ofNat (xs.length + 1 + 1))) (ls' := #[vr a, vi 1, vi (Int32.ofNat (xs.length + 1 + 1)), vr t]) (g j65 28 rfl) rfl (own_add (a := (xs.length + 1)) (b := 1) (by omega)) rfl ?_
 refine Runs.bipush (v := (114 : Int32)) (g j65 29 rfl) (by decide) ?_
 refine own_bapp (y := (114 : Int32)) (L := ((xs.map own_8) ++ [(116 : Int32)])) (c := cap) (j := (xs.length + 1)) (g j65 30 rfl) A_3 (by simp only [List.length_map, List.length_append, List.length_cons, List.length_nil, Nat.zero_add]; first | done | omega) (by simp only [List.length_map, List.length_append, List.length_cons, List.length_nil, Nat.zero_add]; omega) (by omega) (by decide) (Nat.le_trans hm.1 mt) (mi 0 rfl) ?_
 intro h_4 K_5 A_6
 refine Runs.aloadN (g j65 31 rfl) rfl rfl ?_
 refine Runs.iloadN (g j65 32 rfl) rfl ?_
 refine Runs.iinc (z := (Int32.ofNat (xs.length + 1 + 1 + 1))) (ls' := #[vr a, vi 1, vi (Int32.ofNat (xs.length + 1 + 1 + 1)), vr t]) (g j65 33 rfl) rfl (own_add (a := (xs.length + 1 + 1)) (b := 1) (by omega)) rfl ?_
 refine Runs.bipush (v := (117 : Int32)) (g j65 34 rfl) (by decide) ?_
 refine own_bapp (y := (117 : Int32)) (L := (((xs.map own_8) ++ [(116 : Int32)]) ++ [(114 : Int32)])) (c := cap) (j := (xs.length + 1 + 1)) (g j65 35 rfl) A_6 (by simp only [List.length_map, List.length_append, List.length_cons, List.length_nil, Nat.zero_add]; first | done | omega) (by simp only [List.length_map, List.length_append, List.length_cons, List.length_nil, Nat.zero_add]; omega) (by omega) (by decide) (Nat.le_trans hm.1 mt) (mi 0 rfl) ?_
 intro h_7 K_8 A_9
 refine Runs.aloadN (g j65 36 rfl) rfl rfl ?_
 refine Runs.iloadN (g j65 37 rfl) rfl ?_
 refine Runs.iinc (z := (Int32.ofNat (xs.length + 1 + 1 + 1 + 1))) (ls' := #[vr a, vi 1, vi (Int32.ofNat (xs.length + 1 + 1 + 1 + 1)), vr t]) (g j65 38 rfl) rfl (own_add (a := (xs.length + 1 + 1 + 1)) (b := 1) (by omega)) rfl ?_
 refine Runs.bipush (v := (101 : Int32)) (g j65 39 rfl) (by decide) ?_
 refine own_bapp (y := (101 : Int32)) (L := ((((xs.map own_8) ++ [(116 : Int32)]) ++ [(114 : Int32)]) ++ [(117 : Int32)])) (c := cap) (j := (xs.length + 1 + 1 + 1)) (g j65 40 rfl) A_9 (by simp only [List.length_map, List.length_append, List.length_cons, List.length_nil, Nat.zero_add]; first | done | omega) (by simp only [List.length_map, List.length_append, List.length_cons, List.length_nil, Nat.zero_add]; omega) (by omega) (by decide) (Nat.le_trans hm.1 mt) (mi 0 rfl) ?_
 intro h_10 K_11 A_12
 refine Runs.goto (t := 154) (g j65 41 rfl) (by decide) ?_
 refine Runs.aloadN (g j65 88 rfl) rfl rfl ?_
 refine Runs.iloadN (g j65 89 rfl) rfl ?_
 have O_13 := ((((BO.keep K_2 (ninS hat nin0)).keep K_5 (ninS hat nin0)).keep K_8 (ninS hat nin0)).keep K_11 (ninS hat nin0))
 refine Runs.putF (i := 2) (ty := .int) (g j65 90 rfl) (host := "") (Or.inl (wd hw 236 rfl)) Via.refl O_13 rfl (lay_2 hw) rfl (Or.inl (wd hw 237 rfl)) (wd hw 196 rfl) (by decide) rfl rfl (Nat.le_trans hm.1 ma) (Or.inr ⟨by decide, by decide⟩) ?_
 intro h_14 K_15 (O_16 : Obj Z h_14 a S10_ [(S2_, "value", "[B", (.ref t)), (S2_, "coder", "B", (.int 0)), (S2_, "count", "I", (.int (Int32.ofNat (xs.length + 1 + 1 + 1 + 1)))), (S2_, S21_, "Z", (.int 0))])
 refine Runs.aloadN (g j65 91 rfl) rfl rfl ?_
 have A_17 := (A_12.keep K_15 (ninS (Ne.symm hat) nin0))
 exact Runs.retA (g j65 92 rfl) rfl rfl rfl (by first | decide | (dsimp only; first | decide | omega)) (by first | decide | (dsimp only; first | decide | omega)) ⟨rfl, t, k, mt, ((((((Keep.refl _ _).trans K_2 (allS (Or.inl (mi 1 rfl)) all0)).trans K_5 (allS (Or.inl (mi 1 rfl)) all0)).trans K_8 (allS (Or.inl (mi 1 rfl)) all0)).trans K_11 (allS (Or.inl (mi 1 rfl)) all0)).trans K_15 (allS (Or.inl (mi 0 rfl)) all0)), Or.inl ⟨by rw [List.length_append]; exact O_16, (by rw [own_map8, List.map_append, show ([116, 114, 117, 101] : List Int32).map own_8 = ([116, 114, 117, 101] : List Int32) from by decide]; simpa only [List.append_assoc, List.cons_append, List.nil_append] using A_17), (((((BE.keep K_2).keep K_5).keep K_8).keep K_11).keep K_15), own_lat_app BL own_word1, by rw [List.length_append]; show xs.length + 4 ≤ _; omega, by omega⟩, rfl⟩
theorem own_az1f1 (hw : Wds Z a0) (n0 : Nat) (a t : Addr) (k : ClassId) (cap : Nat) (xs : List Int32) (h0 : Heap) (B0 : SBw Z h0 a t k cap xs) (hfit : xs.length + 4 ≤ cap) (m0 : Nat) (hm : n0 ≤ m0 ∧ m0 ≤ h0.size) (ma : m0 ≤ a) (mt : m0 ≤ t) (cpt : Int32) (S_C : SC Z cpt) (hcpt : ¬ cpt = 0) (S_A : SA Z) (S_H : SH Z) (S_L : SL Z) (fm : Value) (hfm : fm.isRef = true) (S_F : SF Z fm) : Con 1 l Z EL_ n0 m65_ c65_ 4 (some (.object S2_)) ⟨4, 0, 0, 61⟩ #[(.ref a), (.int 1)] [t] h0 (fun v h D' => v = some (.ref a) ∧ ∃ t' k', m0 ≤ t' ∧ Keep h0 h [a, t] ∧ SBx Z h a t' k' cap (xs ++ ([116, 114, 117, 101] : List Int32)) ∧ D' = [t']) := by
 refine Con.of_runs (ls := #[vr a, vi 1, .unset, .unset]) (by decide +kernel) (ef rfl rfl) ?_
 obtain ⟨BO, BA, BE, BL, hle, hcap⟩ := id B0
 have hat : a ≠ t := Exa.neArv BO.1 BA (wd hw 196 rfl)
 refine Runs.aloadN (g j65 0 rfl) rfl rfl ?_
 refine Runs.aloadN (g j65 1 rfl) rfl rfl ?_
 refine Runs.getF (g j65 2 rfl) (host := "") (Or.inl (wd hw 236 rfl)) Via.refl (BO.fld (i := 2) rfl) ?_
 refine Runs.iloadN (g j65 3 rfl) rfl ?_
 refine Runs.ifN (g j65 4 rfl) (feq (by decide : ¬ ((1 : Int32) = (0 : Int32)))).1 ?_
 refine Runs.iconst (v := (4 : Int32)) (g j65 5 rfl) (by decide) ?_
 refine Runs.goto (t := 14) (g j65 6 rfl) (by decide) ?_
 refine Runs.iadd (z := (Int32.ofNat (xs.length + 4))) (g j65 8 rfl) (own_add (a := xs.length) (b := 4) (by omega)) ?_
 refine Runs.callVW (argsL := [(.int (Int32.ofNat (xs.length + 4)))]) (rest := []) (W := 0) (g j65 9 rfl) (wd hw 238 rfl) (declares_of (wd hw 239 rfl) (wd hw 242 rfl)) (fun s hZ => notFace_of_selects (args := #[]) (mvT hZ (wd hw 241 rfl))) (wd hw 241 rfl) (wd hw 239 rfl) (wd hw 242 rfl) (wd hw 205 rfl) (by decide) BO.1 pd_8 rfl rfl rfl rfl (by decide) (by decide) (by decide) (by decide) all0 (by decide) (own_ecfw l Z a0 hw n0 a t k cap xs _ B0 (xs.length + 4) (by omega)) ?_
 rintro v h1 D1 ⟨rfl, rfl, rfl⟩ hsz
 show Runs _ _ _ _ _ _ _ _ _ _ _ _ [t] h0 0 0 18 _ []
 refine Runs.aloadN (g j65 10 rfl) rfl rfl ?_
 refine Runs.getF (g j65 11 rfl) (host := "") (Or.inl (wd hw 236 rfl)) Via.refl (BO.fld (i := 2) rfl) ?_
 refine Runs.istoreN (ls' := #[vr a, vi 1, vi (Int32.ofNat xs.length), .unset]) (g j65 12 rfl) rfl ?_
 refine Runs.aloadN (g j65 13 rfl) rfl rfl ?_
 refine Runs.getF (g j65 14 rfl) (host := "") (Or.inl (wd hw 209 rfl)) Via.refl (BO.fld (i := 0) rfl) ?_
 refine Runs.astoreN (ls' := #[vr a, vi 1, vi (Int32.ofNat xs.length), vr t]) (g j65 15 rfl) rfl rfl ?_
 refine Runs.aloadN (g j65 16 rfl) rfl rfl ?_
 refine Runs.callVW (argsL := []) (rest := []) (W := 0) (g j65 17 rfl) (wd hw 339 rfl) (wd hw 340 rfl) (fun s hZ => notFace_of_selects (args := #[]) (mvT hZ (wd hw 342 rfl))) (wd hw 342 rfl) (wd hw 341 rfl) (wd hw 343 rfl) (wd hw 205 rfl) (by decide) B0.1.1 pd_7 rfl rfl rfl rfl (by decide) (by decide) (by decide) (by decide) all0 (by decide) (own_bil1 l Z a0 hw n0 a t k cap xs _ B0 cpt S_C hcpt) ?_
 rintro v h1 D1 ⟨rfl, rfl, rfl⟩ hsz
 show Runs _ _ _ _ _ _ _ _ _ _ _ _ [t] h0 0 0 32 _ [(.int 0)]
 refine Runs.ifY (t := 117) (g j65 18 rfl) (by decide) (teq (by decide : (0 : Int32) = (0 : Int32))).1 ?_
 refine Runs.iloadN (g j65 68 rfl) rfl ?_
 refine Runs.ifN (g j65 69 rfl) (feq (by decide : ¬ ((1 : Int32) = (0 : Int32)))).1 ?_
 refine Runs.aloadN (g j65 70 rfl) rfl rfl ?_
 refine Runs.iloadN (g j65 71 rfl) rfl ?_
 refine Runs.bipush (v := (116 : Int32)) (g j65 72 rfl) (by decide) ?_
 refine Runs.bipush (v := (114 : Int32)) (g j65 73 rfl) (by decide) ?_
 refine Runs.bipush (v := (117 : Int32)) (g j65 74 rfl) (by decide) ?_
 refine Runs.bipush (v := (101 : Int32)) (g j65 75 rfl) (by decide) ?_
 refine Runs.callSW (argsL := [(.ref t), (.int (Int32.ofNat xs.length)), (.int 116), (.int 114), (.int 117), (.int 101)]) (rest := []) (W := 0) (g j65 76 rfl) (wd hw 512 rfl) (wd hw 513 rfl) (wd hw 460 rfl) (wd hw 514 rfl) (by decide) pd_43 rfl rfl rfl rfl (by decide) (by decide) (by decide) (by decide) (allS (mi 0 rfl) all0) (by decide) (own_pca4 l Z a0 hw n0 t k cap xs _ BA 116 114 117 101 (by omega) (by omega) (Nat.le_trans hm.1 mt) S_A S_H S_L fm hfm S_F) ?_
 rintro v h9 D1 ⟨rfl, K9, A9, rfl⟩ hsz
 show Runs _ _ _ _ _ _ _ _ _ _ _ _ [t] h9 0 0 134 _ [(.int (Int32.ofNat (xs.length + 4)))]
 refine Runs.istoreN (ls' := #[vr a, vi 1, vi (Int32.ofNat (xs.length + 4)), vr t]) (g j65 77 rfl) rfl ?_
 refine Runs.goto (t := 154) (g j65 78 rfl) (by decide) ?_
 refine Runs.aloadN (g j65 88 rfl) rfl rfl ?_
 refine Runs.iloadN (g j65 89 rfl) rfl ?_
 have O_1 := (BO.keep K9 (ninS hat nin0))
 refine Runs.putF (i := 2) (ty := .int) (g j65 90 rfl) (host := "") (Or.inl (wd hw 236 rfl)) Via.refl O_1 rfl (lay_2 hw) rfl (Or.inl (wd hw 237 rfl)) (wd hw 196 rfl) (by decide) rfl rfl (Nat.le_trans hm.1 ma) (Or.inr ⟨by decide, by decide⟩) ?_
 intro h_2 K_3 (O_4 : Obj Z h_2 a S10_ [(S2_, "value", "[B", (.ref t)), (S2_, "coder", "B", (.int 1)), (S2_, "count", "I", (.int (Int32.ofNat (xs.length + 4)))), (S2_, S21_, "Z", (.int 0))])
 refine Runs.aloadN (g j65 91 rfl) rfl rfl ?_
 have A_5 := (A9.keep K_3 (ninS (Ne.symm hat) nin0))
 exact Runs.retA (g j65 92 rfl) rfl rfl rfl (by first | decide | (dsimp only; first | decide | omega)) (by first | decide | (dsimp only; first | decide | omega)) ⟨rfl, t, k, mt, (((Keep.refl _ _).trans K9 (allS (Or.inl (mi 1 rfl)) all0)).trans K_3 (allS (Or.inl (mi 0 rfl)) all0)), Or.inr ⟨by rw [List.length_append]; exact O_4, A_5, ((BE.keep K9).keep K_3), own_cha_app BL (own_word1C), by rw [List.length_append]; show xs.length + 4 ≤ _; omega, by omega⟩, rfl⟩
theorem own_az1f (hw : Wds Z a0) (n0 : Nat) (a t : Addr) (k : ClassId) (cap : Nat) (xs : List Int32) (h0 : Heap) (B0 : SBx Z h0 a t k cap xs) (hfit : xs.length + 4 ≤ cap) (m0 : Nat) (hm : n0 ≤ m0 ∧ m0 ≤ h0.size) (ma : m0 ≤ a) (mt : m0 ≤ t) (cpt : Int32) (S_C : SC Z cpt) (hcpt : ¬ cpt = 0) (S_A : SA Z) (S_H : SH Z) (S_L : SL Z) (fm : Value) (hfm : fm.isRef = true) (S_F : SF Z fm) : Con 1 l Z EL_ n0 m65_ c65_ 4 (some (.object S2_)) ⟨4, 0, 0, 61⟩ #[(.ref a), (.int 1)] [t] h0 (fun v h D' => v = some (.ref a) ∧ ∃ t' k', m0 ≤ t' ∧ Keep h0 h [a, t] ∧ SBx Z h a t' k' cap (xs ++ ([116, 114, 117, 101] : List Int32)) ∧ D' = [t']) := by
 rcases B0 with B0 | B0
 · exact own_az1f0 l Z a0 hw n0 a t k cap xs h0 B0 hfit m0 hm ma mt cpt S_C hcpt S_A S_H S_L fm hfm S_F
 · exact own_az1f1 l Z a0 hw n0 a t k cap xs h0 B0 hfit m0 hm ma mt cpt S_C hcpt S_A S_H S_L fm hfm S_F
theorem own_sz1f (hw : Wds Z a0) (n0 : Nat) (a t : Addr) (k : ClassId) (cap : Nat) (xs : List Int32) (h0 : Heap) (B0 : SBx Z h0 a t k cap xs) (hfit : xs.length + 4 ≤ cap) (m0 : Nat) (hm : n0 ≤ m0 ∧ m0 ≤ h0.size) (ma : m0 ≤ a) (mt : m0 ≤ t) (cpt : Int32) (S_C : SC Z cpt) (hcpt : ¬ cpt = 0) (S_A : SA Z) (S_H : SH Z) (S_L : SL Z) (fm : Value) (hfm : fm.isRef = true) (S_F : SF Z fm) : Con 1 l Z EL_ n0 m64_ c64_ 2 (some (.object S10_)) ⟨5, 0, 0, 76⟩ #[(.ref a), (.int 1)] [t] h0 (fun v h D' => v = some (.ref a) ∧ ∃ t' k', m0 ≤ t' ∧ Keep h0 h [a, t] ∧ SBx Z h a t' k' cap (xs ++ ([116, 114, 117, 101] : List Int32)) ∧ D' = [t']) := by
 refine Con.of_runs (ls := #[vr a, vi 1]) (by decide +kernel) (ef rfl rfl) ?_
 have BO : Exa Z h0 a S10_ := B0.elim (fun q => q.1.1) (fun q => q.1.1)
 refine Runs.aloadN (g j64 0 rfl) rfl rfl ?_
 refine Runs.iloadN (g j64 1 rfl) rfl ?_
 refine Runs.callUW (argsL := [(.int 1)]) (rest := []) (W := 0) (g j64 2 rfl) (wd hw 408 rfl) (same_of (wd hw 410 rfl) (nf_same (notFace_of_selects (wd hw 241 rfl)) (wd hw 239 rfl) rfl) (by decide)) (wd hw 409 rfl) (wd hw 223 rfl) (wd hw 411 rfl) (wd hw 205 rfl) (by decide) BO pd_42 rfl rfl rfl rfl (by first | decide | (dsimp only; first | decide | omega)) (by first | decide | (dsimp only; first | decide | omega)) (by first | decide | (dsimp only; first | decide | omega)) (by first | decide | (dsimp only; first | decide | omega)) (allS (mi 0 rfl) all0) (by decide) (own_az1f l Z a0 hw n0 a t k cap xs _ B0 hfit m0 hm ma mt cpt S_C hcpt S_A S_H S_L fm hfm S_F) ?_
 rintro v h1 D1 ⟨rfl, t1, k1, g1, K1, B1, rfl⟩ hsz
 show Runs _ _ _ _ _ _ _ _ _ _ _ _ [t1, t] h1 0 0 5 _ [(.ref a)]
 refine Runs.pop (g j64 3 rfl) rfl ?_
 refine Runs.aloadN (g j64 4 rfl) rfl rfl ?_
 refine Runs.weak (D1 := [t1]) (by simp) ?_
 exact Runs.retA (g j64 5 rfl) rfl rfl rfl (by first | decide | (dsimp only; first | decide | omega)) (by first | decide | (dsimp only; first | decide | omega)) ⟨rfl, t1, k1, g1, K1, B1, rfl⟩
theorem own_az1g0 (hw : Wds Z a0) (n0 : Nat) (a t : Addr) (k : ClassId) (cap : Nat) (xs : List Int32) (h0 : Heap) (B0 : SBd Z h0 a t k cap xs) (hfit : cap < xs.length + 4 ∧ xs.length < 10000) (NS : Nat) (hNS : 2 * (cap + max (xs.length + 4 - cap) (cap + 2)) ≤ NS ∧ NS < 100000) (m0 : Nat) (hm : n0 ≤ m0 ∧ m0 ≤ h0.size) (ma : m0 ≤ a) (mt : m0 ≤ t) (cpt : Int32) (S_C : SC Z cpt) (hcpt : ¬ cpt = 0) (S_A : SA Z) (S_H : SH Z) (S_L : SL Z) (fm : Value) (hfm : fm.isRef = true) (S_F : SF Z fm) : Con 1 l Z EL_ n0 m65_ c65_ 4 (some (.object S2_)) ⟨4, 1, NS, 72⟩ #[(.ref a), (.int 1)] [t] h0 (fun v h D' => v = some (.ref a) ∧ ∃ t' k', m0 ≤ t' ∧ Keep h0 h [a, t] ∧ SBx Z h a t' k' (cap + max (xs.length + 4 - cap) (cap + 2)) (xs ++ ([116, 114, 117, 101] : List Int32)) ∧ D' = [t']) := by
 refine Con.of_runs (ls := #[vr a, vi 1, .unset, .unset]) (by decide +kernel) (ef rfl rfl) ?_
 obtain ⟨BO, BA, BE, BL, hle, hcap⟩ := id B0
 have hat : a ≠ t := Exa.neArv BO.1 BA (wd hw 196 rfl)
 refine Runs.aloadN (g j65 0 rfl) rfl rfl ?_
 refine Runs.aloadN (g j65 1 rfl) rfl rfl ?_
 refine Runs.getF (g j65 2 rfl) (host := "") (Or.inl (wd hw 236 rfl)) Via.refl (BO.fld (i := 2) rfl) ?_
 refine Runs.iloadN (g j65 3 rfl) rfl ?_
 refine Runs.ifN (g j65 4 rfl) (feq (by decide : ¬ ((1 : Int32) = (0 : Int32)))).1 ?_
 refine Runs.iconst (v := (4 : Int32)) (g j65 5 rfl) (by decide) ?_
 refine Runs.goto (t := 14) (g j65 6 rfl) (by decide) ?_
 refine Runs.iadd (z := (Int32.ofNat (xs.length + 4))) (g j65 8 rfl) (own_add (a := xs.length) (b := 4) (by omega)) ?_
 refine Runs.callVW (argsL := [(.int (Int32.ofNat (xs.length + 4)))]) (rest := []) (W := 0) (g j65 9 rfl) (wd hw 238 rfl) (declares_of (wd hw 239 rfl) (wd hw 242 rfl)) (fun s hZ => notFace_of_selects (args := #[]) (mvT hZ (wd hw 241 rfl))) (wd hw 241 rfl) (wd hw 239 rfl) (wd hw 242 rfl) (wd hw 205 rfl) (by decide) BO.1 pd_8 rfl rfl rfl rfl (by first | decide | (dsimp only; first | decide | omega)) (by first | decide | (dsimp only; first | decide | omega)) (by first | decide | (dsimp only; first | decide | omega)) (by first | decide | (dsimp only; first | decide | omega)) all0 (by decide) (own_ecg l Z a0 hw n0 a t k cap xs _ B0 (xs.length + 4) NS (by omega) (by omega) (Nat.le_trans hm.1 ma)) ?_
 rintro v hh0 D1 ⟨rfl, t0, k0, g0, K0, B1, rfl⟩ hsz
 show Runs _ _ _ _ _ _ _ _ _ _ _ _ [t0, t] hh0 1 (0 + NS) 18 _ []
 have mt0 : m0 ≤ t0 := Nat.le_trans hm.2 g0
 have hat0 : a ≠ t0 := Exa.neArv B1.1.1 B1.2.1 (wd hw 196 rfl)
 have A8 : Arv Z hh0 t0 k0 .byte (Int32.ofNat (cap + max (xs.length + 4 - cap) (cap + 2))) ((xs.map own_8).map Value.int) (.int 0) := by rw [← own_map8]; exact B1.2.1
 refine Runs.aloadN (g j65 10 rfl) rfl rfl ?_
 refine Runs.getF (g j65 11 rfl) (host := "") (Or.inl (wd hw 236 rfl)) Via.refl (B1.1.fld (i := 2) rfl) ?_
 refine Runs.istoreN (ls' := #[vr a, vi 1, vi (Int32.ofNat xs.length), .unset]) (g j65 12 rfl) rfl ?_
 refine Runs.aloadN (g j65 13 rfl) rfl rfl ?_
 refine Runs.getF (g j65 14 rfl) (host := "") (Or.inl (wd hw 209 rfl)) Via.refl (B1.1.fld (i := 0) rfl) ?_
 refine Runs.astoreN (ls' := #[vr a, vi 1, vi (Int32.ofNat xs.length), vr t0]) (g j65 15 rfl) rfl rfl ?_
 refine Runs.aloadN (g j65 16 rfl) rfl rfl ?_
 refine Runs.callVW (argsL := []) (rest := []) (W := 0) (g j65 17 rfl) (wd hw 339 rfl) (wd hw 340 rfl) (fun s hZ => notFace_of_selects (args := #[]) (mvT hZ (wd hw 342 rfl))) (wd hw 342 rfl) (wd hw 341 rfl) (wd hw 343 rfl) (wd hw 205 rfl) (by decide) B1.1.1 pd_7 rfl rfl rfl rfl (by first | decide | (dsimp only; first | decide | omega)) (by first | decide | (dsimp only; first | decide | omega)) (by first | decide | (dsimp only; first | decide | omega)) (by first | decide | (dsimp only; first | decide | omega)) all0 (by decide) (own_bil l Z a0 hw n0 a t0 k0 (cap + max (xs.length + 4 - cap) (cap + 2)) xs _ B1 cpt S_C hcpt) ?_
 rintro v h1 D1 ⟨rfl, rfl, rfl⟩ hsz
 show Runs _ _ _ _ _ _ _ _ _ _ _ _ [t0, t] hh0 1 (0 + NS) 32 _ [(.int 1)]
 refine Runs.ifN (g j65 18 rfl) (feq (by decide : ¬ ((1 : Int32) = (0 : Int32)))).1 ?_
 refine Runs.iloadN (g j65 19 rfl) rfl ?_
 refine Runs.ifN (g j65 20 rfl) (feq (by decide : ¬ ((1 : Int32) = (0 : Int32)))).1 ?_
 refine Runs.aloadN (g j65 21 rfl) rfl rfl ?_
 refine Runs.iloadN (g j65 22 rfl) rfl ?_
 refine Runs.iinc (z := (Int32.ofNat (xs.length + 1))) (ls' := #[vr a, vi 1, vi (Int32.ofNat (xs.length + 1)), vr t0]) (g j65 23 rfl) rfl (own_add (a := xs.length) (b := 1) (by omega)) rfl ?_
 refine Runs.bipush (v := (116 : Int32)) (g j65 24 rfl) (by decide) ?_
 refine own_bapp (y := (116 : Int32)) (L := (xs.map own_8)) (c := (cap + max (xs.length + 4 - cap) (cap + 2))) (j := xs.length) (g j65 25 rfl) A8 (by simp only [List.length_map, List.length_append, List.length_cons, List.length_nil, Nat.zero_add]; first | done | omega) (by simp only [List.length_map, List.length_append, List.length_cons, List.length_nil, Nat.zero_add]; omega) (by omega) (by decide) (Nat.le_trans hm.1 mt0) (mi 0 rfl) ?_
 intro h_1 K_2 A_3
 refine Runs.aloadN (g j65 26 rfl) rfl rfl ?_
 refine Runs.iloadN (g j65 27 rfl) rfl ?_
 refine Runs.iinc (z := (Int32.ofNat (xs.length + 1 + 1))) (ls' := #[vr a, vi 1, vi (Int32.ofNat (xs.length + 1 + 1)), vr t0]) (g j65 28 rfl) rfl (own_add (a := (xs.length + 1)) (b := 1) (by omega)) rfl ?_
 refine Runs.bipush (v := (114 : Int32)) (g j65 29 rfl) (by decide) ?_
 refine own_bapp (y := (114 : Int32)) (L := ((xs.map own_8) ++ [(116 : Int32)])) (c := (cap + max (xs.length + 4 - cap) (cap + 2))) (j := (xs.length + 1)) (g j65 30 rfl) A_3 (by simp only [List.length_map, List.length_append, List.length_cons, List.length_nil, Nat.zero_add]; first | done | omega) (by simp only [List.length_map, List.length_append, List.length_cons, List.length_nil, Nat.zero_add]; omega) (by omega) (by decide) (Nat.le_trans hm.1 mt0) (mi 0 rfl) ?_
 intro h_4 K_5 A_6
 refine Runs.aloadN (g j65 31 rfl) rfl rfl ?_
 refine Runs.iloadN (g j65 32 rfl) rfl ?_
 refine Runs.iinc (z := (Int32.ofNat (xs.length + 1 + 1 + 1))) (ls' := #[vr a, vi 1, vi (Int32.ofNat (xs.length + 1 + 1 + 1)), vr t0]) (g j65 33 rfl) rfl (own_add (a := (xs.length + 1 + 1)) (b := 1) (by omega)) rfl ?_
 refine Runs.bipush (v := (117 : Int32)) (g j65 34 rfl) (by decide) ?_
 refine own_bapp (y := (117 : Int32)) (L := (((xs.map own_8) ++ [(116 : Int32)]) ++ [(114 : Int32)])) (c := (cap + max (xs.length + 4 - cap) (cap + 2))) (j := (xs.length + 1 + 1)) (g j65 35 rfl) A_6 (by simp only [List.length_map, List.length_append, List.length_cons, List.length_nil, Nat.zero_add]; first | done | omega) (by simp only [List.length_map, List.length_append, List.length_cons, List.length_nil, Nat.zero_add]; omega) (by omega) (by decide) (Nat.le_trans hm.1 mt0) (mi 0 rfl) ?_
 intro h_7 K_8 A_9
 refine Runs.aloadN (g j65 36 rfl) rfl rfl ?_
 refine Runs.iloadN (g j65 37 rfl) rfl ?_
 refine Runs.iinc (z := (Int32.ofNat (xs.length + 1 + 1 + 1 + 1))) (ls' := #[vr a, vi 1, vi (Int32.ofNat (xs.length + 1 + 1 + 1 + 1)), vr t0]) (g j65 38 rfl) rfl (own_add (a := (xs.length + 1 + 1 + 1)) (b := 1) (by omega)) rfl ?_
 refine Runs.bipush (v := (101 : Int32)) (g j65 39 rfl) (by decide) ?_
 refine own_bapp (y := (101 : Int32)) (L := ((((xs.map own_8) ++ [(116 : Int32)]) ++ [(114 : Int32)]) ++ [(117 : Int32)])) (c := (cap + max (xs.length + 4 - cap) (cap + 2))) (j := (xs.length + 1 + 1 + 1)) (g j65 40 rfl) A_9 (by simp only [List.length_map, List.length_append, List.length_cons, List.length_nil, Nat.zero_add]; first | done | omega) (by simp only [List.length_map, List.length_append, List.length_cons, List.length_nil, Nat.zero_add]; omega) (by omega) (by decide) (Nat.le_trans hm.1 mt0) (mi 0 rfl) ?_
 intro h_10 K_11 A_12
 refine Runs.goto (t := 154) (g j65 41 rfl) (by decide) ?_
 refine Runs.aloadN (g j65 88 rfl) rfl rfl ?_
 refine Runs.iloadN (g j65 89 rfl) rfl ?_
 have O_13 := ((((B1.1.keep K_2 (ninS hat0 nin0)).keep K_5 (ninS hat0 nin0)).keep K_8 (ninS hat0 nin0)).keep K_11 (ninS hat0 nin0))
 refine Runs.putF (i := 2) (ty := .int) (g j65 90 rfl) (host := "") (Or.inl (wd hw 236 rfl)) Via.refl O_13 rfl (lay_2 hw) rfl (Or.inl (wd hw 237 rfl)) (wd hw 196 rfl) (by decide) rfl rfl (Nat.le_trans hm.1 ma) (Or.inr ⟨by decide, by decide⟩) ?_
 intro h_14 K_15 (O_16 : Obj Z h_14 a S10_ [(S2_, "value", "[B", (.ref t0)), (S2_, "coder", "B", (.int 0)), (S2_, "count", "I", (.int (Int32.ofNat (xs.length + 1 + 1 + 1 + 1)))), (S2_, S21_, "Z", (.int 0))])
 refine Runs.aloadN (g j65 91 rfl) rfl rfl ?_
 have A_17 := (A_12.keep K_15 (ninS (Ne.symm hat0) nin0))
 refine Runs.weak (D1 := [t0]) (by simp) ?_
 exact Runs.retA (g j65 92 rfl) rfl rfl rfl (by first | decide | (dsimp only; first | decide | omega)) (by first | decide | (dsimp only; first | decide | omega)) ⟨rfl, t0, k0, mt0, (((((((Keep.refl _ _).trans K0 (allS (Or.inl (mi 0 rfl)) all0)).trans K_2 (allS (Or.inr (Nat.le_trans (Nat.le_refl _) g0)) all0)).trans K_5 (allS (Or.inr (Nat.le_trans (Nat.le_refl _) g0)) all0)).trans K_8 (allS (Or.inr (Nat.le_trans (Nat.le_refl _) g0)) all0)).trans K_11 (allS (Or.inr (Nat.le_trans (Nat.le_refl _) g0)) all0)).trans K_15 (allS (Or.inl (mi 0 rfl)) all0)), Or.inl ⟨by rw [List.length_append]; exact O_16, (by rw [own_map8, List.map_append, show ([116, 114, 117, 101] : List Int32).map own_8 = ([116, 114, 117, 101] : List Int32) from by decide]; simpa only [List.append_assoc, List.cons_append, List.nil_append] using A_17), (((((B1.2.2.1.keep K_2).keep K_5).keep K_8).keep K_11).keep K_15), own_lat_app BL own_word1, by rw [List.length_append]; show xs.length + 4 ≤ _; omega, by omega⟩, rfl⟩
theorem own_az1g1 (hw : Wds Z a0) (n0 : Nat) (a t : Addr) (k : ClassId) (cap : Nat) (xs : List Int32) (h0 : Heap) (B0 : SBw Z h0 a t k cap xs) (hfit : cap < xs.length + 4 ∧ xs.length < 10000) (NS : Nat) (hNS : 2 * (cap + max (xs.length + 4 - cap) (cap + 2)) ≤ NS ∧ NS < 100000) (m0 : Nat) (hm : n0 ≤ m0 ∧ m0 ≤ h0.size) (ma : m0 ≤ a) (mt : m0 ≤ t) (cpt : Int32) (S_C : SC Z cpt) (hcpt : ¬ cpt = 0) (S_A : SA Z) (S_H : SH Z) (S_L : SL Z) (fm : Value) (hfm : fm.isRef = true) (S_F : SF Z fm) : Con 1 l Z EL_ n0 m65_ c65_ 4 (some (.object S2_)) ⟨4, 1, NS, 72⟩ #[(.ref a), (.int 1)] [t] h0 (fun v h D' => v = some (.ref a) ∧ ∃ t' k', m0 ≤ t' ∧ Keep h0 h [a, t] ∧ SBx Z h a t' k' (cap + max (xs.length + 4 - cap) (cap + 2)) (xs ++ ([116, 114, 117, 101] : List Int32)) ∧ D' = [t']) := by
 refine Con.of_runs (ls := #[vr a, vi 1, .unset, .unset]) (by decide +kernel) (ef rfl rfl) ?_
 obtain ⟨BO, BA, BE, BL, hle, hcap⟩ := id B0
 have hat : a ≠ t := Exa.neArv BO.1 BA (wd hw 196 rfl)
 refine Runs.aloadN (g j65 0 rfl) rfl rfl ?_
 refine Runs.aloadN (g j65 1 rfl) rfl rfl ?_
 refine Runs.getF (g j65 2 rfl) (host := "") (Or.inl (wd hw 236 rfl)) Via.refl (BO.fld (i := 2) rfl) ?_
 refine Runs.iloadN (g j65 3 rfl) rfl ?_
 refine Runs.ifN (g j65 4 rfl) (feq (by decide : ¬ ((1 : Int32) = (0 : Int32)))).1 ?_
 refine Runs.iconst (v := (4 : Int32)) (g j65 5 rfl) (by decide) ?_
 refine Runs.goto (t := 14) (g j65 6 rfl) (by decide) ?_
 refine Runs.iadd (z := (Int32.ofNat (xs.length + 4))) (g j65 8 rfl) (own_add (a := xs.length) (b := 4) (by omega)) ?_
 refine Runs.callVW (argsL := [(.int (Int32.ofNat (xs.length + 4)))]) (rest := []) (W := 0) (g j65 9 rfl) (wd hw 238 rfl) (declares_of (wd hw 239 rfl) (wd hw 242 rfl)) (fun s hZ => notFace_of_selects (args := #[]) (mvT hZ (wd hw 241 rfl))) (wd hw 241 rfl) (wd hw 239 rfl) (wd hw 242 rfl) (wd hw 205 rfl) (by decide) BO.1 pd_8 rfl rfl rfl rfl (by first | decide | (dsimp only; first | decide | omega)) (by first | decide | (dsimp only; first | decide | omega)) (by first | decide | (dsimp only; first | decide | omega)) (by first | decide | (dsimp only; first | decide | omega)) all0 (by decide) (own_ecgw l Z a0 hw n0 a t k cap xs _ B0 (xs.length + 4) NS (by omega) (by omega) (Nat.le_trans hm.1 ma)) ?_
 rintro v hh0 D1 ⟨rfl, t0, k0, g0, K0, B1, rfl⟩ hsz
 show Runs _ _ _ _ _ _ _ _ _ _ _ _ [t0, t] hh0 1 (0 + NS) 18 _ []
 have mt0 : m0 ≤ t0 := Nat.le_trans hm.2 g0
 have hat0 : a ≠ t0 := Exa.neArv B1.1.1 B1.2.1 (wd hw 196 rfl)
 refine Runs.aloadN (g j65 10 rfl) rfl rfl ?_
 refine Runs.getF (g j65 11 rfl) (host := "") (Or.inl (wd hw 236 rfl)) Via.refl (B1.1.fld (i := 2) rfl) ?_
 refine Runs.istoreN (ls' := #[vr a, vi 1, vi (Int32.ofNat xs.length), .unset]) (g j65 12 rfl) rfl ?_
 refine Runs.aloadN (g j65 13 rfl) rfl rfl ?_
 refine Runs.getF (g j65 14 rfl) (host := "") (Or.inl (wd hw 209 rfl)) Via.refl (B1.1.fld (i := 0) rfl) ?_
 refine Runs.astoreN (ls' := #[vr a, vi 1, vi (Int32.ofNat xs.length), vr t0]) (g j65 15 rfl) rfl rfl ?_
 refine Runs.aloadN (g j65 16 rfl) rfl rfl ?_
 refine Runs.callVW (argsL := []) (rest := []) (W := 0) (g j65 17 rfl) (wd hw 339 rfl) (wd hw 340 rfl) (fun s hZ => notFace_of_selects (args := #[]) (mvT hZ (wd hw 342 rfl))) (wd hw 342 rfl) (wd hw 341 rfl) (wd hw 343 rfl) (wd hw 205 rfl) (by decide) B1.1.1 pd_7 rfl rfl rfl rfl (by first | decide | (dsimp only; first | decide | omega)) (by first | decide | (dsimp only; first | decide | omega)) (by first | decide | (dsimp only; first | decide | omega)) (by first | decide | (dsimp only; first | decide | omega)) all0 (by decide) (own_bil1 l Z a0 hw n0 a t0 k0 (cap + max (xs.length + 4 - cap) (cap + 2)) xs _ B1 cpt S_C hcpt) ?_
 rintro v h1 D1 ⟨rfl, rfl, rfl⟩ hsz
 show Runs _ _ _ _ _ _ _ _ _ _ _ _ [t0, t] hh0 1 (0 + NS) 32 _ [(.int 0)]
 refine Runs.ifY (t := 117) (g j65 18 rfl) (by decide) (teq (by decide : (0 : Int32) = (0 : Int32))).1 ?_
 refine Runs.iloadN (g j65 68 rfl) rfl ?_
 refine Runs.ifN (g j65 69 rfl) (feq (by decide : ¬ ((1 : Int32) = (0 : Int32)))).1 ?_
 refine Runs.aloadN (g j65 70 rfl) rfl rfl ?_
 refine Runs.iloadN (g j65 71 rfl) rfl ?_
 refine Runs.bipush (v := (116 : Int32)) (g j65 72 rfl) (by decide) ?_
 refine Runs.bipush (v := (114 : Int32)) (g j65 73 rfl) (by decide) ?_
 refine Runs.bipush (v := (117 : Int32)) (g j65 74 rfl) (by decide) ?_
 refine Runs.bipush (v := (101 : Int32)) (g j65 75 rfl) (by decide) ?_
 refine Runs.callSW (argsL := [(.ref t0), (.int (Int32.ofNat xs.length)), (.int 116), (.int 114), (.int 117), (.int 101)]) (rest := []) (W := 0) (g j65 76 rfl) (wd hw 512 rfl) (wd hw 513 rfl) (wd hw 460 rfl) (wd hw 514 rfl) (by decide) pd_43 rfl rfl rfl rfl (by first | decide | (dsimp only; first | decide | omega)) (by first | decide | (dsimp only; first | decide | omega)) (by first | decide | (dsimp only; first | decide | omega)) (by first | decide | (dsimp only; first | decide | omega)) (allS (mi 0 rfl) all0) (by decide) (own_pca4 l Z a0 hw n0 t0 k0 (cap + max (xs.length + 4 - cap) (cap + 2)) xs _ B1.2.1 116 114 117 101 (by omega) (by omega) (Nat.le_trans hm.1 mt0) S_A S_H S_L fm hfm S_F) ?_
 rintro v h9 D1 ⟨rfl, K9, A9, rfl⟩ hsz
 show Runs _ _ _ _ _ _ _ _ _ _ _ _ [t0, t] h9 1 (0 + NS) 134 _ [(.int (Int32.ofNat (xs.length + 4)))]
 refine Runs.istoreN (ls' := #[vr a, vi 1, vi (Int32.ofNat (xs.length + 4)), vr t0]) (g j65 77 rfl) rfl ?_
 refine Runs.goto (t := 154) (g j65 78 rfl) (by decide) ?_
 refine Runs.aloadN (g j65 88 rfl) rfl rfl ?_
 refine Runs.iloadN (g j65 89 rfl) rfl ?_
 have O_1 := (B1.1.keep K9 (ninS hat0 nin0))
 refine Runs.putF (i := 2) (ty := .int) (g j65 90 rfl) (host := "") (Or.inl (wd hw 236 rfl)) Via.refl O_1 rfl (lay_2 hw) rfl (Or.inl (wd hw 237 rfl)) (wd hw 196 rfl) (by decide) rfl rfl (Nat.le_trans hm.1 ma) (Or.inr ⟨by decide, by decide⟩) ?_
 intro h_2 K_3 (O_4 : Obj Z h_2 a S10_ [(S2_, "value", "[B", (.ref t0)), (S2_, "coder", "B", (.int 1)), (S2_, "count", "I", (.int (Int32.ofNat (xs.length + 4)))), (S2_, S21_, "Z", (.int 0))])
 refine Runs.aloadN (g j65 91 rfl) rfl rfl ?_
 have A_5 := (A9.keep K_3 (ninS (Ne.symm hat0) nin0))
 refine Runs.weak (D1 := [t0]) (by simp) ?_
 exact Runs.retA (g j65 92 rfl) rfl rfl rfl (by first | decide | (dsimp only; first | decide | omega)) (by first | decide | (dsimp only; first | decide | omega)) ⟨rfl, t0, k0, mt0, ((((Keep.refl _ _).trans K0 (allS (Or.inl (mi 0 rfl)) all0)).trans K9 (allS (Or.inr (Nat.le_trans (Nat.le_refl _) g0)) all0)).trans K_3 (allS (Or.inl (mi 0 rfl)) all0)), Or.inr ⟨by rw [List.length_append]; exact O_4, A_5, ((B1.2.2.1.keep K9).keep K_3), own_cha_app BL (own_word1C), by rw [List.length_append]; show xs.length + 4 ≤ _; omega, by omega⟩, rfl⟩
theorem own_az1g (hw : Wds Z a0) (n0 : Nat) (a t : Addr) (k : ClassId) (cap : Nat) (xs : List Int32) (h0 : Heap) (B0 : SBx Z h0 a t k cap xs) (hfit : cap < xs.length + 4 ∧ xs.length < 10000) (NS : Nat) (hNS : 2 * (cap + max (xs.length + 4 - cap) (cap + 2)) ≤ NS ∧ NS < 100000) (m0 : Nat) (hm : n0 ≤ m0 ∧ m0 ≤ h0.size) (ma : m0 ≤ a) (mt : m0 ≤ t) (cpt : Int32) (S_C : SC Z cpt) (hcpt : ¬ cpt = 0) (S_A : SA Z) (S_H : SH Z) (S_L : SL Z) (fm : Value) (hfm : fm.isRef = true) (S_F : SF Z fm) : Con 1 l Z EL_ n0 m65_ c65_ 4 (some (.object S2_)) ⟨4, 1, NS, 72⟩ #[(.ref a), (.int 1)] [t] h0 (fun v h D' => v = some (.ref a) ∧ ∃ t' k', m0 ≤ t' ∧ Keep h0 h [a, t] ∧ SBx Z h a t' k' (cap + max (xs.length + 4 - cap) (cap + 2)) (xs ++ ([116, 114, 117, 101] : List Int32)) ∧ D' = [t']) := by
 rcases B0 with B0 | B0
 · exact own_az1g0 l Z a0 hw n0 a t k cap xs h0 B0 hfit NS hNS m0 hm ma mt cpt S_C hcpt S_A S_H S_L fm hfm S_F
 · exact own_az1g1 l Z a0 hw n0 a t k cap xs h0 B0 hfit NS hNS m0 hm ma mt cpt S_C hcpt S_A S_H S_L fm hfm S_F
theorem own_sz1g (hw : Wds Z a0) (n0 : Nat) (a t : Addr) (k : ClassId) (cap : Nat) (xs : List Int32) (h0 : Heap) (B0 : SBx Z h0 a t k cap xs) (hfit : cap < xs.length + 4 ∧ xs.length < 10000) (NS : Nat) (hNS : 2 * (cap + max (xs.length + 4 - cap) (cap + 2)) ≤ NS ∧ NS < 100000) (m0 : Nat) (hm : n0 ≤ m0 ∧ m0 ≤ h0.size) (ma : m0 ≤ a) (mt : m0 ≤ t) (cpt : Int32) (S_C : SC Z cpt) (hcpt : ¬ cpt = 0) (S_A : SA Z) (S_H : SH Z) (S_L : SL Z) (fm : Value) (hfm : fm.isRef = true) (S_F : SF Z fm) : Con 1 l Z EL_ n0 m64_ c64_ 2 (some (.object S10_)) ⟨5, 1, NS, 87⟩ #[(.ref a), (.int 1)] [t] h0 (fun v h D' => v = some (.ref a) ∧ ∃ t' k', m0 ≤ t' ∧ Keep h0 h [a, t] ∧ SBx Z h a t' k' (cap + max (xs.length + 4 - cap) (cap + 2)) (xs ++ ([116, 114, 117, 101] : List Int32)) ∧ D' = [t']) := by
 refine Con.of_runs (ls := #[vr a, vi 1]) (by decide +kernel) (ef rfl rfl) ?_
 have BO : Exa Z h0 a S10_ := B0.elim (fun q => q.1.1) (fun q => q.1.1)
 refine Runs.aloadN (g j64 0 rfl) rfl rfl ?_
 refine Runs.iloadN (g j64 1 rfl) rfl ?_
 refine Runs.callUW (argsL := [(.int 1)]) (rest := []) (W := 0) (g j64 2 rfl) (wd hw 408 rfl) (same_of (wd hw 410 rfl) (nf_same (notFace_of_selects (wd hw 241 rfl)) (wd hw 239 rfl) rfl) (by decide)) (wd hw 409 rfl) (wd hw 223 rfl) (wd hw 411 rfl) (wd hw 205 rfl) (by decide) BO pd_42 rfl rfl rfl rfl (by first | decide | (dsimp only; first | decide | omega)) (by first | decide | (dsimp only; first | decide | omega)) (by first | decide | (dsimp only; first | decide | omega)) (by first | decide | (dsimp only; first | decide | omega)) (allS (mi 0 rfl) all0) (by decide) (own_az1g l Z a0 hw n0 a t k cap xs _ B0 hfit NS hNS m0 hm ma mt cpt S_C hcpt S_A S_H S_L fm hfm S_F) ?_
 rintro v h1 D1 ⟨rfl, t1, k1, g1, K1, B1, rfl⟩ hsz
 show Runs _ _ _ _ _ _ _ _ _ _ _ _ [t1, t] h1 1 (0 + NS) 5 _ [(.ref a)]
 refine Runs.pop (g j64 3 rfl) rfl ?_
 refine Runs.aloadN (g j64 4 rfl) rfl rfl ?_
 refine Runs.weak (D1 := [t1]) (by simp) ?_
 exact Runs.retA (g j64 5 rfl) rfl rfl rfl (by first | decide | (dsimp only; first | decide | omega)) (by first | decide | (dsimp only; first | decide | omega)) ⟨rfl, t1, k1, g1, K1, B1, rfl⟩
theorem own_ct55 (hw : Wds Z a0) (n0 : Nat) (r a t : Addr) (k : ClassId) (cap : Nat) (xs cs : List Int32) (h h0 : Heap) (hn0 : n0 ≤ h0.size) (Kc : Keep h0 h []) (ma : h0.size ≤ a) (mt : h0.size ≤ t) (B : SBx Z h a t k cap xs) (hx : xs.length ≤ cap ∧ xs.length ≤ 73) (hcap : cap ≤ 142) (hcs : xs ++ (own_T 412) = cs) (cpt : Int32) (S_C : SC Z cpt) (hcpt : ¬ cpt = 0) (S_A : SA Z) (S_H : SH Z) (S_L : SL Z) (fm : Value) (hfm : fm.isRef = true) (S_F : SF Z fm) : Runs 1 l Z EL_ n0 S1_ "toString" c28_ 1 (some (.object S6_)) ⟨14, 33, 2890, 221⟩ (fun v h D' => ∃ b u k', v = some (.ref b) ∧ Keep h0 h [] ∧ Sy Z h b u k' cs ∧ D' = []) [t] h 27 1528 55 #[vr r] [.ref a] := by
 refine Runs.ldcT (vs := (own_T 412).map own_b) (z := Int32.ofNat (own_T 412).length) (n := 4) (by decide) (g j28 23 rfl) (own_k412 hw) (own_sa hw) (own_EW hw) (mi 4 rfl) ⟨own_c412, own_Tb own_c412⟩ (own_nn (by rw [own_L412]; decide)) (by rw [own_cl (by rw [own_L412]; decide), List.length_map]) (by rw [← own_Tlen, own_L412]; decide) (by decide) (by decide) (by decide) ?_
 intro h_1 s_2 t_3 k_4 K_5 O_6 A_7 dd_8
 have S_9 : Str Z h_1 s_2 t_3 k_4 (own_T 412) := ⟨O_6, A_7, own_Tl own_c412, by rw [own_L412]; decide⟩
 show Runs _ _ _ _ _ _ _ _ _ _ _ _ [t] h_1 29 1536 57 _ [(.ref s_2), (.ref a)]
 have Kc_10 := Kc.trans K_5 all0
 have B_11 := B.keep K_5 nin0 nin0
 by_cases hf : xs.length + 1 ≤ cap
 · skip
   refine Runs.callVW (argsL := [(.ref s_2)]) (rest := []) (W := 0) (g j28 24 rfl) (wd hw 216 rfl) (wd hw 217 rfl) (fun s hZ => notFace_of_selects (args := #[]) (mvT hZ (wd hw 219 rfl))) (wd hw 219 rfl) (wd hw 218 rfl) (wd hw 220 rfl) (wd hw 197 rfl) (by decide) (own_sbb_ B_11).1 pd_29 rfl rfl rfl rfl (by decide) (by decide) (by decide) (by decide) (allS (mi 0 rfl) all0) (by decide) (own_sxf l Z a0 hw n0 a t k cap xs _ B_11 s_2 t_3 k_4 (own_T 412) (Or.inl S_9) (by first | omega | (simp only [List.length_append, List.length_cons, List.length_nil, own_L213, own_L275, own_L276, own_L402, own_L412] <;> omega)) h0.size ⟨hn0, Kc_10.1⟩ ma mt (Ne.symm (dd_8 _ (mi 0 rfl)).2) 284 (by first | omega | (simp only [List.length_append, List.length_cons, List.length_nil, own_L213, own_L275, own_L276, own_L402, own_L412] <;> omega)) cpt S_C hcpt S_A S_H S_L fm hfm S_F) ?_
   rintro v h_17 D1 ⟨rfl, t_12, k_13, g_14, K_15, B_16, rfl⟩ hsz
   show Runs _ _ _ _ _ _ _ _ _ _ _ _ [t_12, t] h_17 30 1820 60 _ [(.ref a)]
   have Kc_18 := Kc_10.trans K_15 (allS (Or.inr ma) (allS (Or.inr mt) all0))
   refine Runs.weak (D1 := [t_12]) (by simp) ?_
   refine Runs.callVW (argsL := []) (rest := []) (W := 0) (g j28 25 rfl) (wd hw 413 rfl) (wd hw 368 rfl) (fun s hZ => notFace_of_selects (args := #[]) (mvT hZ (wd hw 370 rfl))) (wd hw 370 rfl) (wd hw 369 rfl) (wd hw 371 rfl) (wd hw 197 rfl) (by decide) (own_sbb_ B_16).1 pd_21 rfl rfl rfl rfl (by decide) (by decide) (by decide) (by decide) all0 (by decide) (own_xs l Z a0 hw n0 a t_12 k_13 _ _ _ B_16 150 (by first | omega | (simp only [List.length_append, List.length_cons, List.length_nil, own_L213, own_L275, own_L276, own_L402, own_L412] <;> omega)) cpt S_C hcpt) ?_
   rintro v h9 D1 ⟨b, ub, kb, rfl, gb, gu, K9, S9, rfl⟩ hsz
   show Runs _ _ _ _ _ _ _ _ _ _ _ _ [t_12] h9 32 1974 63 _ [(.ref b)]
   refine Runs.weak (D1 := []) (fun _ q => nomatch q) ?_
   exact Runs.retA (g j28 26 rfl) rfl rfl rfl (by decide) (by decide) ⟨b, ub, kb, rfl, Kc_18.trans K9 all0, by rw [← hcs]; exact S9, rfl⟩
 · skip
   refine Runs.callVW (argsL := [(.ref s_2)]) (rest := []) (W := 0) (g j28 24 rfl) (wd hw 216 rfl) (wd hw 217 rfl) (fun s hZ => notFace_of_selects (args := #[]) (mvT hZ (wd hw 219 rfl))) (wd hw 219 rfl) (wd hw 218 rfl) (wd hw 220 rfl) (wd hw 197 rfl) (by decide) (own_sbb_ B_11).1 pd_29 rfl rfl rfl rfl (by decide) (by decide) (by decide) (by decide) (allS (mi 0 rfl) all0) (by decide) (own_sxg l Z a0 hw n0 a t k cap xs _ B_11 s_2 t_3 k_4 (own_T 412) (Or.inl S_9) (by first | omega | (simp only [List.length_append, List.length_cons, List.length_nil, own_L213, own_L275, own_L276, own_L402, own_L412] <;> omega)) h0.size ⟨hn0, Kc_10.1⟩ ma mt (Ne.symm (dd_8 _ (mi 0 rfl)).2) 600 (by first | omega | (simp only [List.length_append, List.length_cons, List.length_nil, own_L213, own_L275, own_L276, own_L402, own_L412] <;> omega)) cpt S_C hcpt S_A S_H S_L fm hfm S_F) ?_
   rintro v h_24 D1 ⟨rfl, t_19, k_20, g_21, K_22, B_23, rfl⟩ hsz
   show Runs _ _ _ _ _ _ _ _ _ _ _ _ [t_19, t] h_24 31 2736 60 _ [(.ref a)]
   have Kc_25 := Kc_10.trans K_22 (allS (Or.inr ma) (allS (Or.inr mt) all0))
   refine Runs.weak (D1 := [t_19]) (by simp) ?_
   refine Runs.callVW (argsL := []) (rest := []) (W := 0) (g j28 25 rfl) (wd hw 413 rfl) (wd hw 368 rfl) (fun s hZ => notFace_of_selects (args := #[]) (mvT hZ (wd hw 370 rfl))) (wd hw 370 rfl) (wd hw 369 rfl) (wd hw 371 rfl) (wd hw 197 rfl) (by decide) (own_sbb_ B_23).1 pd_21 rfl rfl rfl rfl (by decide) (by decide) (by decide) (by decide) all0 (by decide) (own_xs l Z a0 hw n0 a t_19 k_20 _ _ _ B_23 150 (by first | omega | (simp only [List.length_append, List.length_cons, List.length_nil, own_L213, own_L275, own_L276, own_L402, own_L412] <;> omega)) cpt S_C hcpt) ?_
   rintro v h9 D1 ⟨b, ub, kb, rfl, gb, gu, K9, S9, rfl⟩ hsz
   show Runs _ _ _ _ _ _ _ _ _ _ _ _ [t_19] h9 33 2890 63 _ [(.ref b)]
   refine Runs.weak (D1 := []) (fun _ q => nomatch q) ?_
   exact Runs.retA (g j28 26 rfl) rfl rfl rfl (by decide) (by decide) ⟨b, ub, kb, rfl, Kc_25.trans K9 all0, by rw [← hcs]; exact S9, rfl⟩
theorem own_clt (hw : Wds Z a0) (n0 : Nat) (r s0 s1 s2 c u0 u1 : Addr) (k0 k1 : ClassId) (x0 x1 z : Int32) (hz : z = 0 ∨ z = 1) (ls : List Int32) (hls : ls.length ≤ 6) (h0 : Heap) (hn0 : n0 ≤ h0.size) (R0 : Obj Z h0 r S1_ [(S1_, "clientId", S11_, (.ref s0)), (S1_, "clientName", S11_, (.ref s1)), (S1_, S24_, S11_, (.ref s2)), (S1_, S25_, S16_, (.ref c)), (S1_, S23_, "Z", (.int z))]) (S0 : Sy Z h0 s0 u0 k0 [x0]) (S1 : Sy Z h0 s1 u1 k1 [x1]) (HL : ∀ (t : Addr) (h1 : Heap), Keep h0 h1 [] → t < h1.size → n0 ≤ h1.size → Con 1 l Z EL_ n0 m43_ c43_ 1 (some (.object S6_)) ⟨12, 7, 104, 195⟩ #[(.ref c)] [t] h1 (fun v h D' => ∃ b u' k', v = some (.ref b) ∧ u' ≠ t ∧ Keep h1 h [] ∧ Sy Z h b u' k' ls ∧ D' = [])) (cpt : Int32) (S_C : SC Z cpt) (hcpt : ¬ cpt = 0) (S_A : SA Z) (S_H : SH Z) (S_L : SL Z) (fm : Value) (hfm : fm.isRef = true) (S_F : SF Z fm) : Con 1 l Z EL_ n0 (⟨S1_, "toString", "()Ljava/lang/String;"⟩ : MethodName) c28_ 1 (some (.object S6_)) ⟨14, 33, 2890, 221⟩ #[(.ref r)] [] h0 (fun v h D' => ∃ b u k', v = some (.ref b) ∧ Keep h0 h [] ∧ Sy Z h b u k' (((((((((own_T 213) ++ [x0]) ++ (own_T 275)) ++ [x1]) ++ (own_T 276)) ++ ls) ++ (own_T 402)) ++ (own_W z)) ++ (own_T 412)) ∧ D' = []) := by
 refine Con.of_runs (ls := #[vr r]) (by decide +kernel) (ef rfl rfl) ?_
 refine Runs.newO (g j28 0 rfl) (wd hw 195 rfl) (wd hw 196 rfl) (wd hw 197 rfl) (lay_2 hw) (by decide) (by decide) ?_
 intro h_1 b_2 g_5 ge_6 K_3 (O_4 : Obj Z h_1 b_2 S10_ [(S2_, "value", "[B", .null), (S2_, "coder", "B", (.int 0)), (S2_, "count", "I", (.int 0)), (S2_, S21_, "Z", (.int 0))]) U_7
 refine Runs.dup (g j28 1 rfl) rfl ?_
 refine Runs.callCW (argsL := []) (rest := [(.ref b_2)]) (W := 1) (g j28 2 rfl) rfl (wd hw 198 rfl) (wd hw 199 rfl) (wd hw 200 rfl) (wd hw 197 rfl) (by decide) pd_10 rfl rfl rfl rfl (by decide) (by decide) (by decide) (by decide) all0 (by decide) (own_bi l Z a0 hw n0 b_2 _ ge_6 O_4 cpt S_C hcpt) ?_
 rintro v h2 D1 ⟨rfl, t1, kt, gt1, K2, B1, rfl⟩ hsz
 show Runs _ _ _ _ _ _ _ _ _ _ _ _ [t1, b_2] h2 2 20 7 _ [(.ref b_2)]
 have ma : h0.size ≤ b_2 := g_5
 have mt1 : h0.size ≤ t1 := Nat.le_trans K_3.1 gt1
 have Kc2 := K_3.trans K2 (allS (Or.inr ma) all0)
 have Bx1 : SBx Z h2 b_2 t1 kt 16 [] := Or.inl B1
 refine Runs.weak (D1 := [t1]) (by simp) ?_
 refine Runs.ldcT (vs := (own_T 213).map own_b) (z := Int32.ofNat (own_T 213).length) (n := 64) (by decide) (g j28 3 rfl) (own_k213 hw) (own_sa hw) (own_EW hw) (mi 0 rfl) ⟨own_c213, own_Tb own_c213⟩ (own_nn (by rw [own_L213]; decide)) (by rw [own_cl (by rw [own_L213]; decide), List.length_map]) (by rw [← own_Tlen, own_L213]; decide) (by decide) (by decide) (by decide) ?_
 intro h_8 s_9 t_10 k_11 K_12 O_13 A_14 dd_15
 have S_16 : Str Z h_8 s_9 t_10 k_11 (own_T 213) := ⟨O_13, A_14, own_Tl own_c213, by rw [own_L213]; decide⟩
 show Runs _ _ _ _ _ _ _ _ _ _ _ _ [t1] h_8 4 88 9 _ [(.ref s_9), (.ref b_2)]
 have Kc_17 := Kc2.trans K_12 all0
 have B_18 := Bx1.keep K_12 nin0 nin0
 refine Runs.callVW (argsL := [(.ref s_9)]) (rest := []) (W := 0) (g j28 4 rfl) (wd hw 216 rfl) (wd hw 217 rfl) (fun s hZ => notFace_of_selects (args := #[]) (mvT hZ (wd hw 219 rfl))) (wd hw 219 rfl) (wd hw 218 rfl) (wd hw 220 rfl) (wd hw 197 rfl) (by decide) (own_sbb_ B_18).1 pd_29 rfl rfl rfl rfl (by decide) (by decide) (by decide) (by decide) (allS (mi 0 rfl) all0) (by decide) (own_sxf l Z a0 hw n0 b_2 t1 kt 16 _ _ B_18 s_9 t_10 k_11 (own_T 213) (Or.inl S_16) (by first | omega | (simp only [List.length_append, List.length_cons, List.length_nil, own_L213, own_L275, own_L276, own_L402, own_L412] <;> omega)) h0.size ⟨hn0, Kc_17.1⟩ ma mt1 (Ne.symm (dd_15 _ (mi 0 rfl)).2) 32 (by first | omega | (simp only [List.length_append, List.length_cons, List.length_nil, own_L213, own_L275, own_L276, own_L402, own_L412] <;> omega)) cpt S_C hcpt S_A S_H S_L fm hfm S_F) ?_
 rintro v h_24 D1 ⟨rfl, t_19, k_20, g_21, K_22, B_23, rfl⟩ hsz
 show Runs _ _ _ _ _ _ _ _ _ _ _ _ [t_19, t1] h_24 5 120 12 _ [(.ref b_2)]
 have Kc_25 := Kc_17.trans K_22 (allS (Or.inr ma) (allS (Or.inr mt1) all0))
 refine Runs.weak (D1 := [t_19]) (by simp) ?_
 refine Runs.aloadN (g j28 5 rfl) rfl rfl ?_
 refine Runs.getF (g j28 6 rfl) (host := "") (Or.inl (wd hw 180 rfl)) Via.refl ((R0.keep Kc_25 nin0).fld (i := 0) rfl) ?_
 refine Runs.callVW (argsL := [(.ref s0)]) (rest := []) (W := 0) (g j28 7 rfl) (wd hw 216 rfl) (wd hw 217 rfl) (fun s hZ => notFace_of_selects (args := #[]) (mvT hZ (wd hw 219 rfl))) (wd hw 219 rfl) (wd hw 218 rfl) (wd hw 220 rfl) (wd hw 197 rfl) (by decide) (own_sbb_ B_23).1 pd_29 rfl rfl rfl rfl (by decide) (by decide) (by decide) (by decide) (allS (mi 0 rfl) all0) (by decide) (own_sxg l Z a0 hw n0 b_2 t_19 k_20 16 _ _ B_23 s0 u0 k0 [x0] (S0.keep Kc_25 nin0 nin0) (by first | omega | (simp only [List.length_append, List.length_cons, List.length_nil, own_L213, own_L275, own_L276, own_L402, own_L412] <;> omega)) h0.size ⟨hn0, Kc_25.1⟩ ma g_21 (Nat.ne_of_lt (Nat.lt_of_lt_of_le (own_sxa S0).2 g_21)) 68 (by first | omega | (simp only [List.length_append, List.length_cons, List.length_nil, own_L213, own_L275, own_L276, own_L402, own_L412] <;> omega)) cpt S_C hcpt S_A S_H S_L fm hfm S_F) ?_
 rintro v h_31 D1 ⟨rfl, t_26, k_27, g_28, K_29, B_30, rfl⟩ hsz
 show Runs _ _ _ _ _ _ _ _ _ _ _ _ [t_26, t_19] h_31 7 256 19 _ [(.ref b_2)]
 have Kc_32 := Kc_25.trans K_29 (allS (Or.inr ma) (allS (Or.inr g_21) all0))
 have B_33 := own_capq (c' := 34) B_30 (by first | omega | (simp only [List.length_append, List.length_cons, List.length_nil, own_L213, own_L275, own_L276, own_L402, own_L412] <;> omega))
 refine Runs.weak (D1 := [t_26]) (by simp) ?_
 refine Runs.ldcT (vs := (own_T 275).map own_b) (z := Int32.ofNat (own_T 275).length) (n := 52) (by decide) (g j28 8 rfl) (own_k275 hw) (own_sa hw) (own_EW hw) (mi 1 rfl) ⟨own_c275, own_Tb own_c275⟩ (own_nn (by rw [own_L275]; decide)) (by rw [own_cl (by rw [own_L275]; decide), List.length_map]) (by rw [← own_Tlen, own_L275]; decide) (by decide) (by decide) (by decide) ?_
 intro h_34 s_35 t_36 k_37 K_38 O_39 A_40 dd_41
 have S_42 : Str Z h_34 s_35 t_36 k_37 (own_T 275) := ⟨O_39, A_40, own_Tl own_c275, by rw [own_L275]; decide⟩
 show Runs _ _ _ _ _ _ _ _ _ _ _ _ [t_26] h_34 9 312 21 _ [(.ref s_35), (.ref b_2)]
 have Kc_43 := Kc_32.trans K_38 all0
 have B_44 := B_33.keep K_38 nin0 nin0
 refine Runs.callVW (argsL := [(.ref s_35)]) (rest := []) (W := 0) (g j28 9 rfl) (wd hw 216 rfl) (wd hw 217 rfl) (fun s hZ => notFace_of_selects (args := #[]) (mvT hZ (wd hw 219 rfl))) (wd hw 219 rfl) (wd hw 218 rfl) (wd hw 220 rfl) (wd hw 197 rfl) (by decide) (own_sbb_ B_44).1 pd_29 rfl rfl rfl rfl (by decide) (by decide) (by decide) (by decide) (allS (mi 0 rfl) all0) (by decide) (own_sxf l Z a0 hw n0 b_2 t_26 k_27 34 _ _ B_44 s_35 t_36 k_37 (own_T 275) (Or.inl S_42) (by first | omega | (simp only [List.length_append, List.length_cons, List.length_nil, own_L213, own_L275, own_L276, own_L402, own_L412] <;> omega)) h0.size ⟨hn0, Kc_43.1⟩ ma g_28 (Ne.symm (dd_41 _ (mi 0 rfl)).2) 68 (by first | omega | (simp only [List.length_append, List.length_cons, List.length_nil, own_L213, own_L275, own_L276, own_L402, own_L412] <;> omega)) cpt S_C hcpt S_A S_H S_L fm hfm S_F) ?_
 rintro v h_50 D1 ⟨rfl, t_45, k_46, g_47, K_48, B_49, rfl⟩ hsz
 show Runs _ _ _ _ _ _ _ _ _ _ _ _ [t_45, t_26] h_50 10 380 24 _ [(.ref b_2)]
 have Kc_51 := Kc_43.trans K_48 (allS (Or.inr ma) (allS (Or.inr g_28) all0))
 refine Runs.weak (D1 := [t_45]) (by simp) ?_
 refine Runs.aloadN (g j28 10 rfl) rfl rfl ?_
 refine Runs.getF (g j28 11 rfl) (host := "") (Or.inl (wd hw 182 rfl)) Via.refl ((R0.keep Kc_51 nin0).fld (i := 1) rfl) ?_
 refine Runs.callVW (argsL := [(.ref s1)]) (rest := []) (W := 0) (g j28 12 rfl) (wd hw 216 rfl) (wd hw 217 rfl) (fun s hZ => notFace_of_selects (args := #[]) (mvT hZ (wd hw 219 rfl))) (wd hw 219 rfl) (wd hw 218 rfl) (wd hw 220 rfl) (wd hw 197 rfl) (by decide) (own_sbb_ B_49).1 pd_29 rfl rfl rfl rfl (by decide) (by decide) (by decide) (by decide) (allS (mi 0 rfl) all0) (by decide) (own_sxf l Z a0 hw n0 b_2 t_45 k_46 34 _ _ B_49 s1 u1 k1 [x1] (S1.keep Kc_51 nin0 nin0) (by first | omega | (simp only [List.length_append, List.length_cons, List.length_nil, own_L213, own_L275, own_L276, own_L402, own_L412] <;> omega)) h0.size ⟨hn0, Kc_51.1⟩ ma g_47 (Nat.ne_of_lt (Nat.lt_of_lt_of_le (own_sxa S1).2 g_47)) 68 (by first | omega | (simp only [List.length_append, List.length_cons, List.length_nil, own_L213, own_L275, own_L276, own_L402, own_L412] <;> omega)) cpt S_C hcpt S_A S_H S_L fm hfm S_F) ?_
 rintro v h_57 D1 ⟨rfl, t_52, k_53, g_54, K_55, B_56, rfl⟩ hsz
 show Runs _ _ _ _ _ _ _ _ _ _ _ _ [t_52, t_45] h_57 11 448 31 _ [(.ref b_2)]
 have Kc_58 := Kc_51.trans K_55 (allS (Or.inr ma) (allS (Or.inr g_47) all0))
 refine Runs.weak (D1 := [t_52]) (by simp) ?_
 refine Runs.ldcT (vs := (own_T 276).map own_b) (z := Int32.ofNat (own_T 276).length) (n := 60) (by decide) (g j28 13 rfl) (own_k276 hw) (own_sa hw) (own_EW hw) (mi 2 rfl) ⟨own_c276, own_Tb own_c276⟩ (own_nn (by rw [own_L276]; decide)) (by rw [own_cl (by rw [own_L276]; decide), List.length_map]) (by rw [← own_Tlen, own_L276]; decide) (by decide) (by decide) (by decide) ?_
 intro h_59 s_60 t_61 k_62 K_63 O_64 A_65 dd_66
 have S_67 : Str Z h_59 s_60 t_61 k_62 (own_T 276) := ⟨O_64, A_65, own_Tl own_c276, by rw [own_L276]; decide⟩
 show Runs _ _ _ _ _ _ _ _ _ _ _ _ [t_52] h_59 13 512 33 _ [(.ref s_60), (.ref b_2)]
 have Kc_68 := Kc_58.trans K_63 all0
 have B_69 := B_56.keep K_63 nin0 nin0
 refine Runs.callVW (argsL := [(.ref s_60)]) (rest := []) (W := 0) (g j28 14 rfl) (wd hw 216 rfl) (wd hw 217 rfl) (fun s hZ => notFace_of_selects (args := #[]) (mvT hZ (wd hw 219 rfl))) (wd hw 219 rfl) (wd hw 218 rfl) (wd hw 220 rfl) (wd hw 197 rfl) (by decide) (own_sbb_ B_69).1 pd_29 rfl rfl rfl rfl (by decide) (by decide) (by decide) (by decide) (allS (mi 0 rfl) all0) (by decide) (own_sxg l Z a0 hw n0 b_2 t_52 k_53 34 _ _ B_69 s_60 t_61 k_62 (own_T 276) (Or.inl S_67) (by first | omega | (simp only [List.length_append, List.length_cons, List.length_nil, own_L213, own_L275, own_L276, own_L402, own_L412] <;> omega)) h0.size ⟨hn0, Kc_68.1⟩ ma g_54 (Ne.symm (dd_66 _ (mi 0 rfl)).2) 140 (by first | omega | (simp only [List.length_append, List.length_cons, List.length_nil, own_L213, own_L275, own_L276, own_L402, own_L412] <;> omega)) cpt S_C hcpt S_A S_H S_L fm hfm S_F) ?_
 rintro v h_75 D1 ⟨rfl, t_70, k_71, g_72, K_73, B_74, rfl⟩ hsz
 show Runs _ _ _ _ _ _ _ _ _ _ _ _ [t_70, t_52] h_75 15 792 36 _ [(.ref b_2)]
 have Kc_76 := Kc_68.trans K_73 (allS (Or.inr ma) (allS (Or.inr g_54) all0))
 have B_77 := own_capq (c' := 70) B_74 (by first | omega | (simp only [List.length_append, List.length_cons, List.length_nil, own_L213, own_L275, own_L276, own_L402, own_L412] <;> omega))
 refine Runs.weak (D1 := [t_70]) (by simp) ?_
 refine Runs.aloadN (g j28 15 rfl) rfl rfl ?_
 refine Runs.getF (g j28 16 rfl) (host := "") (Or.inl (wd hw 186 rfl)) Via.refl ((R0.keep Kc_76 nin0).fld (i := 3) rfl) ?_
 refine Runs.callVW (argsL := [(.ref c)]) (rest := []) (W := 0) (g j28 17 rfl) (wd hw 277 rfl) (wd hw 278 rfl) (fun s hZ => notFace_of_selects (args := #[]) (mvT hZ (wd hw 280 rfl))) (wd hw 280 rfl) (wd hw 279 rfl) (wd hw 281 rfl) (wd hw 197 rfl) (by decide) (own_sbb_ B_77).1 pd_38 rfl rfl rfl rfl (by decide) (by decide) (by decide) (by decide) (allS (mi 0 rfl) all0) (by decide) (own_sxol l Z a0 hw n0 b_2 t_70 k_71 70 _ _ B_77 c ls (HL t_70 _ Kc_76 (own_sbb_ B_77).2 (Nat.le_trans hn0 Kc_76.1)) (by first | omega | (simp only [List.length_append, List.length_cons, List.length_nil, own_L213, own_L275, own_L276, own_L402, own_L412] <;> omega)) h0.size ⟨hn0, Kc_76.1⟩ ma g_72 140 (by first | omega | (simp only [List.length_append, List.length_cons, List.length_nil, own_L213, own_L275, own_L276, own_L402, own_L412] <;> omega)) cpt S_C hcpt S_A S_H S_L fm hfm S_F) ?_
 rintro v h_83 D1 ⟨rfl, t_78, k_79, g_80, K_81, B_82, rfl⟩ hsz
 show Runs _ _ _ _ _ _ _ _ _ _ _ _ [t_78, t_70] h_83 23 1036 43 _ [(.ref b_2)]
 have Kc_84 := Kc_76.trans K_81 (allS (Or.inr ma) (allS (Or.inr g_72) all0))
 refine Runs.weak (D1 := [t_78]) (by simp) ?_
 refine Runs.ldcT (vs := (own_T 402).map own_b) (z := Int32.ofNat (own_T 402).length) (n := 64) (by decide) (g j28 18 rfl) (own_k402 hw) (own_sa hw) (own_EW hw) (mi 3 rfl) ⟨own_c402, own_Tb own_c402⟩ (own_nn (by rw [own_L402]; decide)) (by rw [own_cl (by rw [own_L402]; decide), List.length_map]) (by rw [← own_Tlen, own_L402]; decide) (by decide) (by decide) (by decide) ?_
 intro h_85 s_86 t_87 k_88 K_89 O_90 A_91 dd_92
 have S_93 : Str Z h_85 s_86 t_87 k_88 (own_T 402) := ⟨O_90, A_91, own_Tl own_c402, by rw [own_L402]; decide⟩
 show Runs _ _ _ _ _ _ _ _ _ _ _ _ [t_78] h_85 25 1104 45 _ [(.ref s_86), (.ref b_2)]
 have Kc_94 := Kc_84.trans K_89 all0
 have B_95 := B_82.keep K_89 nin0 nin0
 refine Runs.callVW (argsL := [(.ref s_86)]) (rest := []) (W := 0) (g j28 19 rfl) (wd hw 216 rfl) (wd hw 217 rfl) (fun s hZ => notFace_of_selects (args := #[]) (mvT hZ (wd hw 219 rfl))) (wd hw 219 rfl) (wd hw 218 rfl) (wd hw 220 rfl) (wd hw 197 rfl) (by decide) (own_sbb_ B_95).1 pd_29 rfl rfl rfl rfl (by decide) (by decide) (by decide) (by decide) (allS (mi 0 rfl) all0) (by decide) (own_sxf l Z a0 hw n0 b_2 t_78 k_79 70 _ _ B_95 s_86 t_87 k_88 (own_T 402) (Or.inl S_93) (by first | omega | (simp only [List.length_append, List.length_cons, List.length_nil, own_L213, own_L275, own_L276, own_L402, own_L412] <;> omega)) h0.size ⟨hn0, Kc_94.1⟩ ma g_80 (Ne.symm (dd_92 _ (mi 0 rfl)).2) 140 (by first | omega | (simp only [List.length_append, List.length_cons, List.length_nil, own_L213, own_L275, own_L276, own_L402, own_L412] <;> omega)) cpt S_C hcpt S_A S_H S_L fm hfm S_F) ?_
 rintro v h_101 D1 ⟨rfl, t_96, k_97, g_98, K_99, B_100, rfl⟩ hsz
 show Runs _ _ _ _ _ _ _ _ _ _ _ _ [t_96, t_78] h_101 26 1244 48 _ [(.ref b_2)]
 have Kc_102 := Kc_94.trans K_99 (allS (Or.inr ma) (allS (Or.inr g_80) all0))
 refine Runs.weak (D1 := [t_96]) (by simp) ?_
 refine Runs.aloadN (g j28 20 rfl) rfl rfl ?_
 refine Runs.getF (g j28 21 rfl) (host := "") (Or.inl (wd hw 188 rfl)) Via.refl ((R0.keep Kc_102 nin0).fld (i := 4) rfl) ?_
 rcases hz with rfl | rfl
 · by_cases hf : ls.length ≤ 3
   · skip
     refine Runs.callVW (argsL := [(.int 0)]) (rest := []) (W := 0) (g j28 22 rfl) (wd hw 403 rfl) (wd hw 404 rfl) (fun s hZ => notFace_of_selects (args := #[]) (mvT hZ (wd hw 406 rfl))) (wd hw 406 rfl) (wd hw 405 rfl) (wd hw 407 rfl) (wd hw 197 rfl) (by decide) (own_sbb_ B_100).1 pd_44 rfl rfl rfl rfl (by decide) (by decide) (by decide) (by decide) (allS (mi 0 rfl) all0) (by decide) (own_sz0f l Z a0 hw n0 b_2 t_96 k_97 70 _ _ B_100 (by first | omega | (simp only [List.length_append, List.length_cons, List.length_nil, own_L213, own_L275, own_L276, own_L402, own_L412] <;> omega)) h0.size ⟨hn0, Kc_102.1⟩ ma g_98 cpt S_C hcpt S_A S_H S_L fm hfm S_F) ?_
     rintro v h_108 D1 ⟨rfl, t_103, k_104, g_105, K_106, B_107, rfl⟩ hsz
     show Runs _ _ _ _ _ _ _ _ _ _ _ _ [t_103, t_96] h_108 26 1244 55 _ [(.ref b_2)]
     have Kc_109 := Kc_102.trans K_106 (allS (Or.inr ma) (allS (Or.inr g_98) all0))
     refine Runs.weak (D1 := [t_103]) (by simp) ?_
     refine Runs.mono (kc' := 27) (ks' := 1528) (by decide) (by decide) ?_
     exact own_ct55 l Z a0 hw n0 r b_2 t_103 k_104 70 _ _ _ h0 hn0 Kc_109 ma g_105 B_107 (by first | omega | (simp only [List.length_append, List.length_cons, List.length_nil, own_L213, own_L275, own_L276, own_L402, own_L412] <;> omega)) (by decide) (by rw [own_W0, List.nil_append]) cpt S_C hcpt S_A S_H S_L fm hfm S_F
   · skip
     refine Runs.callVW (argsL := [(.int 0)]) (rest := []) (W := 0) (g j28 22 rfl) (wd hw 403 rfl) (wd hw 404 rfl) (fun s hZ => notFace_of_selects (args := #[]) (mvT hZ (wd hw 406 rfl))) (wd hw 406 rfl) (wd hw 405 rfl) (wd hw 407 rfl) (wd hw 197 rfl) (by decide) (own_sbb_ B_100).1 pd_44 rfl rfl rfl rfl (by decide) (by decide) (by decide) (by decide) (allS (mi 0 rfl) all0) (by decide) (own_sz0g l Z a0 hw n0 b_2 t_96 k_97 70 _ _ B_100 (by first | omega | (simp only [List.length_append, List.length_cons, List.length_nil, own_L213, own_L275, own_L276, own_L402, own_L412] <;> omega)) 284 (by first | omega | (simp only [List.length_append, List.length_cons, List.length_nil, own_L213, own_L275, own_L276, own_L402, own_L412] <;> omega)) h0.size ⟨hn0, Kc_102.1⟩ ma g_98 cpt S_C hcpt S_A S_H S_L fm hfm S_F) ?_
     rintro v h_115 D1 ⟨rfl, t_110, k_111, g_112, K_113, B_114, rfl⟩ hsz
     show Runs _ _ _ _ _ _ _ _ _ _ _ _ [t_110, t_96] h_115 27 1528 55 _ [(.ref b_2)]
     have Kc_116 := Kc_102.trans K_113 (allS (Or.inr ma) (allS (Or.inr g_98) all0))
     have B_117 := own_capq (c' := 142) B_114 (by first | omega | (simp only [List.length_append, List.length_cons, List.length_nil, own_L213, own_L275, own_L276, own_L402, own_L412] <;> omega))
     refine Runs.weak (D1 := [t_110]) (by simp) ?_
     refine Runs.mono (kc' := 27) (ks' := 1528) (by decide) (by decide) ?_
     exact own_ct55 l Z a0 hw n0 r b_2 t_110 k_111 142 _ _ _ h0 hn0 Kc_116 ma g_112 B_117 (by first | omega | (simp only [List.length_append, List.length_cons, List.length_nil, own_L213, own_L275, own_L276, own_L402, own_L412] <;> omega)) (by decide) (by rw [own_W0, List.nil_append]) cpt S_C hcpt S_A S_H S_L fm hfm S_F
 · by_cases hf : ls.length ≤ 4
   · skip
     refine Runs.callVW (argsL := [(.int 1)]) (rest := []) (W := 0) (g j28 22 rfl) (wd hw 403 rfl) (wd hw 404 rfl) (fun s hZ => notFace_of_selects (args := #[]) (mvT hZ (wd hw 406 rfl))) (wd hw 406 rfl) (wd hw 405 rfl) (wd hw 407 rfl) (wd hw 197 rfl) (by decide) (own_sbb_ B_100).1 pd_44 rfl rfl rfl rfl (by decide) (by decide) (by decide) (by decide) (allS (mi 0 rfl) all0) (by decide) (own_sz1f l Z a0 hw n0 b_2 t_96 k_97 70 _ _ B_100 (by first | omega | (simp only [List.length_append, List.length_cons, List.length_nil, own_L213, own_L275, own_L276, own_L402, own_L412] <;> omega)) h0.size ⟨hn0, Kc_102.1⟩ ma g_98 cpt S_C hcpt S_A S_H S_L fm hfm S_F) ?_
     rintro v h_123 D1 ⟨rfl, t_118, k_119, g_120, K_121, B_122, rfl⟩ hsz
     show Runs _ _ _ _ _ _ _ _ _ _ _ _ [t_118, t_96] h_123 26 1244 55 _ [(.ref b_2)]
     have Kc_124 := Kc_102.trans K_121 (allS (Or.inr ma) (allS (Or.inr g_98) all0))
     refine Runs.weak (D1 := [t_118]) (by simp) ?_
     refine Runs.mono (kc' := 27) (ks' := 1528) (by decide) (by decide) ?_
     exact own_ct55 l Z a0 hw n0 r b_2 t_118 k_119 70 _ _ _ h0 hn0 Kc_124 ma g_120 B_122 (by first | omega | (simp only [List.length_append, List.length_cons, List.length_nil, own_L213, own_L275, own_L276, own_L402, own_L412] <;> omega)) (by decide) (by rw [own_W1, List.nil_append]) cpt S_C hcpt S_A S_H S_L fm hfm S_F
   · skip
     refine Runs.callVW (argsL := [(.int 1)]) (rest := []) (W := 0) (g j28 22 rfl) (wd hw 403 rfl) (wd hw 404 rfl) (fun s hZ => notFace_of_selects (args := #[]) (mvT hZ (wd hw 406 rfl))) (wd hw 406 rfl) (wd hw 405 rfl) (wd hw 407 rfl) (wd hw 197 rfl) (by decide) (own_sbb_ B_100).1 pd_44 rfl rfl rfl rfl (by decide) (by decide) (by decide) (by decide) (allS (mi 0 rfl) all0) (by decide) (own_sz1g l Z a0 hw n0 b_2 t_96 k_97 70 _ _ B_100 (by first | omega | (simp only [List.length_append, List.length_cons, List.length_nil, own_L213, own_L275, own_L276, own_L402, own_L412] <;> omega)) 284 (by first | omega | (simp only [List.length_append, List.length_cons, List.length_nil, own_L213, own_L275, own_L276, own_L402, own_L412] <;> omega)) h0.size ⟨hn0, Kc_102.1⟩ ma g_98 cpt S_C hcpt S_A S_H S_L fm hfm S_F) ?_
     rintro v h_130 D1 ⟨rfl, t_125, k_126, g_127, K_128, B_129, rfl⟩ hsz
     show Runs _ _ _ _ _ _ _ _ _ _ _ _ [t_125, t_96] h_130 27 1528 55 _ [(.ref b_2)]
     have Kc_131 := Kc_102.trans K_128 (allS (Or.inr ma) (allS (Or.inr g_98) all0))
     have B_132 := own_capq (c' := 142) B_129 (by first | omega | (simp only [List.length_append, List.length_cons, List.length_nil, own_L213, own_L275, own_L276, own_L402, own_L412] <;> omega))
     refine Runs.weak (D1 := [t_125]) (by simp) ?_
     refine Runs.mono (kc' := 27) (ks' := 1528) (by decide) (by decide) ?_
     exact own_ct55 l Z a0 hw n0 r b_2 t_125 k_126 142 _ _ _ h0 hn0 Kc_131 ma g_127 B_132 (by first | omega | (simp only [List.length_append, List.length_cons, List.length_nil, own_L213, own_L275, own_L276, own_L402, own_L412] <;> omega)) (by decide) (by rw [own_W1, List.nil_append]) cpt S_C hcpt S_A S_H S_L fm hfm S_F
theorem own_aci (hw : Wds Z a0) (n0 : Nat) (a : Addr) (h0 : Heap) : Con 1 l Z EL_ n0 (⟨"java/util/AbstractCollection", "<init>", "()V"⟩ : MethodName) c3_ 1 none ⟨1, 0, 0, 12⟩ #[(.ref a)] [] h0 (fun v h D' => v = none ∧ h0 = h ∧ D' = []) := by
 refine Con.of_runs (ls := #[vr a]) (by decide +kernel) (ef rfl rfl) ?_
 refine Runs.aloadN (g j3 0 rfl) rfl rfl ?_
 refine Runs.initO (W := 0) (g j3 1 rfl) (wd hw 19 rfl) (wd hw 20 rfl) (wd hw 21 rfl) rfl (by decide) rfl (by decide) ?_
 exact Runs.retV (g j3 2 rfl) rfl (by decide) (by decide) ⟨rfl, rfl, rfl⟩
theorem own_abl (hw : Wds Z a0) (n0 : Nat) (a : Addr) (h0 : Heap) (ga : n0 ≤ a) (O0 : Obj Z h0 a S5_ [(S13_, S27_, "I", (.int 0)), (S5_, S18_, S7_, .null), (S5_, "size", "I", (.int 0))])  : Con 1 l Z EL_ n0 (⟨S13_, "<init>", "()V"⟩ : MethodName) c2_ 1 none ⟨2, 0, 0, 24⟩ #[(.ref a)] [] h0 (fun v h D' => v = none ∧ Keep h0 h [a] ∧ Obj Z h a S5_ [(S13_, S27_, "I", (.int 0)), (S5_, S18_, S7_, .null), (S5_, "size", "I", (.int 0))] ∧ D' = []) := by
 refine Con.of_runs (ls := #[vr a]) (by decide +kernel) (ef rfl rfl) ?_
 refine Runs.aloadN (g j2 0 rfl) rfl rfl ?_
 refine Runs.callCW (argsL := []) (rest := []) (W := 0) (g j2 1 rfl) rfl (wd hw 13 rfl) (wd hw 14 rfl) (wd hw 18 rfl) (wd hw 17 rfl) (by decide) pd_10 rfl rfl rfl rfl (by decide) (by decide) (by decide) (by decide) all0 (by decide) (own_aci l Z a0 hw n0 a _) ?_
 rintro v h1 D1 ⟨rfl, rfl, rfl⟩ hsz
 show Runs _ _ _ _ _ _ _ _ _ _ _ _ [] h0 0 0 4 _ []
 refine Runs.aloadN (g j2 2 rfl) rfl rfl ?_
 refine Runs.iconst (v := (0 : Int32)) (g j2 3 rfl) (by decide) ?_
 refine Runs.putF (i := 0) (ty := .int) (g j2 4 rfl) (host := "") (Or.inl (wd hw 22 rfl)) Via.refl O0 rfl (lay_3 hw) rfl (Or.inl (wd hw 23 rfl)) (wd hw 2 rfl) (by decide) rfl rfl ga (Or.inr ⟨by decide, by decide⟩) ?_
 intro h_1 K_2 (O_3 : Obj Z h_1 a S5_ [(S13_, S27_, "I", (.int 0)), (S5_, S18_, S7_, .null), (S5_, "size", "I", (.int 0))])
 exact Runs.retV (g j2 5 rfl) rfl (by decide) (by decide) ⟨rfl, ((Keep.refl _ _).trans K_2 (allS (Or.inl (mi 0 rfl)) all0)), O_3, rfl⟩
theorem own_al (hw : Wds Z a0) (n0 : Nat) (a : Addr) (h0 : Heap) (ga : n0 ≤ a) (O0 : Obj Z h0 a S5_ [(S13_, S27_, "I", (.int 0)), (S5_, S18_, S7_, .null), (S5_, "size", "I", (.int 0))]) (dE : Addr) (kE : ClassId) (S_D : Sta Z Z.heap S5_ S20_ S7_ (.ref dE)) (A_D : Arv Z Z.heap dE kE (.object S8_) 0 [] .null) : Con 1 l Z EL_ n0 (⟨S5_, "<init>", "()V"⟩ : MethodName) c1_ 1 none ⟨3, 0, 0, 36⟩ #[(.ref a)] [] h0 (fun v h D' => v = none ∧ Keep h0 h [a] ∧ Obj Z h a S5_ [(S13_, S27_, "I", (.int 0)), (S5_, S18_, S7_, (.ref dE)), (S5_, "size", "I", (.int 0))] ∧ D' = []) := by
 refine Con.of_runs (ls := #[vr a]) (by decide +kernel) (ef rfl rfl) ?_
 refine Runs.aloadN (g j1 0 rfl) rfl rfl ?_
 refine Runs.callCW (argsL := []) (rest := []) (W := 0) (g j1 1 rfl) rfl (wd hw 7 rfl) (wd hw 8 rfl) (wd hw 12 rfl) (wd hw 11 rfl) (by decide) pd_10 rfl rfl rfl rfl (by decide) (by decide) (by decide) (by decide) all0 (by decide) (own_abl l Z a0 hw n0 a _ ga O0) ?_
 rintro v h1 D1 ⟨rfl, K1, O1, rfl⟩ hsz
 show Runs _ _ _ _ _ _ _ _ _ _ _ _ [] h1 0 0 4 _ []
 refine Runs.aloadN (g j1 2 rfl) rfl rfl ?_
 refine Runs.getS (g j1 3 rfl) (wd hw 24 rfl) Via.refl S_D ?_
 refine Runs.putF (i := 1) (ty := (.array (.object S8_))) (g j1 4 rfl) (host := "") (Or.inl (wd hw 25 rfl)) Via.refl O1 rfl (lay_3 hw) rfl (Or.inl (wd hw 26 rfl)) (wd hw 2 rfl) (by decide) rfl rfl ga (Or.inr ⟨by decide, by decide⟩) ?_
 intro h_1 K_2 (O_3 : Obj Z h_1 a S5_ [(S13_, S27_, "I", (.int 0)), (S5_, S18_, S7_, (.ref dE)), (S5_, "size", "I", (.int 0))])
 exact Runs.retV (g j1 5 rfl) rfl (by decide) (by decide) ⟨rfl, (((Keep.refl _ _).trans K1 (allS (Or.inl (mi 0 rfl)) all0)).trans K_2 (allS (Or.inl (mi 0 rfl)) all0)), O_3, rfl⟩
theorem own_gri (hw : Wds Z a0) (n0 : Nat) (dE : Addr) (kE : ClassId) (S_D : Sta Z Z.heap S5_ S20_ S7_ (.ref dE)) (A_D : Arv Z Z.heap dE kE (.object S8_) 0 [] .null) (a : Addr) (h0 : Heap) (ga : n0 ≤ a) (O0 : Obj Z h0 a S5_ [(S13_, S27_, "I", (.int 1)), (S5_, S18_, S7_, (.ref dE)), (S5_, "size", "I", (.int 0))]) : Con 1 l Z EL_ n0 (⟨S5_, "grow", "(I)[Ljava/lang/Object;"⟩ : MethodName) c12_ 4 (some (.array (.object S8_))) ⟨1, 1, 10, 14⟩ #[(.ref a), (.int 1)] [] h0 (fun v h D' => ∃ b k, v = some (.ref b) ∧ h0.size ≤ b ∧ Keep h0 h [a] ∧ Obj Z h a S5_ [(S13_, S27_, "I", (.int 1)), (S5_, S18_, S7_, (.ref b)), (S5_, "size", "I", (.int 0))] ∧ Arv Z h b k (.object S8_) (10 : Int32) [] .null ∧ Exa Z h b S7_ ∧ RoadKit.Ovr Z k S8_ ∧ D' = []) := by
 refine Con.of_runs (ls := #[vr a, vi 1, .unset, .unset]) (by decide +kernel) (ef rfl rfl) ?_
 refine Runs.aloadN (g j12 0 rfl) rfl rfl ?_
 refine Runs.getF (g j12 1 rfl) (host := "") (Or.inl (wd hw 25 rfl)) Via.refl (O0.fld (i := 1) rfl) ?_
 refine Runs.old fun O => ?_
 refine Runs.arrlen (g j12 2 rfl) (A_D.ext O.2) ?_
 refine Runs.istoreN (ls' := #[vr a, vi 1, vi 0, .unset]) (g j12 3 rfl) rfl ?_
 refine Runs.iloadN (g j12 4 rfl) rfl ?_
 refine Runs.ifN (g j12 5 rfl) (flt (by decide : ¬ ((0 : Int32) < (0 : Int32)))).2.2.1 ?_
 refine Runs.aloadN (g j12 6 rfl) rfl rfl ?_
 refine Runs.getF (g j12 7 rfl) (host := "") (Or.inl (wd hw 25 rfl)) Via.refl (O0.fld (i := 1) rfl) ?_
 refine Runs.getS (g j12 8 rfl) (wd hw 24 rfl) Via.refl S_D ?_
 refine Runs.acY (t := 45) (g j12 9 rfl) (by decide) rfl rfl (Jvm.Free.XT.aa_eq_t (congrArg Value.ref rfl)) ?_
 refine Runs.aloadN (g j12 10 rfl) rfl rfl ?_
 refine Runs.bipush (v := (10 : Int32)) (g j12 11 rfl) (by decide) ?_
 refine Runs.iloadN (g j12 12 rfl) rfl ?_
 refine Runs.callSW (argsL := [(.int 10), (.int 1)]) (rest := [(.ref a)]) (W := 1) (g j12 13 rfl) (wd hw 75 rfl) (wd hw 76 rfl) (wd hw 77 rfl) (wd hw 78 rfl) (by decide) pd_30 rfl rfl rfl rfl (by decide) (by decide) (by decide) (by decide) all0 (by decide) (own_max l Z a0 hw n0 10 1 (by decide) (by decide) _) ?_
 rintro v h1 D1 ⟨rfl, rfl, rfl⟩ hsz
 show Runs _ _ _ _ _ _ _ _ _ _ _ _ [] h0 0 0 52 _ [(.int 10), (.ref a)]
 refine Runs.newA (cap := 10) (ad := S7_) (g j12 14 rfl) (wd hw 79 rfl) (wd hw 80 rfl) (by decide) (by decide) (by decide) (by decide) (by decide) rfl ?_
 intro h_1 b_2 k_3 g_6 ge_7 K_4 A_5 E_8 V_9
 refine Runs.dupX1 (g j12 15 rfl) rfl rfl ?_
 have O_10 := (O0.keep K_4 nin0)
 refine Runs.putF (i := 1) (ty := (.array (.object S8_))) (g j12 16 rfl) (host := "") (Or.inl (wd hw 25 rfl)) Via.refl O_10 rfl (lay_3 hw) rfl (Or.inl (wd hw 26 rfl)) (wd hw 2 rfl) (by decide) rfl rfl ga (Or.inr ⟨by decide, by decide⟩) ?_
 intro h_11 K_12 (O_13 : Obj Z h_11 a S5_ [(S13_, S27_, "I", (.int 1)), (S5_, S18_, S7_, (.ref b_2)), (S5_, "size", "I", (.int 0))])
 refine Runs.weak (D1 := []) (fun _ q => nomatch q) ?_
 exact Runs.retA (g j12 17 rfl) rfl rfl rfl (by decide) (by decide) ⟨b_2, k_3, rfl, g_6, (((Keep.refl _ _).trans K_4 all0).trans K_12 (allS (Or.inl (mi 0 rfl)) all0)), O_13, (A_5.keep K_12 (ninS (Nat.ne_of_gt (Nat.lt_of_lt_of_le (Nat.lt_of_lt_of_le O0.lt (Nat.le_refl _)) g_6)) nin0)), (E_8.keep K_12), V_9, rfl⟩
theorem own_gr0 (hw : Wds Z a0) (n0 : Nat) (dE : Addr) (kE : ClassId) (S_D : Sta Z Z.heap S5_ S20_ S7_ (.ref dE)) (A_D : Arv Z Z.heap dE kE (.object S8_) 0 [] .null) (a : Addr) (h0 : Heap) (ga : n0 ≤ a) (O0 : Obj Z h0 a S5_ [(S13_, S27_, "I", (.int 1)), (S5_, S18_, S7_, (.ref dE)), (S5_, "size", "I", (.int 0))]) : Con 1 l Z EL_ n0 (⟨S5_, "grow", "()[Ljava/lang/Object;"⟩ : MethodName) c11_ 1 (some (.array (.object S8_))) ⟨2, 1, 10, 29⟩ #[(.ref a)] [] h0 (fun v h D' => ∃ b k, v = some (.ref b) ∧ h0.size ≤ b ∧ Keep h0 h [a] ∧ Obj Z h a S5_ [(S13_, S27_, "I", (.int 1)), (S5_, S18_, S7_, (.ref b)), (S5_, "size", "I", (.int 0))] ∧ Arv Z h b k (.object S8_) (10 : Int32) [] .null ∧ Exa Z h b S7_ ∧ RoadKit.Ovr Z k S8_ ∧ D' = []) := by
 refine Con.of_runs (ls := #[vr a]) (by decide +kernel) (ef rfl rfl) ?_
 refine Runs.aloadN (g j11 0 rfl) rfl rfl ?_
 refine Runs.aloadN (g j11 1 rfl) rfl rfl ?_
 refine Runs.getF (g j11 2 rfl) (host := "") (Or.inl (wd hw 58 rfl)) Via.refl (O0.fld (i := 2) rfl) ?_
 refine Runs.iconst (v := (1 : Int32)) (g j11 3 rfl) (by decide) ?_
 refine Runs.iadd (z := (1 : Int32)) (g j11 4 rfl) (by decide) ?_
 refine Runs.callVW (argsL := [(.int 1)]) (rest := []) (W := 0) (g j11 5 rfl) (wd hw 70 rfl) (declares_of (wd hw 71 rfl) (wd hw 74 rfl)) (fun s hZ => notFace_of_selects (args := #[]) (mvT hZ (wd hw 73 rfl))) (wd hw 73 rfl) (wd hw 71 rfl) (wd hw 74 rfl) (wd hw 3 rfl) (by decide) O0.1 pd_45 rfl rfl rfl rfl (by decide) (by decide) (by decide) (by decide) all0 (by decide) (own_gri l Z a0 hw n0 dE kE S_D A_D a _ ga O0) ?_
 rintro v h1 D1 ⟨b1, k1, rfl, g1, K1, O1, A1, E1, V1, rfl⟩ hsz
 show Runs _ _ _ _ _ _ _ _ _ _ _ _ [] h1 1 10 10 _ [(.ref b1)]
 exact Runs.retA (g j11 6 rfl) rfl rfl rfl (by decide) (by decide) ⟨b1, k1, rfl, g1, K1, O1, A1, E1, V1, rfl⟩
theorem own_ad3_1 (hw : Wds Z a0) (n0 : Nat) (dE : Addr) (kE : ClassId) (S_D : Sta Z Z.heap S5_ S20_ S7_ (.ref dE)) (A_D : Arv Z Z.heap dE kE (.object S8_) 0 [] .null) (a s1 : Addr) (h0 : Heap) (ga : n0 ≤ a) (O0 : Obj Z h0 a S5_ [(S13_, S27_, "I", (.int 1)), (S5_, S18_, S7_, (.ref dE)), (S5_, "size", "I", (.int 0))]) (X1 : Exa Z h0 s1 S6_) : Con 1 l Z EL_ n0 m10_ c10_ 4 none ⟨3, 1, 10, 41⟩ #[(.ref a), (.ref s1), (.ref dE), (.int 0)] [] h0 (fun v h D' => v = none ∧ ∃ b k, (h0.size ≤ b ∧ n0 ≤ b) ∧ Keep h0 h [a, b] ∧ (Obj Z h a S5_ [(S13_, S27_, "I", (.int 1)), (S5_, S18_, S7_, (.ref b)), (S5_, "size", "I", (.int 1))] ∧ Arv Z h b k (.object S8_) (10 : Int32) [(.ref s1), .null, .null, .null, .null, .null, .null, .null, .null, .null] .null ∧ Exa Z h b S7_ ∧ RoadKit.Ovr Z k S8_) ∧ D' = []) := by
 refine Con.of_runs (ls := #[vr a, vr s1, vr dE, vi 0]) (by decide +kernel) (ef rfl rfl) ?_
 refine Runs.iloadN (g j10 0 rfl) rfl ?_
 refine Runs.aloadN (g j10 1 rfl) rfl rfl ?_
 refine Runs.old fun O => ?_
 refine Runs.arrlen (g j10 2 rfl) (A_D.ext O.2) ?_
 refine Runs.icN (g j10 3 rfl) (teq (by decide : (0 : Int32) = (0 : Int32))).2 ?_
 refine Runs.aloadN (g j10 4 rfl) rfl rfl ?_
 refine Runs.callVW (argsL := []) (rest := []) (W := 0) (g j10 5 rfl) (wd hw 65 rfl) (declares_of (wd hw 66 rfl) (wd hw 69 rfl)) (fun s hZ => notFace_of_selects (args := #[]) (mvT hZ (wd hw 68 rfl))) (wd hw 68 rfl) (wd hw 66 rfl) (wd hw 69 rfl) (wd hw 3 rfl) (by decide) O0.1 pd_46 rfl rfl rfl rfl (by decide) (by decide) (by decide) (by decide) all0 (by decide) (own_gr0 l Z a0 hw n0 dE kE S_D A_D a _ ga O0) ?_
 rintro v h1 D1 ⟨b1, k1, rfl, g1, K1, O1, A1, E1, V1, rfl⟩ hsz
 show Runs _ _ _ _ _ _ _ _ _ _ _ _ [] h1 1 10 10 _ [(.ref b1)]
 have A2 : Arv Z h1 b1 k1 (.object S8_) (10 : Int32) [.null, .null, .null, .null, .null, .null, .null, .null, .null, .null] .null := A1.pad (pad_rep [] .null 10)
 have gb1 : n0 ≤ b1 := Nat.le_trans ga (Nat.le_trans (Nat.le_of_lt O0.lt) g1)
 have hab1 : a ≠ b1 := Nat.ne_of_lt (Nat.lt_of_lt_of_le O0.lt g1)
 refine Runs.astoreN (ls' := #[vr a, vr s1, vr b1, vi 0]) (g j10 6 rfl) rfl rfl ?_
 refine Runs.aloadN (g j10 7 rfl) rfl rfl ?_
 refine Runs.iloadN (g j10 8 rfl) rfl ?_
 refine Runs.aloadN (g j10 9 rfl) rfl rfl ?_
 refine Runs.aastore (i := 0) (g j10 10 rfl) A2 rfl ⟨by decide, by decide⟩ (by decide) (Nat.le_of_ble_eq_true rfl) (own_sto A2 V1 (Jvm.RoadKit.Ins.of_exa (X1.keep K1) (wd hw 81 rfl))) rfl gb1 (Or.inr (by decide)) ?_
 intro h_1 K_2 (A_3 : Arv Z h_1 b1 k1 (.object S8_) (10 : Int32) [(.ref s1), .null, .null, .null, .null, .null, .null, .null, .null, .null] .null)
 refine Runs.aloadN (g j10 11 rfl) rfl rfl ?_
 refine Runs.iloadN (g j10 12 rfl) rfl ?_
 refine Runs.iconst (v := (1 : Int32)) (g j10 13 rfl) (by decide) ?_
 refine Runs.iadd (z := (1 : Int32)) (g j10 14 rfl) (by decide) ?_
 have O_4 := (O1.keep K_2 (ninS hab1 nin0))
 refine Runs.putF (i := 2) (ty := .int) (g j10 15 rfl) (host := "") (Or.inl (wd hw 58 rfl)) Via.refl O_4 rfl (lay_3 hw) rfl (Or.inl (wd hw 59 rfl)) (wd hw 2 rfl) (by decide) rfl rfl ga (Or.inr ⟨by decide, by decide⟩) ?_
 intro h_5 K_6 (O_7 : Obj Z h_5 a S5_ [(S13_, S27_, "I", (.int 1)), (S5_, S18_, S7_, (.ref b1)), (S5_, "size", "I", (.int 1))])
 have A_8 := (A_3.keep K_6 (ninS (Ne.symm hab1) nin0))
 exact Runs.retV (g j10 16 rfl) rfl (by decide) (by decide) ⟨rfl, b1, k1, ⟨g1, gb1⟩, ((((Keep.refl _ _).trans K1 (allS (Or.inl (mi 0 rfl)) all0)).trans K_2 (allS (Or.inl (mi 1 rfl)) all0)).trans K_6 (allS (Or.inl (mi 0 rfl)) all0)), ⟨O_7, A_8, ((E1.keep K_2).keep K_6), V1⟩, rfl⟩
theorem own_add1 (hw : Wds Z a0) (n0 : Nat) (dE : Addr) (kE : ClassId) (S_D : Sta Z Z.heap S5_ S20_ S7_ (.ref dE)) (A_D : Arv Z Z.heap dE kE (.object S8_) 0 [] .null) (a s1 : Addr) (h0 : Heap) (ga : n0 ≤ a) (O0 : Obj Z h0 a S5_ [(S13_, S27_, "I", (.int 0)), (S5_, S18_, S7_, (.ref dE)), (S5_, "size", "I", (.int 0))]) (X1 : Exa Z h0 s1 S6_) : Con 1 l Z EL_ n0 m9_ c9_ 2 (some .boolean) ⟨4, 1, 10, 56⟩ #[(.ref a), (.ref s1)] [] h0 (fun v h D' => v = some (.int 1) ∧ ∃ b k, (h0.size ≤ b ∧ n0 ≤ b) ∧ Keep h0 h [a, b] ∧ (Obj Z h a S5_ [(S13_, S27_, "I", (.int 1)), (S5_, S18_, S7_, (.ref b)), (S5_, "size", "I", (.int 1))] ∧ Arv Z h b k (.object S8_) (10 : Int32) [(.ref s1), .null, .null, .null, .null, .null, .null, .null, .null, .null] .null ∧ Exa Z h b S7_ ∧ RoadKit.Ovr Z k S8_) ∧ D' = []) := by
 refine Con.of_runs (ls := #[vr a, vr s1]) (by decide +kernel) (ef rfl rfl) ?_
 refine Runs.aloadN (g j9 0 rfl) rfl rfl ?_
 refine Runs.dup (g j9 1 rfl) rfl ?_
 refine Runs.getF (g j9 2 rfl) (host := "") (Or.inl (wd hw 56 rfl)) (Via.of (wd hw 57 rfl)) (O0.fld (i := 0) rfl) ?_
 refine Runs.iconst (v := (1 : Int32)) (g j9 3 rfl) (by decide) ?_
 refine Runs.iadd (z := (1 : Int32)) (g j9 4 rfl) (by decide) ?_
 refine Runs.putF (i := 0) (ty := .int) (g j9 5 rfl) (host := "") (Or.inl (wd hw 56 rfl)) (Via.of (wd hw 57 rfl)) O0 rfl (lay_3 hw) rfl (Or.inl (wd hw 23 rfl)) (wd hw 2 rfl) (by decide) rfl rfl ga (Or.inr ⟨by decide, by decide⟩) ?_
 intro h_1 K_2 (O_3 : Obj Z h_1 a S5_ [(S13_, S27_, "I", (.int 1)), (S5_, S18_, S7_, (.ref dE)), (S5_, "size", "I", (.int 0))])
 refine Runs.aloadN (g j9 6 rfl) rfl rfl ?_
 refine Runs.aloadN (g j9 7 rfl) rfl rfl ?_
 refine Runs.aloadN (g j9 8 rfl) rfl rfl ?_
 refine Runs.getF (g j9 9 rfl) (host := "") (Or.inl (wd hw 25 rfl)) Via.refl (O_3.fld (i := 1) rfl) ?_
 refine Runs.aloadN (g j9 10 rfl) rfl rfl ?_
 refine Runs.getF (g j9 11 rfl) (host := "") (Or.inl (wd hw 58 rfl)) Via.refl (O_3.fld (i := 2) rfl) ?_
 refine Runs.callVW (argsL := [(.ref s1), (.ref dE), (.int 0)]) (rest := []) (W := 0) (g j9 12 rfl) (wd hw 60 rfl) (declares_of (wd hw 61 rfl) (wd hw 64 rfl)) (fun s hZ => notFace_of_selects (args := #[]) (mvT hZ (wd hw 63 rfl))) (wd hw 63 rfl) (wd hw 61 rfl) (wd hw 64 rfl) (wd hw 3 rfl) (by decide) O_3.1 pd_47 rfl rfl rfl rfl (by decide) (by decide) (by decide) (by decide) all0 (by decide) (own_ad3_1 l Z a0 hw n0 dE kE S_D A_D a s1 _ ga O_3 (X1.keep K_2)) ?_
 rintro v h1 D1 ⟨rfl, b1, k1, ⟨g1, gb1⟩, K1, F1, rfl⟩ hsz
 show Runs _ _ _ _ _ _ _ _ _ _ _ _ [] h1 1 10 23 _ []
 refine Runs.iconst (v := (1 : Int32)) (g j9 13 rfl) (by decide) ?_
 exact Runs.retI (z := (1 : Int32)) (g j9 14 rfl) rfl (Or.inr (Or.inl rfl)) (by decide) (by decide) (by decide) ⟨rfl, b1, k1, ⟨Nat.le_trans K_2.1 g1, gb1⟩, ((Keep.sub K_2 (by simp)).trans K1 (allS (Or.inl (mi 0 rfl)) (allS (Or.inl (mi 1 rfl)) all0))), F1, rfl⟩
theorem own_ad3_2 (hw : Wds Z a0) (n0 : Nat) (a b s1 s2 : Addr) (k : ClassId) (h0 : Heap) (ga : n0 ≤ a) (gb : n0 ≤ b) (hab : a ≠ b) (F0 : Obj Z h0 a S5_ [(S13_, S27_, "I", (.int 2)), (S5_, S18_, S7_, (.ref b)), (S5_, "size", "I", (.int 1))] ∧ Arv Z h0 b k (.object S8_) (10 : Int32) [(.ref s1), .null, .null, .null, .null, .null, .null, .null, .null, .null] .null ∧ Exa Z h0 b S7_ ∧ RoadKit.Ovr Z k S8_) (X2 : Exa Z h0 s2 S6_) : Con 1 l Z EL_ n0 m10_ c10_ 4 none ⟨0, 0, 0, 0⟩ #[(.ref a), (.ref s2), (.ref b), (.int 1)] [] h0 (fun v h D' => v = none ∧ Keep h0 h [a, b] ∧ (Obj Z h a S5_ [(S13_, S27_, "I", (.int 2)), (S5_, S18_, S7_, (.ref b)), (S5_, "size", "I", (.int 2))] ∧ Arv Z h b k (.object S8_) (10 : Int32) [(.ref s1), (.ref s2), .null, .null, .null, .null, .null, .null, .null, .null] .null ∧ Exa Z h b S7_ ∧ RoadKit.Ovr Z k S8_) ∧ D' = []) := by
 refine Con.of_runs (ls := #[vr a, vr s2, vr b, vi 1]) (by decide +kernel) (ef rfl rfl) ?_
 obtain ⟨O0, B0, E0, V0⟩ := id F0
 refine Runs.iloadN (g j10 0 rfl) rfl ?_
 refine Runs.aloadN (g j10 1 rfl) rfl rfl ?_
 refine Runs.arrlen (g j10 2 rfl) B0 ?_
 refine Runs.icY (t := 11) (g j10 3 rfl) (by decide) (feq (by decide : ¬ ((1 : Int32) = (10 : Int32)))).2 ?_
 refine Runs.aloadN (g j10 7 rfl) rfl rfl ?_
 refine Runs.iloadN (g j10 8 rfl) rfl ?_
 refine Runs.aloadN (g j10 9 rfl) rfl rfl ?_
 refine Runs.aastore (i := 1) (g j10 10 rfl) B0 rfl ⟨by decide, by decide⟩ (by decide) (Nat.le_of_ble_eq_true rfl) (own_sto B0 V0 (Jvm.RoadKit.Ins.of_exa X2 (wd hw 81 rfl))) rfl gb (Or.inr (by decide)) ?_
 intro h_1 K_2 (A_3 : Arv Z h_1 b k (.object S8_) (10 : Int32) [(.ref s1), (.ref s2), .null, .null, .null, .null, .null, .null, .null, .null] .null)
 refine Runs.aloadN (g j10 11 rfl) rfl rfl ?_
 refine Runs.iloadN (g j10 12 rfl) rfl ?_
 refine Runs.iconst (v := (1 : Int32)) (g j10 13 rfl) (by decide) ?_
 refine Runs.iadd (z := (2 : Int32)) (g j10 14 rfl) (by decide) ?_
 have O_4 := (O0.keep K_2 (ninS hab nin0))
 refine Runs.putF (i := 2) (ty := .int) (g j10 15 rfl) (host := "") (Or.inl (wd hw 58 rfl)) Via.refl O_4 rfl (lay_3 hw) rfl (Or.inl (wd hw 59 rfl)) (wd hw 2 rfl) (by decide) rfl rfl ga (Or.inr ⟨by decide, by decide⟩) ?_
 intro h_5 K_6 (O_7 : Obj Z h_5 a S5_ [(S13_, S27_, "I", (.int 2)), (S5_, S18_, S7_, (.ref b)), (S5_, "size", "I", (.int 2))])
 have A_8 := (A_3.keep K_6 (ninS (Ne.symm hab) nin0))
 exact Runs.retV (g j10 16 rfl) rfl (by decide) (by decide) ⟨rfl, (((Keep.refl _ _).trans K_2 (allS (Or.inl (mi 1 rfl)) all0)).trans K_6 (allS (Or.inl (mi 0 rfl)) all0)), ⟨O_7, A_8, ((E0.keep K_2).keep K_6), V0⟩, rfl⟩
theorem own_add2 (hw : Wds Z a0) (n0 : Nat) (a b s1 s2 : Addr) (k : ClassId) (h0 : Heap) (ga : n0 ≤ a) (gb : n0 ≤ b) (hab : a ≠ b) (F0 : Obj Z h0 a S5_ [(S13_, S27_, "I", (.int 1)), (S5_, S18_, S7_, (.ref b)), (S5_, "size", "I", (.int 1))] ∧ Arv Z h0 b k (.object S8_) (10 : Int32) [(.ref s1), .null, .null, .null, .null, .null, .null, .null, .null, .null] .null ∧ Exa Z h0 b S7_ ∧ RoadKit.Ovr Z k S8_) (X2 : Exa Z h0 s2 S6_) : Con 1 l Z EL_ n0 m9_ c9_ 2 (some .boolean) ⟨1, 0, 0, 15⟩ #[(.ref a), (.ref s2)] [] h0 (fun v h D' => v = some (.int 1) ∧ Keep h0 h [a, b] ∧ (Obj Z h a S5_ [(S13_, S27_, "I", (.int 2)), (S5_, S18_, S7_, (.ref b)), (S5_, "size", "I", (.int 2))] ∧ Arv Z h b k (.object S8_) (10 : Int32) [(.ref s1), (.ref s2), .null, .null, .null, .null, .null, .null, .null, .null] .null ∧ Exa Z h b S7_ ∧ RoadKit.Ovr Z k S8_) ∧ D' = []) := by
 refine Con.of_runs (ls := #[vr a, vr s2]) (by decide +kernel) (ef rfl rfl) ?_
 obtain ⟨O0, B0, E0, V0⟩ := id F0
 refine Runs.aloadN (g j9 0 rfl) rfl rfl ?_
 refine Runs.dup (g j9 1 rfl) rfl ?_
 refine Runs.getF (g j9 2 rfl) (host := "") (Or.inl (wd hw 56 rfl)) (Via.of (wd hw 57 rfl)) (O0.fld (i := 0) rfl) ?_
 refine Runs.iconst (v := (1 : Int32)) (g j9 3 rfl) (by decide) ?_
 refine Runs.iadd (z := (2 : Int32)) (g j9 4 rfl) (by decide) ?_
 refine Runs.putF (i := 0) (ty := .int) (g j9 5 rfl) (host := "") (Or.inl (wd hw 56 rfl)) (Via.of (wd hw 57 rfl)) O0 rfl (lay_3 hw) rfl (Or.inl (wd hw 23 rfl)) (wd hw 2 rfl) (by decide) rfl rfl ga (Or.inr ⟨by decide, by decide⟩) ?_
 intro h_1 K_2 (O_3 : Obj Z h_1 a S5_ [(S13_, S27_, "I", (.int 2)), (S5_, S18_, S7_, (.ref b)), (S5_, "size", "I", (.int 1))])
 refine Runs.aloadN (g j9 6 rfl) rfl rfl ?_
 refine Runs.aloadN (g j9 7 rfl) rfl rfl ?_
 refine Runs.aloadN (g j9 8 rfl) rfl rfl ?_
 refine Runs.getF (g j9 9 rfl) (host := "") (Or.inl (wd hw 25 rfl)) Via.refl (O_3.fld (i := 1) rfl) ?_
 refine Runs.aloadN (g j9 10 rfl) rfl rfl ?_
 refine Runs.getF (g j9 11 rfl) (host := "") (Or.inl (wd hw 58 rfl)) Via.refl (O_3.fld (i := 2) rfl) ?_
 have A_4 := (B0.keep K_2 (ninS (Ne.symm hab) nin0))
 refine Runs.callVW (argsL := [(.ref s2), (.ref b), (.int 1)]) (rest := []) (W := 0) (g j9 12 rfl) (wd hw 60 rfl) (declares_of (wd hw 61 rfl) (wd hw 64 rfl)) (fun s hZ => notFace_of_selects (args := #[]) (mvT hZ (wd hw 63 rfl))) (wd hw 63 rfl) (wd hw 61 rfl) (wd hw 64 rfl) (wd hw 3 rfl) (by decide) O_3.1 pd_47 rfl rfl rfl rfl (by decide) (by decide) (by decide) (by decide) all0 (by decide) (own_ad3_2 l Z a0 hw n0 a b s1 s2 k _ ga gb hab ⟨O_3, A_4, (E0.keep K_2), V0⟩ (X2.keep K_2)) ?_
 rintro v h1 D1 ⟨rfl, K1, F1, rfl⟩ hsz
 show Runs _ _ _ _ _ _ _ _ _ _ _ _ [] h1 0 0 23 _ []
 refine Runs.iconst (v := (1 : Int32)) (g j9 13 rfl) (by decide) ?_
 exact Runs.retI (z := (1 : Int32)) (g j9 14 rfl) rfl (Or.inr (Or.inl rfl)) (by decide) (by decide) (by decide) ⟨rfl, (((Keep.refl _ _).trans K_2 (allS (Or.inl (mi 0 rfl)) all0)).trans K1 (allS (Or.inl (mi 0 rfl)) (allS (Or.inl (mi 1 rfl)) all0))), F1, rfl⟩
/-- an ArrayList is no K: K is met on no way up, and is no interface -/
theorem own_noi {Z : State} {a0 : Array Value} {K : String} {t : ClassId} {kt : Class} (hw : Wds Z a0) (g1 : Z.vm.findClass K = some t) (g2 : Z.vm.classes[t]? = some kt) (gi : kt.isInterface = false) (n1 : S5_ ≠ K) (n2 : S13_ ≠ K) (n3 : "java/util/AbstractCollection" ≠ K) (n4 : S8_ ≠ K) : ∃ c t, Z.vm.findClass S5_ = some c ∧ Z.vm.findClass K = some t ∧ Z.vm.assignable c t = false := by
 obtain ⟨c0, k0, f1, f2, f3, -, -⟩ := Cond.noSuperclass_spec (wd hw 106 rfl)
 obtain ⟨c3, h3⟩ := RoadKit.found_sup (wd hw 105 rfl)
 obtain ⟨p3, k3, kp3, e31, e32, e33, e34, e35, -, e37⟩ := Cond.superclass_spec h3 (wd hw 105 rfl)
 cases f1.symm.trans e31
 obtain ⟨c2, h2⟩ := RoadKit.found_sup (wd hw 104 rfl)
 obtain ⟨p2, k2, kp2, e21, e22, e23, e24, e25, -, e27⟩ := Cond.superclass_spec h2 (wd hw 104 rfl)
 cases h3.symm.trans e21
 obtain ⟨c1, h1⟩ := RoadKit.found_sup (wd hw 103 rfl)
 obtain ⟨p1, k1, kp1, e11, e12, e13, e14, e15, -, e17⟩ := Cond.superclass_spec h1 (wd hw 103 rfl)
 cases h2.symm.trans e11
 have m1 := RoadKit.ids_ne h1 g1 n1
 have m2 := RoadKit.ids_ne h2 g1 n2
 have m3 := RoadKit.ids_ne h3 g1 n3
 have m4 := RoadKit.ids_ne f1 g1 n4
 have key0 : ∀ fuel, Z.vm.isSubclassAux fuel c0 t = false := fun fuel => by
   cases fuel with
   | zero => rfl
   | succ f => simp [Vm.isSubclassAux, m4, f2, f3]
 have key3 : ∀ fuel, Z.vm.isSubclassAux fuel c3 t = false := fun fuel => by
   cases fuel with
   | zero => rfl
   | succ f => simp [Vm.isSubclassAux, m3, e32, e34, key0]
 have key2 : ∀ fuel, Z.vm.isSubclassAux fuel c2 t = false := fun fuel => by
   cases fuel with
   | zero => rfl
   | succ f => simp [Vm.isSubclassAux, m2, e22, e24, key3]
 have key1 : ∀ fuel, Z.vm.isSubclassAux fuel c1 t = false := fun fuel => by
   cases fuel with
   | zero => rfl
   | succ f => simp [Vm.isSubclassAux, m1, e12, e14, key2]
 refine ⟨c1, t, h1, g1, ?_⟩
 show Z.vm.assignableAux (255 + 1) c1 t = false
 cases hk : kt.kind <;> simp [Vm.assignableAux, m1, e12, g2, e15, hk, gi, Vm.isSubclass, key1]
theorem own_no12 {Z : State} {a0 : Array Value} (hw : Wds Z a0) : ∃ c t, Z.vm.findClass S5_ = some c ∧ Z.vm.findClass S4_ = some t ∧ Z.vm.assignable c t = false := by
 obtain ⟨t, kt, g1, g2, g3, g4, -⟩ := Cond.instantiable_spec (wd hw 151 rfl)
 exact own_noi hw g1 g2 (by simp only [Bool.or_eq_false_iff] at g4; exact g4.1) (by decide) (by decide) (by decide) (by decide)
theorem own_noN {Z : State} {a0 : Array Value} (hw : Wds Z a0) : ∃ c t, Z.vm.findClass S5_ = some c ∧ Z.vm.findClass S15_ = some t ∧ Z.vm.assignable c t = false := by
 obtain ⟨c, r, m, -, -, q3, -, mk, q5, q6⟩ := Cond.selects_spec (wd hw 505 rfl)
 have g1 := findClass_of_methodNamed q3
 exact own_noi hw g1 q5 q6 (by decide) (by decide) (by decide) (by decide)
theorem own_emp0 (hw : Wds Z a0) (n0 : Nat) (a dE : Addr) (h0 : Heap) (O0 : Obj Z h0 a S5_ [(S13_, S27_, "I", (.int 0)), (S5_, S18_, S7_, (.ref dE)), (S5_, "size", "I", (.int 0))]) : Con 1 l Z EL_ n0 m18_ c18_ 1 (some .boolean) ⟨0, 0, 0, 0⟩ #[(.ref a)] [] h0 (fun v h D' => v = some (.int 1) ∧ h0 = h ∧ D' = []) := by
 refine Con.of_runs (ls := #[vr a]) (by decide +kernel) (ef rfl rfl) ?_
 refine Runs.aloadN (g j18 0 rfl) rfl rfl ?_
 refine Runs.getF (g j18 1 rfl) (host := "") (Or.inl (wd hw 58 rfl)) Via.refl (O0.fld (i := 2) rfl) ?_
 refine Runs.ifN (g j18 2 rfl) (teq (by decide : (0 : Int32) = (0 : Int32))).2 ?_
 refine Runs.iconst (v := (1 : Int32)) (g j18 3 rfl) (by decide) ?_
 refine Runs.goto (t := 12) (g j18 4 rfl) (by decide) ?_
 exact Runs.retI (z := (1 : Int32)) (g j18 6 rfl) rfl (Or.inr (Or.inl rfl)) (by decide) (by decide) (by decide) ⟨rfl, rfl, rfl⟩
theorem own_lof0 (hw : Wds Z a0) (n0 : Nat) (eL : Addr) (S_E : Sta Z Z.heap S12_ "EMPTY_LIST" S19_ (.ref eL)) (h0 : Heap) : Con 1 l Z EL_ n0 (⟨S26_, "of", "()Ljava/util/List;"⟩ : MethodName) c75_ 0 (some (.object S26_)) ⟨0, 0, 0, 0⟩ #[] [] h0 (fun v h D' => v = some (.ref eL) ∧ h0 = h ∧ D' = []) := by
 refine Con.of_runs (ls := #[]) (by decide +kernel) (ef rfl rfl) ?_
 refine Runs.getS (g j75 0 rfl) (wd hw 471 rfl) Via.refl S_E ?_
 exact Runs.retA (g j75 1 rfl) rfl rfl rfl (by decide) (by decide) ⟨rfl, rfl, rfl⟩
theorem own_lcp0 (hw : Wds Z a0) (n0 : Nat) (a dE : Addr) (h0 : Heap) (O0 : Obj Z h0 a S5_ [(S13_, S27_, "I", (.int 0)), (S5_, S18_, S7_, (.ref dE)), (S5_, "size", "I", (.int 0))]) (eL : Addr) (S_E : Sta Z Z.heap S12_ "EMPTY_LIST" S19_ (.ref eL)) : Con 1 l Z EL_ n0 m17_ c17_ 2 (some (.object S26_)) ⟨1, 0, 0, 12⟩ #[(.ref a)] [] h0 (fun v h D' => v = some (.ref eL) ∧ h0 = h ∧ D' = []) := by
 refine Con.of_runs (ls := #[vr a, .unset]) (by decide +kernel) (ef rfl rfl) ?_
 refine Runs.aloadN (g j17 0 rfl) rfl rfl ?_
 refine Runs.instN (g j17 1 rfl) (wd hw 102 rfl) O0.1 (own_no12 hw) ?_
 refine Runs.ifN (g j17 2 rfl) (teq (by decide : (0 : Int32) = (0 : Int32))).2 ?_
 refine Runs.aloadN (g j17 3 rfl) rfl rfl ?_
 refine Runs.instN (g j17 4 rfl) (wd hw 107 rfl) O0.1 (own_noN hw) ?_
 refine Runs.ifY (t := 31) (g j17 5 rfl) (by decide) (teq (by decide : (0 : Int32) = (0 : Int32))).1 ?_
 refine Runs.aloadN (g j17 6 rfl) rfl rfl ?_
 refine Runs.callIW (argsL := []) (rest := []) (W := 0) (g j17 7 rfl) (wd hw 108 rfl) (wd hw 109 rfl) (wd hw 110 rfl) (wd hw 111 rfl) (wd hw 112 rfl) (wd hw 113 rfl) (wd hw 114 rfl) (wd hw 115 rfl) (wd hw 116 rfl) (wd hw 3 rfl) (by decide) O0.1 pd_7 rfl rfl rfl rfl (by decide) (by decide) (by decide) (by decide) all0 (by decide) (own_emp0 l Z a0 hw n0 a dE _ O0) ?_
 rintro v h1 D1 ⟨rfl, rfl, rfl⟩ hsz
 show Runs _ _ _ _ _ _ _ _ _ _ _ _ [] h0 0 0 37 _ [(.int 1)]
 refine Runs.ifN (g j17 8 rfl) (feq (by decide : ¬ ((1 : Int32) = (0 : Int32)))).1 ?_
 refine Runs.callSW (argsL := []) (rest := []) (W := 0) (g j17 9 rfl) (wd hw 468 rfl) (wd hw 469 rfl) (wd hw 96 rfl) (wd hw 470 rfl) (by decide) pd_48 rfl rfl rfl rfl (by decide) (by decide) (by decide) (by decide) all0 (by decide) (own_lof0 l Z a0 hw n0 eL S_E _) ?_
 rintro v h1 D1 ⟨rfl, rfl, rfl⟩ hsz
 show Runs _ _ _ _ _ _ _ _ _ _ _ _ [] h0 0 0 43 _ [(.ref eL)]
 exact Runs.retA (g j17 10 rfl) rfl rfl rfl (by decide) (by decide) ⟨rfl, rfl, rfl⟩
theorem own_lco0 (hw : Wds Z a0) (n0 : Nat) (a dE : Addr) (h0 : Heap) (O0 : Obj Z h0 a S5_ [(S13_, S27_, "I", (.int 0)), (S5_, S18_, S7_, (.ref dE)), (S5_, "size", "I", (.int 0))]) (eL : Addr) (S_E : Sta Z Z.heap S12_ "EMPTY_LIST" S19_ (.ref eL)) : Con 1 l Z EL_ n0 m16_ c16_ 1 (some (.object S26_)) ⟨2, 0, 0, 25⟩ #[(.ref a)] [] h0 (fun v h D' => v = some (.ref eL) ∧ h0 = h ∧ D' = []) := by
 refine Con.of_runs (ls := #[vr a]) (by decide +kernel) (ef rfl rfl) ?_
 refine Runs.aloadN (g j16 0 rfl) rfl rfl ?_
 refine Runs.callSW (argsL := [(.ref a)]) (rest := []) (W := 0) (g j16 1 rfl) (wd hw 98 rfl) (wd hw 99 rfl) (wd hw 100 rfl) (wd hw 101 rfl) (by decide) pd_49 rfl rfl rfl rfl (by decide) (by decide) (by decide) (by decide) all0 (by decide) (own_lcp0 l Z a0 hw n0 a dE _ O0 eL S_E) ?_
 rintro v h1 D1 ⟨rfl, rfl, rfl⟩ hsz
 show Runs _ _ _ _ _ _ _ _ _ _ _ _ [] h0 0 0 4 _ [(.ref eL)]
 exact Runs.retA (g j16 2 rfl) rfl rfl rfl (by decide) (by decide) ⟨rfl, rfl, rfl⟩
theorem own_cR (hw : Wds Z a0) (n0 : Nat) (a : Addr) (h0 : Heap) : Con 1 l Z EL_ n0 (⟨"java/lang/Record", "<init>", "()V"⟩ : MethodName) c15_ 1 none ⟨1, 0, 0, 12⟩ #[(.ref a)] [] h0 (fun v h D' => v = none ∧ h0 = h ∧ D' = []) := by
 refine Con.of_runs (ls := #[vr a]) (by decide +kernel) (ef rfl rfl) ?_
 refine Runs.aloadN (g j15 0 rfl) rfl rfl ?_
 refine Runs.initO (W := 0) (g j15 1 rfl) (wd hw 93 rfl) (wd hw 20 rfl) (wd hw 21 rfl) rfl (by decide) rfl (by decide) ?_
 exact Runs.retV (g j15 2 rfl) rfl (by decide) (by decide) ⟨rfl, rfl, rfl⟩
theorem own_cli0 (hw : Wds Z a0) (n0 : Nat) (r q0 q1 q2 : Addr) (z : Int32) (hz : z = 0 ∨ z = 1) (a dE : Addr) (h0 : Heap) (O0 : Obj Z h0 a S5_ [(S13_, S27_, "I", (.int 0)), (S5_, S18_, S7_, (.ref dE)), (S5_, "size", "I", (.int 0))]) (eL : Addr) (S_E : Sta Z Z.heap S12_ "EMPTY_LIST" S19_ (.ref eL)) (gr : n0 ≤ r) (OR : Obj Z h0 r S1_ [(S1_, "clientId", S11_, .null), (S1_, "clientName", S11_, .null), (S1_, S24_, S11_, .null), (S1_, S25_, S16_, .null), (S1_, S23_, "Z", (.int 0))]) : Con 1 l Z EL_ n0 m14_ c14_ 6 none ⟨3, 0, 0, 37⟩ #[(.ref r), (.ref q0), (.ref q1), (.ref q2), (.ref a), (.int z)] [] h0 (fun v h D' => v = none ∧ Keep h0 h [r] ∧ Obj Z h r S1_ [(S1_, "clientId", S11_, (.ref q0)), (S1_, "clientName", S11_, (.ref q1)), (S1_, S24_, S11_, (.ref q2)), (S1_, S25_, S16_, (.ref eL)), (S1_, S23_, "Z", (.int z))] ∧ D' = []) := by
 refine Con.of_runs (ls := #[vr r, vr q0, vr q1, vr q2, vr a, vi z]) (by decide +kernel) (ef rfl rfl) ?_
 refine Runs.aloadN (g j14 0 rfl) rfl rfl ?_
 refine Runs.callCW (argsL := []) (rest := []) (W := 0) (g j14 1 rfl) rfl (wd hw 88 rfl) (wd hw 89 rfl) (wd hw 92 rfl) (wd hw 91 rfl) (by decide) pd_10 rfl rfl rfl rfl (by decide) (by decide) (by decide) (by decide) all0 (by decide) (own_cR l Z a0 hw n0 r _) ?_
 rintro v h1 D1 ⟨rfl, rfl, rfl⟩ hsz
 show Runs _ _ _ _ _ _ _ _ _ _ _ _ [] h0 0 0 4 _ []
 refine Runs.aload (g j14 2 rfl) rfl rfl ?_
 refine Runs.callSW (argsL := [(.ref a)]) (rest := []) (W := 0) (g j14 3 rfl) (wd hw 94 rfl) (wd hw 95 rfl) (wd hw 96 rfl) (wd hw 97 rfl) (by decide) pd_49 rfl rfl rfl rfl (by decide) (by decide) (by decide) (by decide) all0 (by decide) (own_lco0 l Z a0 hw n0 a dE _ O0 eL S_E) ?_
 rintro v h1 D1 ⟨rfl, rfl, rfl⟩ hsz
 show Runs _ _ _ _ _ _ _ _ _ _ _ _ [] h0 0 0 9 _ [(.ref eL)]
 refine Runs.astore (ls' := #[vr r, vr q0, vr q1, vr q2, vr eL, vi z]) (g j14 4 rfl) rfl rfl ?_
 refine Runs.aloadN (g j14 5 rfl) rfl rfl ?_
 refine Runs.aloadN (g j14 6 rfl) rfl rfl ?_
 refine Runs.putF (i := 0) (ty := (.object S6_)) (g j14 7 rfl) (host := "") (Or.inl (wd hw 180 rfl)) Via.refl OR rfl (lay_4 hw) rfl (Or.inr ⟨(wd hw 181 rfl), rfl, rfl⟩) (wd hw 83 rfl) (by decide) rfl rfl gr (Or.inr ⟨by decide, by decide⟩) ?_
 intro h_1 K_2 (O_3 : Obj Z h_1 r S1_ [(S1_, "clientId", S11_, (.ref q0)), (S1_, "clientName", S11_, .null), (S1_, S24_, S11_, .null), (S1_, S25_, S16_, .null), (S1_, S23_, "Z", (.int 0))])
 refine Runs.aloadN (g j14 8 rfl) rfl rfl ?_
 refine Runs.aloadN (g j14 9 rfl) rfl rfl ?_
 refine Runs.putF (i := 1) (ty := (.object S6_)) (g j14 10 rfl) (host := "") (Or.inl (wd hw 182 rfl)) Via.refl O_3 rfl (lay_4 hw) rfl (Or.inr ⟨(wd hw 183 rfl), rfl, rfl⟩) (wd hw 83 rfl) (by decide) rfl rfl gr (Or.inr ⟨by decide, by decide⟩) ?_
 intro h_4 K_5 (O_6 : Obj Z h_4 r S1_ [(S1_, "clientId", S11_, (.ref q0)), (S1_, "clientName", S11_, (.ref q1)), (S1_, S24_, S11_, .null), (S1_, S25_, S16_, .null), (S1_, S23_, "Z", (.int 0))])
 refine Runs.aloadN (g j14 11 rfl) rfl rfl ?_
 refine Runs.aloadN (g j14 12 rfl) rfl rfl ?_
 refine Runs.putF (i := 2) (ty := (.object S6_)) (g j14 13 rfl) (host := "") (Or.inl (wd hw 184 rfl)) Via.refl O_6 rfl (lay_4 hw) rfl (Or.inr ⟨(wd hw 185 rfl), rfl, rfl⟩) (wd hw 83 rfl) (by decide) rfl rfl gr (Or.inr ⟨by decide, by decide⟩) ?_
 intro h_7 K_8 (O_9 : Obj Z h_7 r S1_ [(S1_, "clientId", S11_, (.ref q0)), (S1_, "clientName", S11_, (.ref q1)), (S1_, S24_, S11_, (.ref q2)), (S1_, S25_, S16_, .null), (S1_, S23_, "Z", (.int 0))])
 refine Runs.aloadN (g j14 14 rfl) rfl rfl ?_
 refine Runs.aload (g j14 15 rfl) rfl rfl ?_
 refine Runs.putF (i := 3) (ty := (.object S26_)) (g j14 16 rfl) (host := "") (Or.inl (wd hw 186 rfl)) Via.refl O_9 rfl (lay_4 hw) rfl (Or.inr ⟨(wd hw 187 rfl), rfl, rfl⟩) (wd hw 83 rfl) (by decide) rfl rfl gr (Or.inr ⟨by decide, by decide⟩) ?_
 intro h_10 K_11 (O_12 : Obj Z h_10 r S1_ [(S1_, "clientId", S11_, (.ref q0)), (S1_, "clientName", S11_, (.ref q1)), (S1_, S24_, S11_, (.ref q2)), (S1_, S25_, S16_, (.ref eL)), (S1_, S23_, "Z", (.int 0))])
 refine Runs.aloadN (g j14 17 rfl) rfl rfl ?_
 refine Runs.iload (g j14 18 rfl) rfl ?_
 refine Runs.putF (i := 4) (ty := .boolean) (g j14 19 rfl) (host := "") (Or.inl (wd hw 188 rfl)) Via.refl O_12 rfl (lay_4 hw) rfl (Or.inr ⟨(wd hw 189 rfl), rfl, rfl⟩) (wd hw 83 rfl) (by decide) (by rcases hz with rfl | rfl <;> rfl) (by rcases hz with rfl | rfl <;> rfl) gr (Or.inr ⟨by decide, by decide⟩) ?_
 intro h_13 K_14 (O_15 : Obj Z h_13 r S1_ [(S1_, "clientId", S11_, (.ref q0)), (S1_, "clientName", S11_, (.ref q1)), (S1_, S24_, S11_, (.ref q2)), (S1_, S25_, S16_, (.ref eL)), (S1_, S23_, "Z", (.int z))])
 exact Runs.retV (g j14 20 rfl) rfl (by decide) (by decide) ⟨rfl, ((((((Keep.refl _ _).trans K_2 (allS (Or.inl (mi 0 rfl)) all0)).trans K_5 (allS (Or.inl (mi 0 rfl)) all0)).trans K_8 (allS (Or.inl (mi 0 rfl)) all0)).trans K_11 (allS (Or.inl (mi 0 rfl)) all0)).trans K_14 (allS (Or.inl (mi 0 rfl)) all0)), O_15, rfl⟩
theorem own_cpc1 (hw : Wds Z a0) (n0 : Nat) (b : Addr) (k : ClassId) (s1 : Addr) (h0 : Heap) (B0 : Arv Z h0 b k (.object S8_) (10 : Int32) [(.ref s1), .null, .null, .null, .null, .null, .null, .null, .null, .null] .null) (E0 : Exa Z h0 b S7_) (hn0 : n0 ≤ h0.size) (X1 : Exa Z h0 s1 S6_) (mr : Addr) (M : RoadKit.Mir Z S7_ mr) : Con 1 l Z EL_ n0 m21_ c21_ 4 (some (.array (.object S8_))) ⟨1, 1, 1, 40⟩ #[(.ref b), (.int 1), (.ref mr)] [] h0 (fun v h D' => ∃ c kc, v = some (.ref c) ∧ h0.size ≤ c ∧ Keep h0 h [] ∧ Arv Z h c kc (.object S8_) (1 : Int32) [(.ref s1)] .null ∧ D' = []) := by
 refine Con.of_runs (ls := #[vr b, vi 1, vr mr, .unset]) (by decide +kernel) (ef rfl rfl) ?_
 refine Runs.aloadN (g j21 0 rfl) rfl rfl ?_
 refine Runs.ldcMir (g j21 1 rfl) (wd hw 138 rfl) M ?_
 refine Runs.acN (g j21 2 rfl) rfl rfl (Jvm.Free.XT.aa_ne_f (congrArg Value.ref rfl)) ?_
 refine Runs.iloadN (g j21 3 rfl) rfl ?_
 refine Runs.newA (cap := 1) (ad := S7_) (g j21 4 rfl) (wd hw 139 rfl) (wd hw 80 rfl) (by decide) (by decide) (by decide) (by decide) (by decide) rfl ?_
 intro h_1 c_2 k_3 g_6 ge_7 K_4 A_5 E_8 V_9
 have A_10 : Arv Z h_1 c_2 k_3 (.object S8_) (1 : Int32) [.null] .null := A_5.pad (pad_rep [] .null 1)
 refine Runs.goto (t := 24) (g j21 5 rfl) (by decide) ?_
 refine Runs.astoreN (ls' := #[vr b, vi 1, vr mr, vr c_2]) (g j21 6 rfl) rfl rfl ?_
 refine Runs.aloadN (g j21 7 rfl) rfl rfl ?_
 refine Runs.iconst (v := (0 : Int32)) (g j21 8 rfl) (by decide) ?_
 refine Runs.aloadN (g j21 9 rfl) rfl rfl ?_
 refine Runs.iconst (v := (0 : Int32)) (g j21 10 rfl) (by decide) ?_
 refine Runs.aloadN (g j21 11 rfl) rfl rfl ?_
 have A_11 := (B0.keep K_4 nin0)
 refine Runs.arrlen (g j21 12 rfl) A_11 ?_
 refine Runs.iloadN (g j21 13 rfl) rfl ?_
 refine Runs.callSW (argsL := [(.int 10), (.int 1)]) (rest := [(.int 0), (.ref c_2), (.int 0), (.ref b)]) (W := 4) (g j21 14 rfl) (wd hw 140 rfl) (wd hw 141 rfl) (wd hw 77 rfl) (wd hw 142 rfl) (by decide) pd_30 rfl rfl rfl rfl (by decide) (by decide) (by decide) (by decide) all0 (by decide) (own_min l Z a0 hw n0 10 1 (by decide) (by decide) _) ?_
 rintro v h1 D1 ⟨rfl, rfl, rfl⟩ hsz
 show Runs _ _ _ _ _ _ _ _ _ _ _ _ [c_2] h_1 1 1 35 _ [(.int 1), (.int 0), (.ref c_2), (.int 0), (.ref b)]
 refine Runs.acopyR (W := 0) (us := [(.ref s1)]) (g j21 15 rfl) (wd hw 143 rfl) (wd hw 146 rfl) (wd hw 144 rfl) (wd hw 145 rfl) A_11 A_10 ⟨rfl, rfl, ⟨own_sto A_10 V_9 (Jvm.RoadKit.Ins.of_exa (X1.keep K_4) (wd hw 81 rfl)), trivial⟩⟩ (by decide) (by decide) (by decide) (by decide) (by decide) rfl (Nat.le_of_ble_eq_true rfl) ge_7 (Or.inr (by decide)) rfl (by decide) rfl (by decide) ?_
 intro h_12 K_13 (A_14 : Arv Z h_12 c_2 k_3 (.object S8_) (1 : Int32) [(.ref s1)] .null)
 refine Runs.aloadN (g j21 16 rfl) rfl rfl ?_
 refine Runs.weak (D1 := []) (fun _ q => nomatch q) ?_
 exact Runs.retA (g j21 17 rfl) rfl rfl rfl (by decide) (by decide) ⟨c_2, k_3, rfl, g_6, (((Keep.refl _ _).trans K_4 all0).trans K_13 (allS (Or.inr (Nat.le_trans (Nat.le_refl _) g_6)) all0)), A_14, rfl⟩
theorem own_cpr1 (hw : Wds Z a0) (n0 : Nat) (b : Addr) (k : ClassId) (s1 : Addr) (h0 : Heap) (B0 : Arv Z h0 b k (.object S8_) (10 : Int32) [(.ref s1), .null, .null, .null, .null, .null, .null, .null, .null, .null] .null) (E0 : Exa Z h0 b S7_) (hn0 : n0 ≤ h0.size) (X1 : Exa Z h0 s1 S6_) (mr : Addr) (M : RoadKit.Mir Z S7_ mr) : Con 1 l Z EL_ n0 m20_ c20_ 2 (some (.array (.object S8_))) ⟨2, 1, 1, 55⟩ #[(.ref b), (.int 1)] [] h0 (fun v h D' => ∃ c kc, v = some (.ref c) ∧ h0.size ≤ c ∧ Keep h0 h [] ∧ Arv Z h c kc (.object S8_) (1 : Int32) [(.ref s1)] .null ∧ D' = []) := by
 refine Con.of_runs (ls := #[vr b, vi 1]) (by decide +kernel) (ef rfl rfl) ?_
 refine Runs.aloadN (g j20 0 rfl) rfl rfl ?_
 refine Runs.iloadN (g j20 1 rfl) rfl ?_
 refine Runs.aloadN (g j20 2 rfl) rfl rfl ?_
 refine Runs.gcls (W := 2) (g j20 3 rfl) (wd hw 129 rfl) (wd hw 130 rfl) (wd hw 106 rfl) (wd hw 132 rfl) (wd hw 131 rfl) (wd hw 133 rfl) E0 M rfl (by decide) rfl (by decide) ?_
 refine Runs.callSW (argsL := [(.ref b), (.int 1), (.ref mr)]) (rest := []) (W := 0) (g j20 4 rfl) (wd hw 135 rfl) (wd hw 136 rfl) (wd hw 127 rfl) (wd hw 137 rfl) (by decide) pd_50 rfl rfl rfl rfl (by decide) (by decide) (by decide) (by decide) all0 (by decide) (own_cpc1 l Z a0 hw n0 b k s1 _ B0 E0 hn0 X1 mr M) ?_
 rintro v h1 D1 ⟨c1, k1, rfl, g1, K1, A1, rfl⟩ hsz
 show Runs _ _ _ _ _ _ _ _ _ _ _ _ [] h1 1 1 9 _ [(.ref c1)]
 exact Runs.retA (g j20 5 rfl) rfl rfl rfl (by decide) (by decide) ⟨c1, k1, rfl, g1, K1, A1, rfl⟩
theorem own_toa1 (hw : Wds Z a0) (n0 : Nat) (a b : Addr) (k : ClassId) (s1 : Addr) (h0 : Heap) (F0 : Obj Z h0 a S5_ [(S13_, S27_, "I", (.int 1)), (S5_, S18_, S7_, (.ref b)), (S5_, "size", "I", (.int 1))] ∧ Arv Z h0 b k (.object S8_) (10 : Int32) [(.ref s1), .null, .null, .null, .null, .null, .null, .null, .null, .null] .null ∧ Exa Z h0 b S7_ ∧ RoadKit.Ovr Z k S8_) (X1 : Exa Z h0 s1 S6_) (hn0 : n0 ≤ h0.size) (mr : Addr) (M : RoadKit.Mir Z S7_ mr) : Con 1 l Z EL_ n0 m19_ c19_ 1 (some (.array (.object S8_))) ⟨3, 1, 1, 68⟩ #[(.ref a)] [] h0 (fun v h D' => ∃ c kc, v = some (.ref c) ∧ h0.size ≤ c ∧ Keep h0 h [] ∧ Arv Z h c kc (.object S8_) (1 : Int32) [(.ref s1)] .null ∧ D' = []) := by
 refine Con.of_runs (ls := #[vr a]) (by decide +kernel) (ef rfl rfl) ?_
 refine Runs.aloadN (g j19 0 rfl) rfl rfl ?_
 refine Runs.getF (g j19 1 rfl) (host := "") (Or.inl (wd hw 25 rfl)) Via.refl (F0.1.fld (i := 1) rfl) ?_
 refine Runs.aloadN (g j19 2 rfl) rfl rfl ?_
 refine Runs.getF (g j19 3 rfl) (host := "") (Or.inl (wd hw 58 rfl)) Via.refl (F0.1.fld (i := 2) rfl) ?_
 refine Runs.callSW (argsL := [(.ref b), (.int 1)]) (rest := []) (W := 0) (g j19 4 rfl) (wd hw 125 rfl) (wd hw 126 rfl) (wd hw 127 rfl) (wd hw 128 rfl) (by decide) pd_51 rfl rfl rfl rfl (by decide) (by decide) (by decide) (by decide) all0 (by decide) (own_cpr1 l Z a0 hw n0 b k s1 _ F0.2.1 F0.2.2.1 hn0 X1 mr M) ?_
 rintro v h1 D1 ⟨c1, k1, rfl, g1, K1, A1, rfl⟩ hsz
 show Runs _ _ _ _ _ _ _ _ _ _ _ _ [] h1 1 1 11 _ [(.ref c1)]
 exact Runs.retA (g j19 5 rfl) rfl rfl rfl (by decide) (by decide) ⟨c1, k1, rfl, g1, K1, A1, rfl⟩
theorem own_aic (hw : Wds Z a0) (n0 : Nat) (a : Addr) (h0 : Heap) : Con 1 l Z EL_ n0 (⟨"java/util/ImmutableCollections$AbstractImmutableCollection", "<init>", "()V"⟩ : MethodName) c26_ 1 none ⟨2, 0, 0, 24⟩ #[(.ref a)] [] h0 (fun v h D' => v = none ∧ h0 = h ∧ D' = []) := by
 refine Con.of_runs (ls := #[vr a]) (by decide +kernel) (ef rfl rfl) ?_
 refine Runs.aloadN (g j26 0 rfl) rfl rfl ?_
 refine Runs.callCW (argsL := []) (rest := []) (W := 0) (g j26 1 rfl) rfl (wd hw 169 rfl) (wd hw 14 rfl) (wd hw 18 rfl) (wd hw 17 rfl) (by decide) pd_10 rfl rfl rfl rfl (by decide) (by decide) (by decide) (by decide) all0 (by decide) (own_aci l Z a0 hw n0 a _) ?_
 rintro v h1 D1 ⟨rfl, rfl, rfl⟩ hsz
 show Runs _ _ _ _ _ _ _ _ _ _ _ _ [] h0 0 0 4 _ []
 exact Runs.retV (g j26 2 rfl) rfl (by decide) (by decide) ⟨rfl, rfl, rfl⟩
theorem own_ail (hw : Wds Z a0) (n0 : Nat) (a : Addr) (h0 : Heap) : Con 1 l Z EL_ n0 (⟨"java/util/ImmutableCollections$AbstractImmutableList", "<init>", "()V"⟩ : MethodName) c25_ 1 none ⟨3, 0, 0, 36⟩ #[(.ref a)] [] h0 (fun v h D' => v = none ∧ h0 = h ∧ D' = []) := by
 refine Con.of_runs (ls := #[vr a]) (by decide +kernel) (ef rfl rfl) ?_
 refine Runs.aloadN (g j25 0 rfl) rfl rfl ?_
 refine Runs.callCW (argsL := []) (rest := []) (W := 0) (g j25 1 rfl) rfl (wd hw 163 rfl) (wd hw 164 rfl) (wd hw 168 rfl) (wd hw 167 rfl) (by decide) pd_10 rfl rfl rfl rfl (by decide) (by decide) (by decide) (by decide) all0 (by decide) (own_aic l Z a0 hw n0 a _) ?_
 rintro v h1 D1 ⟨rfl, rfl, rfl⟩ hsz
 show Runs _ _ _ _ _ _ _ _ _ _ _ _ [] h0 0 0 4 _ []
 exact Runs.retV (g j25 2 rfl) rfl (by decide) (by decide) ⟨rfl, rfl, rfl⟩
theorem own_rnn (hw : Wds Z a0) (n0 : Nat) (a : Addr) (h0 : Heap) : Con 1 l Z EL_ n0 (⟨"java/util/Objects", "requireNonNull", "(Ljava/lang/Object;)Ljava/lang/Object;"⟩ : MethodName) c27_ 1 (some (.object S8_)) ⟨0, 0, 0, 0⟩ #[(.ref a)] [] h0 (fun v h D' => v = some (.ref a) ∧ h0 = h ∧ D' = []) := by
 refine Con.of_runs (ls := #[vr a]) (by decide +kernel) (ef rfl rfl) ?_
 refine Runs.aloadN (g j27 0 rfl) rfl rfl ?_
 refine Runs.nnullY (t := 12) (g j27 1 rfl) (by decide) ?_
 refine Runs.aloadN (g j27 2 rfl) rfl rfl ?_
 exact Runs.retA (g j27 3 rfl) rfl rfl rfl (by decide) (by decide) ⟨rfl, rfl, rfl⟩
theorem own_l12_1 (hw : Wds Z a0) (n0 : Nat) (a s1 : Addr) (h0 : Heap) (ga : n0 ≤ a) (O0 : Obj Z h0 a S4_ [(S4_, "e0", S9_, .null), (S4_, "e1", S9_, .null)]) (eM : Addr) (S_M : Sta Z Z.heap S12_ "EMPTY" S9_ (.ref eM)) : Con 1 l Z EL_ n0 (⟨S4_, "<init>", "(Ljava/lang/Object;)V"⟩ : MethodName) c24_ 2 none ⟨4, 0, 0, 48⟩ #[(.ref a), (.ref s1)] [] h0 (fun v h D' => v = none ∧ Keep h0 h [a] ∧ Obj Z h a S4_ [(S4_, "e0", S9_, (.ref s1)), (S4_, "e1", S9_, (.ref eM))] ∧ D' = []) := by
 refine Con.of_runs (ls := #[vr a, vr s1]) (by decide +kernel) (ef rfl rfl) ?_
 refine Runs.aloadN (g j24 0 rfl) rfl rfl ?_
 refine Runs.callCW (argsL := []) (rest := []) (W := 0) (g j24 1 rfl) rfl (wd hw 157 rfl) (wd hw 158 rfl) (wd hw 162 rfl) (wd hw 161 rfl) (by decide) pd_10 rfl rfl rfl rfl (by decide) (by decide) (by decide) (by decide) all0 (by decide) (own_ail l Z a0 hw n0 a _) ?_
 rintro v h1 D1 ⟨rfl, rfl, rfl⟩ hsz
 show Runs _ _ _ _ _ _ _ _ _ _ _ _ [] h0 0 0 4 _ []
 refine Runs.aloadN (g j24 2 rfl) rfl rfl ?_
 refine Runs.aloadN (g j24 3 rfl) rfl rfl ?_
 refine Runs.callSW (argsL := [(.ref s1)]) (rest := [(.ref a)]) (W := 1) (g j24 4 rfl) (wd hw 171 rfl) (wd hw 172 rfl) (wd hw 173 rfl) (wd hw 174 rfl) (by decide) pd_52 rfl rfl rfl rfl (by decide) (by decide) (by decide) (by decide) all0 (by decide) (own_rnn l Z a0 hw n0 s1 _) ?_
 rintro v h1 D1 ⟨rfl, rfl, rfl⟩ hsz
 show Runs _ _ _ _ _ _ _ _ _ _ _ _ [] h0 0 0 9 _ [(.ref s1), (.ref a)]
 refine Runs.putF (i := 0) (ty := (.object S8_)) (g j24 5 rfl) (host := "") (Or.inl (wd hw 175 rfl)) Via.refl O0 rfl (lay_5 hw) rfl (Or.inr ⟨(wd hw 176 rfl), rfl, rfl⟩) (wd hw 151 rfl) (by decide) rfl rfl ga (Or.inr ⟨by decide, by decide⟩) ?_
 intro h_1 K_2 (O_3 : Obj Z h_1 a S4_ [(S4_, "e0", S9_, (.ref s1)), (S4_, "e1", S9_, .null)])
 refine Runs.aloadN (g j24 6 rfl) rfl rfl ?_
 refine Runs.getSN (g j24 7 rfl) (wd hw 177 rfl) Via.refl S_M ?_
 refine Runs.putF (i := 1) (ty := (.object S8_)) (g j24 8 rfl) (host := "") (Or.inl (wd hw 178 rfl)) Via.refl O_3 rfl (lay_5 hw) rfl (Or.inr ⟨(wd hw 179 rfl), rfl, rfl⟩) (wd hw 151 rfl) (by decide) rfl rfl ga (Or.inr ⟨by decide, by decide⟩) ?_
 intro h_4 K_5 (O_6 : Obj Z h_4 a S4_ [(S4_, "e0", S9_, (.ref s1)), (S4_, "e1", S9_, (.ref eM))])
 exact Runs.retV (g j24 9 rfl) rfl (by decide) (by decide) ⟨rfl, (((Keep.refl _ _).trans K_2 (allS (Or.inl (mi 0 rfl)) all0)).trans K_5 (allS (Or.inl (mi 0 rfl)) all0)), O_6, rfl⟩
theorem own_lof1 (hw : Wds Z a0) (n0 : Nat) (c : Addr) (kc : ClassId) (s1 : Addr) (h0 : Heap) (C0 : Arv Z h0 c kc (.object S8_) (1 : Int32) [(.ref s1)] .null) (eM : Addr) (S_M : Sta Z Z.heap S12_ "EMPTY" S9_ (.ref eM)) : Con 1 l Z EL_ n0 m23_ c23_ 2 (some (.object S26_)) ⟨5, 1, 2, 62⟩ #[(.ref c)] [] h0 (fun v h D' => ∃ b, v = some (.ref b) ∧ h0.size ≤ b ∧ Keep h0 h [] ∧ Obj Z h b S4_ [(S4_, "e0", S9_, (.ref s1)), (S4_, "e1", S9_, (.ref eM))] ∧ D' = []) := by
 refine Con.of_runs (ls := #[vr c, .unset]) (by decide +kernel) (ef rfl rfl) ?_
 refine Runs.aloadN (g j23 0 rfl) rfl rfl ?_
 refine Runs.arrlen (g j23 1 rfl) C0 ?_
 refine Runs.tsw (t := 34) (g j23 2 rfl) (by decide) rfl (by decide) ?_
 refine Runs.newO (g j23 3 rfl) (wd hw 150 rfl) (wd hw 151 rfl) (wd hw 152 rfl) (lay_5 hw) (by decide) (by decide) ?_
 intro h_1 b_2 g_5 ge_6 K_3 (O_4 : Obj Z h_1 b_2 S4_ [(S4_, "e0", S9_, .null), (S4_, "e1", S9_, .null)]) U_7
 refine Runs.dup (g j23 4 rfl) rfl ?_
 refine Runs.aloadN (g j23 5 rfl) rfl rfl ?_
 refine Runs.iconst (v := (0 : Int32)) (g j23 6 rfl) (by decide) ?_
 have A_8 := (C0.keep K_3 nin0)
 refine Runs.aaload (v := .ref s1) (g j23 7 rfl) A_8 rfl ⟨by decide, by decide⟩ rfl ?_
 refine Runs.callCW (argsL := [(.ref s1)]) (rest := [(.ref b_2)]) (W := 1) (g j23 8 rfl) rfl (wd hw 153 rfl) (wd hw 154 rfl) (wd hw 156 rfl) (wd hw 152 rfl) (by decide) pd_53 rfl rfl rfl rfl (by decide) (by decide) (by decide) (by decide) all0 (by decide) (own_l12_1 l Z a0 hw n0 b_2 s1 _ ge_6 O_4 eM S_M) ?_
 rintro v h_9 D1 ⟨rfl, K_10, O_11, rfl⟩ hsz
 show Runs _ _ _ _ _ _ _ _ _ _ _ _ [b_2] h_9 1 2 44 _ [(.ref b_2)]
 refine Runs.weak (D1 := []) (fun _ q => nomatch q) ?_
 exact Runs.retA (g j23 9 rfl) rfl rfl rfl (by decide) (by decide) ⟨b_2, rfl, g_5, (((Keep.refl _ _).trans K_3 all0).trans K_10 (allS (Or.inr (Nat.le_trans (Nat.le_refl _) g_5)) all0)), O_11, rfl⟩
theorem own_emp1 (hw : Wds Z a0) (n0 : Nat) (a b : Addr) (h0 : Heap) (O0 : Obj Z h0 a S5_ [(S13_, S27_, "I", (.int 1)), (S5_, S18_, S7_, (.ref b)), (S5_, "size", "I", (.int 1))]) : Con 1 l Z EL_ n0 m18_ c18_ 1 (some .boolean) ⟨0, 0, 0, 0⟩ #[(.ref a)] [] h0 (fun v h D' => v = some (.int 0) ∧ h0 = h ∧ D' = []) := by
 refine Con.of_runs (ls := #[vr a]) (by decide +kernel) (ef rfl rfl) ?_
 refine Runs.aloadN (g j18 0 rfl) rfl rfl ?_
 refine Runs.getF (g j18 1 rfl) (host := "") (Or.inl (wd hw 58 rfl)) Via.refl (O0.fld (i := 2) rfl) ?_
 refine Runs.ifY (t := 11) (g j18 2 rfl) (by decide) (feq (by decide : ¬ ((1 : Int32) = (0 : Int32)))).2 ?_
 refine Runs.iconst (v := (0 : Int32)) (g j18 5 rfl) (by decide) ?_
 exact Runs.retI (z := (0 : Int32)) (g j18 6 rfl) rfl (Or.inr (Or.inl rfl)) (by decide) (by decide) (by decide) ⟨rfl, rfl, rfl⟩
theorem own_lcp1 (hw : Wds Z a0) (n0 : Nat) (a b : Addr) (k : ClassId) (s1 : Addr) (h0 : Heap) (F0 : Obj Z h0 a S5_ [(S13_, S27_, "I", (.int 1)), (S5_, S18_, S7_, (.ref b)), (S5_, "size", "I", (.int 1))] ∧ Arv Z h0 b k (.object S8_) (10 : Int32) [(.ref s1), .null, .null, .null, .null, .null, .null, .null, .null, .null] .null ∧ Exa Z h0 b S7_ ∧ RoadKit.Ovr Z k S8_) (X1 : Exa Z h0 s1 S6_) (hn0 : n0 ≤ h0.size) (mr : Addr) (M : RoadKit.Mir Z S7_ mr) (eM : Addr) (S_M : Sta Z Z.heap S12_ "EMPTY" S9_ (.ref eM)) : Con 1 l Z EL_ n0 m17_ c17_ 2 (some (.object S26_)) ⟨6, 2, 3, 80⟩ #[(.ref a)] [] h0 (fun v h D' => ∃ c, v = some (.ref c) ∧ h0.size ≤ c ∧ Keep h0 h [] ∧ Obj Z h c S4_ [(S4_, "e0", S9_, (.ref s1)), (S4_, "e1", S9_, (.ref eM))] ∧ D' = []) := by
 refine Con.of_runs (ls := #[vr a, .unset]) (by decide +kernel) (ef rfl rfl) ?_
 refine Runs.aloadN (g j17 0 rfl) rfl rfl ?_
 refine Runs.instN (g j17 1 rfl) (wd hw 102 rfl) F0.1.1 (own_no12 hw) ?_
 refine Runs.ifN (g j17 2 rfl) (teq (by decide : (0 : Int32) = (0 : Int32))).2 ?_
 refine Runs.aloadN (g j17 3 rfl) rfl rfl ?_
 refine Runs.instN (g j17 4 rfl) (wd hw 107 rfl) F0.1.1 (own_noN hw) ?_
 refine Runs.ifY (t := 31) (g j17 5 rfl) (by decide) (teq (by decide : (0 : Int32) = (0 : Int32))).1 ?_
 refine Runs.aloadN (g j17 6 rfl) rfl rfl ?_
 refine Runs.callIW (argsL := []) (rest := []) (W := 0) (g j17 7 rfl) (wd hw 108 rfl) (wd hw 109 rfl) (wd hw 110 rfl) (wd hw 111 rfl) (wd hw 112 rfl) (wd hw 113 rfl) (wd hw 114 rfl) (wd hw 115 rfl) (wd hw 116 rfl) (wd hw 3 rfl) (by decide) F0.1.1 pd_7 rfl rfl rfl rfl (by decide) (by decide) (by decide) (by decide) all0 (by decide) (own_emp1 l Z a0 hw n0 a b _ F0.1) ?_
 rintro v h1 D1 ⟨rfl, rfl, rfl⟩ hsz
 show Runs _ _ _ _ _ _ _ _ _ _ _ _ [] h0 0 0 37 _ [(.int 0)]
 refine Runs.ifY (t := 44) (g j17 8 rfl) (by decide) (teq (by decide : (0 : Int32) = (0 : Int32))).1 ?_
 refine Runs.aloadN (g j17 11 rfl) rfl rfl ?_
 refine Runs.callIW (argsL := []) (rest := []) (W := 0) (g j17 12 rfl) (wd hw 117 rfl) (wd hw 118 rfl) (wd hw 119 rfl) (wd hw 120 rfl) (wd hw 121 rfl) (wd hw 122 rfl) (wd hw 123 rfl) (wd hw 115 rfl) (wd hw 124 rfl) (wd hw 3 rfl) (by decide) F0.1.1 pd_46 rfl rfl rfl rfl (by decide) (by decide) (by decide) (by decide) all0 (by decide) (own_toa1 l Z a0 hw n0 a b k s1 _ F0 X1 hn0 mr M) ?_
 rintro v h1 D1 ⟨c1, k1, rfl, g1, K1, A1, rfl⟩ hsz
 show Runs _ _ _ _ _ _ _ _ _ _ _ _ [] h1 1 1 50 _ [(.ref c1)]
 refine Runs.callSW (argsL := [(.ref c1)]) (rest := []) (W := 0) (g j17 13 rfl) (wd hw 147 rfl) (wd hw 148 rfl) (wd hw 96 rfl) (wd hw 149 rfl) (by decide) pd_54 rfl rfl rfl rfl (by decide) (by decide) (by decide) (by decide) all0 (by decide) (own_lof1 l Z a0 hw n0 c1 k1 s1 _ A1 eM S_M) ?_
 rintro v h2 D1 ⟨c2, rfl, g2, K2, O2, rfl⟩ hsz
 show Runs _ _ _ _ _ _ _ _ _ _ _ _ [] h2 2 3 53 _ [(.ref c2)]
 exact Runs.retA (g j17 14 rfl) rfl rfl rfl (by decide) (by decide) ⟨c2, rfl, Nat.le_trans K1.1 g2, K1.trans K2 all0, O2, rfl⟩
theorem own_lco1 (hw : Wds Z a0) (n0 : Nat) (a b : Addr) (k : ClassId) (s1 : Addr) (h0 : Heap) (F0 : Obj Z h0 a S5_ [(S13_, S27_, "I", (.int 1)), (S5_, S18_, S7_, (.ref b)), (S5_, "size", "I", (.int 1))] ∧ Arv Z h0 b k (.object S8_) (10 : Int32) [(.ref s1), .null, .null, .null, .null, .null, .null, .null, .null, .null] .null ∧ Exa Z h0 b S7_ ∧ RoadKit.Ovr Z k S8_) (X1 : Exa Z h0 s1 S6_) (hn0 : n0 ≤ h0.size) (mr : Addr) (M : RoadKit.Mir Z S7_ mr) (eM : Addr) (S_M : Sta Z Z.heap S12_ "EMPTY" S9_ (.ref eM)) : Con 1 l Z EL_ n0 m16_ c16_ 1 (some (.object S26_)) ⟨7, 2, 3, 93⟩ #[(.ref a)] [] h0 (fun v h D' => ∃ c, v = some (.ref c) ∧ h0.size ≤ c ∧ Keep h0 h [] ∧ Obj Z h c S4_ [(S4_, "e0", S9_, (.ref s1)), (S4_, "e1", S9_, (.ref eM))] ∧ D' = []) := by
 refine Con.of_runs (ls := #[vr a]) (by decide +kernel) (ef rfl rfl) ?_
 refine Runs.aloadN (g j16 0 rfl) rfl rfl ?_
 refine Runs.callSW (argsL := [(.ref a)]) (rest := []) (W := 0) (g j16 1 rfl) (wd hw 98 rfl) (wd hw 99 rfl) (wd hw 100 rfl) (wd hw 101 rfl) (by decide) pd_49 rfl rfl rfl rfl (by decide) (by decide) (by decide) (by decide) all0 (by decide) (own_lcp1 l Z a0 hw n0 a b k s1 _ F0 X1 hn0 mr M eM S_M) ?_
 rintro v h2 D1 ⟨c2, rfl, g2, K2, O2, rfl⟩ hsz
 show Runs _ _ _ _ _ _ _ _ _ _ _ _ [] h2 2 3 4 _ [(.ref c2)]
 exact Runs.retA (g j16 2 rfl) rfl rfl rfl (by decide) (by decide) ⟨c2, rfl, g2, K2, O2, rfl⟩
theorem own_cli1 (hw : Wds Z a0) (n0 : Nat) (r q0 q1 q2 : Addr) (z : Int32) (hz : z = 0 ∨ z = 1) (a b : Addr) (k : ClassId) (s1 : Addr) (h0 : Heap) (F0 : Obj Z h0 a S5_ [(S13_, S27_, "I", (.int 1)), (S5_, S18_, S7_, (.ref b)), (S5_, "size", "I", (.int 1))] ∧ Arv Z h0 b k (.object S8_) (10 : Int32) [(.ref s1), .null, .null, .null, .null, .null, .null, .null, .null, .null] .null ∧ Exa Z h0 b S7_ ∧ RoadKit.Ovr Z k S8_) (X1 : Exa Z h0 s1 S6_) (hn0 : n0 ≤ h0.size) (mr : Addr) (M : RoadKit.Mir Z S7_ mr) (eM : Addr) (S_M : Sta Z Z.heap S12_ "EMPTY" S9_ (.ref eM)) (gr : n0 ≤ r) (OR : Obj Z h0 r S1_ [(S1_, "clientId", S11_, .null), (S1_, "clientName", S11_, .null), (S1_, S24_, S11_, .null), (S1_, S25_, S16_, .null), (S1_, S23_, "Z", (.int 0))]) : Con 1 l Z EL_ n0 m14_ c14_ 6 none ⟨8, 2, 3, 105⟩ #[(.ref r), (.ref q0), (.ref q1), (.ref q2), (.ref a), (.int z)] [] h0 (fun v h D' => v = none ∧ ∃ c, h0.size ≤ c ∧ Keep h0 h [r] ∧ Obj Z h r S1_ [(S1_, "clientId", S11_, (.ref q0)), (S1_, "clientName", S11_, (.ref q1)), (S1_, S24_, S11_, (.ref q2)), (S1_, S25_, S16_, (.ref c)), (S1_, S23_, "Z", (.int z))] ∧ Obj Z h c S4_ [(S4_, "e0", S9_, (.ref s1)), (S4_, "e1", S9_, (.ref eM))] ∧ D' = []) := by
 refine Con.of_runs (ls := #[vr r, vr q0, vr q1, vr q2, vr a, vi z]) (by decide +kernel) (ef rfl rfl) ?_
 refine Runs.aloadN (g j14 0 rfl) rfl rfl ?_
 refine Runs.callCW (argsL := []) (rest := []) (W := 0) (g j14 1 rfl) rfl (wd hw 88 rfl) (wd hw 89 rfl) (wd hw 92 rfl) (wd hw 91 rfl) (by decide) pd_10 rfl rfl rfl rfl (by decide) (by decide) (by decide) (by decide) all0 (by decide) (own_cR l Z a0 hw n0 r _) ?_
 rintro v h1 D1 ⟨rfl, rfl, rfl⟩ hsz
 show Runs _ _ _ _ _ _ _ _ _ _ _ _ [] h0 0 0 4 _ []
 refine Runs.aload (g j14 2 rfl) rfl rfl ?_
 refine Runs.callSW (argsL := [(.ref a)]) (rest := []) (W := 0) (g j14 3 rfl) (wd hw 94 rfl) (wd hw 95 rfl) (wd hw 96 rfl) (wd hw 97 rfl) (by decide) pd_49 rfl rfl rfl rfl (by decide) (by decide) (by decide) (by decide) all0 (by decide) (own_lco1 l Z a0 hw n0 a b k s1 _ F0 X1 hn0 mr M eM S_M) ?_
 rintro v h1 D1 ⟨c, rfl, gc, K1, OL, rfl⟩ hsz
 show Runs _ _ _ _ _ _ _ _ _ _ _ _ [] h1 2 3 9 _ [(.ref c)]
 refine Runs.astore (ls' := #[vr r, vr q0, vr q1, vr q2, vr c, vi z]) (g j14 4 rfl) rfl rfl ?_
 refine Runs.aloadN (g j14 5 rfl) rfl rfl ?_
 refine Runs.aloadN (g j14 6 rfl) rfl rfl ?_
 have O_1 := (OR.keep K1 nin0)
 refine Runs.putF (i := 0) (ty := (.object S6_)) (g j14 7 rfl) (host := "") (Or.inl (wd hw 180 rfl)) Via.refl O_1 rfl (lay_4 hw) rfl (Or.inr ⟨(wd hw 181 rfl), rfl, rfl⟩) (wd hw 83 rfl) (by decide) rfl rfl gr (Or.inr ⟨by decide, by decide⟩) ?_
 intro h_2 K_3 (O_4 : Obj Z h_2 r S1_ [(S1_, "clientId", S11_, (.ref q0)), (S1_, "clientName", S11_, .null), (S1_, S24_, S11_, .null), (S1_, S25_, S16_, .null), (S1_, S23_, "Z", (.int 0))])
 refine Runs.aloadN (g j14 8 rfl) rfl rfl ?_
 refine Runs.aloadN (g j14 9 rfl) rfl rfl ?_
 refine Runs.putF (i := 1) (ty := (.object S6_)) (g j14 10 rfl) (host := "") (Or.inl (wd hw 182 rfl)) Via.refl O_4 rfl (lay_4 hw) rfl (Or.inr ⟨(wd hw 183 rfl), rfl, rfl⟩) (wd hw 83 rfl) (by decide) rfl rfl gr (Or.inr ⟨by decide, by decide⟩) ?_
 intro h_5 K_6 (O_7 : Obj Z h_5 r S1_ [(S1_, "clientId", S11_, (.ref q0)), (S1_, "clientName", S11_, (.ref q1)), (S1_, S24_, S11_, .null), (S1_, S25_, S16_, .null), (S1_, S23_, "Z", (.int 0))])
 refine Runs.aloadN (g j14 11 rfl) rfl rfl ?_
 refine Runs.aloadN (g j14 12 rfl) rfl rfl ?_
 refine Runs.putF (i := 2) (ty := (.object S6_)) (g j14 13 rfl) (host := "") (Or.inl (wd hw 184 rfl)) Via.refl O_7 rfl (lay_4 hw) rfl (Or.inr ⟨(wd hw 185 rfl), rfl, rfl⟩) (wd hw 83 rfl) (by decide) rfl rfl gr (Or.inr ⟨by decide, by decide⟩) ?_
 intro h_8 K_9 (O_10 : Obj Z h_8 r S1_ [(S1_, "clientId", S11_, (.ref q0)), (S1_, "clientName", S11_, (.ref q1)), (S1_, S24_, S11_, (.ref q2)), (S1_, S25_, S16_, .null), (S1_, S23_, "Z", (.int 0))])
 refine Runs.aloadN (g j14 14 rfl) rfl rfl ?_
 refine Runs.aload (g j14 15 rfl) rfl rfl ?_
 refine Runs.putF (i := 3) (ty := (.object S26_)) (g j14 16 rfl) (host := "") (Or.inl (wd hw 186 rfl)) Via.refl O_10 rfl (lay_4 hw) rfl (Or.inr ⟨(wd hw 187 rfl), rfl, rfl⟩) (wd hw 83 rfl) (by decide) rfl rfl gr (Or.inr ⟨by decide, by decide⟩) ?_
 intro h_11 K_12 (O_13 : Obj Z h_11 r S1_ [(S1_, "clientId", S11_, (.ref q0)), (S1_, "clientName", S11_, (.ref q1)), (S1_, S24_, S11_, (.ref q2)), (S1_, S25_, S16_, (.ref c)), (S1_, S23_, "Z", (.int 0))])
 refine Runs.aloadN (g j14 17 rfl) rfl rfl ?_
 refine Runs.iload (g j14 18 rfl) rfl ?_
 refine Runs.putF (i := 4) (ty := .boolean) (g j14 19 rfl) (host := "") (Or.inl (wd hw 188 rfl)) Via.refl O_13 rfl (lay_4 hw) rfl (Or.inr ⟨(wd hw 189 rfl), rfl, rfl⟩) (wd hw 83 rfl) (by decide) (by rcases hz with rfl | rfl <;> rfl) (by rcases hz with rfl | rfl <;> rfl) gr (Or.inr ⟨by decide, by decide⟩) ?_
 intro h_14 K_15 (O_16 : Obj Z h_14 r S1_ [(S1_, "clientId", S11_, (.ref q0)), (S1_, "clientName", S11_, (.ref q1)), (S1_, S24_, S11_, (.ref q2)), (S1_, S25_, S16_, (.ref c)), (S1_, S23_, "Z", (.int z))])
 exact Runs.retV (g j14 20 rfl) rfl (by decide) (by decide) ⟨rfl, c, gc, (((((((Keep.refl _ _).trans K1 all0).trans K_3 (allS (Or.inl (mi 0 rfl)) all0)).trans K_6 (allS (Or.inl (mi 0 rfl)) all0)).trans K_9 (allS (Or.inl (mi 0 rfl)) all0)).trans K_12 (allS (Or.inl (mi 0 rfl)) all0)).trans K_15 (allS (Or.inl (mi 0 rfl)) all0)), O_16, (((((OL.keep K_3 (ninS (Nat.ne_of_gt (Nat.lt_of_lt_of_le (Nat.lt_of_lt_of_le OR.lt (Nat.le_refl _)) gc)) nin0)).keep K_6 (ninS (Nat.ne_of_gt (Nat.lt_of_lt_of_le (Nat.lt_of_lt_of_le OR.lt (Nat.le_refl _)) gc)) nin0)).keep K_9 (ninS (Nat.ne_of_gt (Nat.lt_of_lt_of_le (Nat.lt_of_lt_of_le OR.lt (Nat.le_refl _)) gc)) nin0)).keep K_12 (ninS (Nat.ne_of_gt (Nat.lt_of_lt_of_le (Nat.lt_of_lt_of_le OR.lt (Nat.le_refl _)) gc)) nin0)).keep K_15 (ninS (Nat.ne_of_gt (Nat.lt_of_lt_of_le (Nat.lt_of_lt_of_le OR.lt (Nat.le_refl _)) gc)) nin0)), rfl⟩
theorem own_cpc2 (hw : Wds Z a0) (n0 : Nat) (b : Addr) (k : ClassId) (s1 s2 : Addr) (h0 : Heap) (B0 : Arv Z h0 b k (.object S8_) (10 : Int32) [(.ref s1), (.ref s2), .null, .null, .null, .null, .null, .null, .null, .null] .null) (E0 : Exa Z h0 b S7_) (hn0 : n0 ≤ h0.size) (X1 : Exa Z h0 s1 S6_) (X2 : Exa Z h0 s2 S6_) (mr : Addr) (M : RoadKit.Mir Z S7_ mr) : Con 1 l Z EL_ n0 m21_ c21_ 4 (some (.array (.object S8_))) ⟨1, 1, 2, 40⟩ #[(.ref b), (.int 2), (.ref mr)] [] h0 (fun v h D' => ∃ c kc, v = some (.ref c) ∧ h0.size ≤ c ∧ Keep h0 h [] ∧ Arv Z h c kc (.object S8_) (2 : Int32) [(.ref s1), (.ref s2)] .null ∧ D' = []) := by
 refine Con.of_runs (ls := #[vr b, vi 2, vr mr, .unset]) (by decide +kernel) (ef rfl rfl) ?_
 refine Runs.aloadN (g j21 0 rfl) rfl rfl ?_
 refine Runs.ldcMir (g j21 1 rfl) (wd hw 138 rfl) M ?_
 refine Runs.acN (g j21 2 rfl) rfl rfl (Jvm.Free.XT.aa_ne_f (congrArg Value.ref rfl)) ?_
 refine Runs.iloadN (g j21 3 rfl) rfl ?_
 refine Runs.newA (cap := 2) (ad := S7_) (g j21 4 rfl) (wd hw 139 rfl) (wd hw 80 rfl) (by decide) (by decide) (by decide) (by decide) (by decide) rfl ?_
 intro h_1 c_2 k_3 g_6 ge_7 K_4 A_5 E_8 V_9
 have A_10 : Arv Z h_1 c_2 k_3 (.object S8_) (2 : Int32) [.null, .null] .null := A_5.pad (pad_rep [] .null 2)
 refine Runs.goto (t := 24) (g j21 5 rfl) (by decide) ?_
 refine Runs.astoreN (ls' := #[vr b, vi 2, vr mr, vr c_2]) (g j21 6 rfl) rfl rfl ?_
 refine Runs.aloadN (g j21 7 rfl) rfl rfl ?_
 refine Runs.iconst (v := (0 : Int32)) (g j21 8 rfl) (by decide) ?_
 refine Runs.aloadN (g j21 9 rfl) rfl rfl ?_
 refine Runs.iconst (v := (0 : Int32)) (g j21 10 rfl) (by decide) ?_
 refine Runs.aloadN (g j21 11 rfl) rfl rfl ?_
 have A_11 := (B0.keep K_4 nin0)
 refine Runs.arrlen (g j21 12 rfl) A_11 ?_
 refine Runs.iloadN (g j21 13 rfl) rfl ?_
 refine Runs.callSW (argsL := [(.int 10), (.int 2)]) (rest := [(.int 0), (.ref c_2), (.int 0), (.ref b)]) (W := 4) (g j21 14 rfl) (wd hw 140 rfl) (wd hw 141 rfl) (wd hw 77 rfl) (wd hw 142 rfl) (by decide) pd_30 rfl rfl rfl rfl (by decide) (by decide) (by decide) (by decide) all0 (by decide) (own_min l Z a0 hw n0 10 2 (by decide) (by decide) _) ?_
 rintro v h1 D1 ⟨rfl, rfl, rfl⟩ hsz
 show Runs _ _ _ _ _ _ _ _ _ _ _ _ [c_2] h_1 1 2 35 _ [(.int 2), (.int 0), (.ref c_2), (.int 0), (.ref b)]
 refine Runs.acopyR (W := 0) (us := [(.ref s1), (.ref s2)]) (g j21 15 rfl) (wd hw 143 rfl) (wd hw 146 rfl) (wd hw 144 rfl) (wd hw 145 rfl) A_11 A_10 ⟨rfl, rfl, ⟨own_sto A_10 V_9 (Jvm.RoadKit.Ins.of_exa (X1.keep K_4) (wd hw 81 rfl)), ⟨own_sto A_10 V_9 (Jvm.RoadKit.Ins.of_exa (X2.keep K_4) (wd hw 81 rfl)), trivial⟩⟩⟩ (by decide) (by decide) (by decide) (by decide) (by decide) rfl (Nat.le_of_ble_eq_true rfl) ge_7 (Or.inr (by decide)) rfl (by decide) rfl (by decide) ?_
 intro h_12 K_13 (A_14 : Arv Z h_12 c_2 k_3 (.object S8_) (2 : Int32) [(.ref s1), (.ref s2)] .null)
 refine Runs.aloadN (g j21 16 rfl) rfl rfl ?_
 refine Runs.weak (D1 := []) (fun _ q => nomatch q) ?_
 exact Runs.retA (g j21 17 rfl) rfl rfl rfl (by decide) (by decide) ⟨c_2, k_3, rfl, g_6, (((Keep.refl _ _).trans K_4 all0).trans K_13 (allS (Or.inr (Nat.le_trans (Nat.le_refl _) g_6)) all0)), A_14, rfl⟩
theorem own_cpr2 (hw : Wds Z a0) (n0 : Nat) (b : Addr) (k : ClassId) (s1 s2 : Addr) (h0 : Heap) (B0 : Arv Z h0 b k (.object S8_) (10 : Int32) [(.ref s1), (.ref s2), .null, .null, .null, .null, .null, .null, .null, .null] .null) (E0 : Exa Z h0 b S7_) (hn0 : n0 ≤ h0.size) (X1 : Exa Z h0 s1 S6_) (X2 : Exa Z h0 s2 S6_) (mr : Addr) (M : RoadKit.Mir Z S7_ mr) : Con 1 l Z EL_ n0 m20_ c20_ 2 (some (.array (.object S8_))) ⟨2, 1, 2, 55⟩ #[(.ref b), (.int 2)] [] h0 (fun v h D' => ∃ c kc, v = some (.ref c) ∧ h0.size ≤ c ∧ Keep h0 h [] ∧ Arv Z h c kc (.object S8_) (2 : Int32) [(.ref s1), (.ref s2)] .null ∧ D' = []) := by
 refine Con.of_runs (ls := #[vr b, vi 2]) (by decide +kernel) (ef rfl rfl) ?_
 refine Runs.aloadN (g j20 0 rfl) rfl rfl ?_
 refine Runs.iloadN (g j20 1 rfl) rfl ?_
 refine Runs.aloadN (g j20 2 rfl) rfl rfl ?_
 refine Runs.gcls (W := 2) (g j20 3 rfl) (wd hw 129 rfl) (wd hw 130 rfl) (wd hw 106 rfl) (wd hw 132 rfl) (wd hw 131 rfl) (wd hw 133 rfl) E0 M rfl (by decide) rfl (by decide) ?_
 refine Runs.callSW (argsL := [(.ref b), (.int 2), (.ref mr)]) (rest := []) (W := 0) (g j20 4 rfl) (wd hw 135 rfl) (wd hw 136 rfl) (wd hw 127 rfl) (wd hw 137 rfl) (by decide) pd_50 rfl rfl rfl rfl (by decide) (by decide) (by decide) (by decide) all0 (by decide) (own_cpc2 l Z a0 hw n0 b k s1 s2 _ B0 E0 hn0 X1 X2 mr M) ?_
 rintro v h1 D1 ⟨c1, k1, rfl, g1, K1, A1, rfl⟩ hsz
 show Runs _ _ _ _ _ _ _ _ _ _ _ _ [] h1 1 2 9 _ [(.ref c1)]
 exact Runs.retA (g j20 5 rfl) rfl rfl rfl (by decide) (by decide) ⟨c1, k1, rfl, g1, K1, A1, rfl⟩
theorem own_toa2 (hw : Wds Z a0) (n0 : Nat) (a b : Addr) (k : ClassId) (s1 s2 : Addr) (h0 : Heap) (F0 : Obj Z h0 a S5_ [(S13_, S27_, "I", (.int 2)), (S5_, S18_, S7_, (.ref b)), (S5_, "size", "I", (.int 2))] ∧ Arv Z h0 b k (.object S8_) (10 : Int32) [(.ref s1), (.ref s2), .null, .null, .null, .null, .null, .null, .null, .null] .null ∧ Exa Z h0 b S7_ ∧ RoadKit.Ovr Z k S8_) (X1 : Exa Z h0 s1 S6_) (X2 : Exa Z h0 s2 S6_) (hn0 : n0 ≤ h0.size) (mr : Addr) (M : RoadKit.Mir Z S7_ mr) : Con 1 l Z EL_ n0 m19_ c19_ 1 (some (.array (.object S8_))) ⟨3, 1, 2, 68⟩ #[(.ref a)] [] h0 (fun v h D' => ∃ c kc, v = some (.ref c) ∧ h0.size ≤ c ∧ Keep h0 h [] ∧ Arv Z h c kc (.object S8_) (2 : Int32) [(.ref s1), (.ref s2)] .null ∧ D' = []) := by
 refine Con.of_runs (ls := #[vr a]) (by decide +kernel) (ef rfl rfl) ?_
 refine Runs.aloadN (g j19 0 rfl) rfl rfl ?_
 refine Runs.getF (g j19 1 rfl) (host := "") (Or.inl (wd hw 25 rfl)) Via.refl (F0.1.fld (i := 1) rfl) ?_
 refine Runs.aloadN (g j19 2 rfl) rfl rfl ?_
 refine Runs.getF (g j19 3 rfl) (host := "") (Or.inl (wd hw 58 rfl)) Via.refl (F0.1.fld (i := 2) rfl) ?_
 refine Runs.callSW (argsL := [(.ref b), (.int 2)]) (rest := []) (W := 0) (g j19 4 rfl) (wd hw 125 rfl) (wd hw 126 rfl) (wd hw 127 rfl) (wd hw 128 rfl) (by decide) pd_51 rfl rfl rfl rfl (by decide) (by decide) (by decide) (by decide) all0 (by decide) (own_cpr2 l Z a0 hw n0 b k s1 s2 _ F0.2.1 F0.2.2.1 hn0 X1 X2 mr M) ?_
 rintro v h1 D1 ⟨c1, k1, rfl, g1, K1, A1, rfl⟩ hsz
 show Runs _ _ _ _ _ _ _ _ _ _ _ _ [] h1 1 2 11 _ [(.ref c1)]
 exact Runs.retA (g j19 5 rfl) rfl rfl rfl (by decide) (by decide) ⟨c1, k1, rfl, g1, K1, A1, rfl⟩
theorem own_l12_2 (hw : Wds Z a0) (n0 : Nat) (a s1 s2 : Addr) (h0 : Heap) (ga : n0 ≤ a) (O0 : Obj Z h0 a S4_ [(S4_, "e0", S9_, .null), (S4_, "e1", S9_, .null)]) (eM : Addr) (S_M : Sta Z Z.heap S12_ "EMPTY" S9_ (.ref eM)) : Con 1 l Z EL_ n0 (⟨S4_, "<init>", "(Ljava/lang/Object;Ljava/lang/Object;)V"⟩ : MethodName) c95_ 3 none ⟨4, 0, 0, 48⟩ #[(.ref a), (.ref s1), (.ref s2)] [] h0 (fun v h D' => v = none ∧ Keep h0 h [a] ∧ Obj Z h a S4_ [(S4_, "e0", S9_, (.ref s1)), (S4_, "e1", S9_, (.ref s2))] ∧ D' = []) := by
 refine Con.of_runs (ls := #[vr a, vr s1, vr s2]) (by decide +kernel) (ef rfl rfl) ?_
 refine Runs.aloadN (g j95 0 rfl) rfl rfl ?_
 refine Runs.callCW (argsL := []) (rest := []) (W := 0) (g j95 1 rfl) rfl (wd hw 157 rfl) (wd hw 158 rfl) (wd hw 162 rfl) (wd hw 161 rfl) (by decide) pd_10 rfl rfl rfl rfl (by decide) (by decide) (by decide) (by decide) all0 (by decide) (own_ail l Z a0 hw n0 a _) ?_
 rintro v h1 D1 ⟨rfl, rfl, rfl⟩ hsz
 show Runs _ _ _ _ _ _ _ _ _ _ _ _ [] h0 0 0 4 _ []
 refine Runs.aloadN (g j95 2 rfl) rfl rfl ?_
 refine Runs.aloadN (g j95 3 rfl) rfl rfl ?_
 refine Runs.callSW (argsL := [(.ref s1)]) (rest := [(.ref a)]) (W := 1) (g j95 4 rfl) (wd hw 171 rfl) (wd hw 172 rfl) (wd hw 173 rfl) (wd hw 174 rfl) (by decide) pd_52 rfl rfl rfl rfl (by decide) (by decide) (by decide) (by decide) all0 (by decide) (own_rnn l Z a0 hw n0 s1 _) ?_
 rintro v h1 D1 ⟨rfl, rfl, rfl⟩ hsz
 show Runs _ _ _ _ _ _ _ _ _ _ _ _ [] h0 0 0 9 _ [(.ref s1), (.ref a)]
 refine Runs.putF (i := 0) (ty := (.object S8_)) (g j95 5 rfl) (host := "") (Or.inl (wd hw 175 rfl)) Via.refl O0 rfl (lay_5 hw) rfl (Or.inr ⟨(wd hw 176 rfl), rfl, rfl⟩) (wd hw 151 rfl) (by decide) rfl rfl ga (Or.inr ⟨by decide, by decide⟩) ?_
 intro h_1 K_2 (O_3 : Obj Z h_1 a S4_ [(S4_, "e0", S9_, (.ref s1)), (S4_, "e1", S9_, .null)])
 refine Runs.aloadN (g j95 6 rfl) rfl rfl ?_
 refine Runs.aloadN (g j95 7 rfl) rfl rfl ?_
 refine Runs.callSW (argsL := [(.ref s2)]) (rest := [(.ref a)]) (W := 1) (g j95 8 rfl) (wd hw 171 rfl) (wd hw 172 rfl) (wd hw 173 rfl) (wd hw 174 rfl) (by decide) pd_52 rfl rfl rfl rfl (by decide) (by decide) (by decide) (by decide) all0 (by decide) (own_rnn l Z a0 hw n0 s2 _) ?_
 rintro v h1 D1 ⟨rfl, rfl, rfl⟩ hsz
 show Runs _ _ _ _ _ _ _ _ _ _ _ _ [] h_1 0 0 17 _ [(.ref s2), (.ref a)]
 refine Runs.putF (i := 1) (ty := (.object S8_)) (g j95 9 rfl) (host := "") (Or.inl (wd hw 178 rfl)) Via.refl O_3 rfl (lay_5 hw) rfl (Or.inr ⟨(wd hw 179 rfl), rfl, rfl⟩) (wd hw 151 rfl) (by decide) rfl rfl ga (Or.inr ⟨by decide, by decide⟩) ?_
 intro h_4 K_5 (O_6 : Obj Z h_4 a S4_ [(S4_, "e0", S9_, (.ref s1)), (S4_, "e1", S9_, (.ref s2))])
 exact Runs.retV (g j95 10 rfl) rfl (by decide) (by decide) ⟨rfl, (((Keep.refl _ _).trans K_2 (allS (Or.inl (mi 0 rfl)) all0)).trans K_5 (allS (Or.inl (mi 0 rfl)) all0)), O_6, rfl⟩
theorem own_lof2 (hw : Wds Z a0) (n0 : Nat) (c : Addr) (kc : ClassId) (s1 s2 : Addr) (h0 : Heap) (C0 : Arv Z h0 c kc (.object S8_) (2 : Int32) [(.ref s1), (.ref s2)] .null) (eM : Addr) (S_M : Sta Z Z.heap S12_ "EMPTY" S9_ (.ref eM)) : Con 1 l Z EL_ n0 m23_ c23_ 2 (some (.object S26_)) ⟨5, 1, 2, 63⟩ #[(.ref c)] [] h0 (fun v h D' => ∃ b, v = some (.ref b) ∧ h0.size ≤ b ∧ Keep h0 h [] ∧ Obj Z h b S4_ [(S4_, "e0", S9_, (.ref s1)), (S4_, "e1", S9_, (.ref s2))] ∧ D' = []) := by
 refine Con.of_runs (ls := #[vr c, .unset]) (by decide +kernel) (ef rfl rfl) ?_
 refine Runs.aloadN (g j23 0 rfl) rfl rfl ?_
 refine Runs.arrlen (g j23 1 rfl) C0 ?_
 refine Runs.tsw (t := 45) (g j23 2 rfl) (by decide) rfl (by decide) ?_
 refine Runs.newO (g j23 10 rfl) (wd hw 150 rfl) (wd hw 151 rfl) (wd hw 152 rfl) (lay_5 hw) (by decide) (by decide) ?_
 intro h_1 b_2 g_5 ge_6 K_3 (O_4 : Obj Z h_1 b_2 S4_ [(S4_, "e0", S9_, .null), (S4_, "e1", S9_, .null)]) U_7
 refine Runs.dup (g j23 11 rfl) rfl ?_
 refine Runs.aloadN (g j23 12 rfl) rfl rfl ?_
 refine Runs.iconst (v := (0 : Int32)) (g j23 13 rfl) (by decide) ?_
 have A_8 := (C0.keep K_3 nin0)
 refine Runs.aaload (v := .ref s1) (g j23 14 rfl) A_8 rfl ⟨by decide, by decide⟩ rfl ?_
 refine Runs.aloadN (g j23 15 rfl) rfl rfl ?_
 refine Runs.iconst (v := (1 : Int32)) (g j23 16 rfl) (by decide) ?_
 refine Runs.aaload (v := .ref s2) (g j23 17 rfl) A_8 rfl ⟨by decide, by decide⟩ rfl ?_
 refine Runs.callCW (argsL := [(.ref s1), (.ref s2)]) (rest := [(.ref b_2)]) (W := 1) (g j23 18 rfl) rfl (wd hw 542 rfl) (wd hw 543 rfl) (wd hw 544 rfl) (wd hw 152 rfl) (by decide) pd_55 rfl rfl rfl rfl (by decide) (by decide) (by decide) (by decide) all0 (by decide) (own_l12_2 l Z a0 hw n0 b_2 s1 s2 _ ge_6 O_4 eM S_M) ?_
 rintro v h_9 D1 ⟨rfl, K_10, O_11, rfl⟩ hsz
 show Runs _ _ _ _ _ _ _ _ _ _ _ _ [b_2] h_9 1 2 58 _ [(.ref b_2)]
 refine Runs.weak (D1 := []) (fun _ q => nomatch q) ?_
 exact Runs.retA (g j23 19 rfl) rfl rfl rfl (by decide) (by decide) ⟨b_2, rfl, g_5, (((Keep.refl _ _).trans K_3 all0).trans K_10 (allS (Or.inr (Nat.le_trans (Nat.le_refl _) g_5)) all0)), O_11, rfl⟩
theorem own_emp2 (hw : Wds Z a0) (n0 : Nat) (a b : Addr) (h0 : Heap) (O0 : Obj Z h0 a S5_ [(S13_, S27_, "I", (.int 2)), (S5_, S18_, S7_, (.ref b)), (S5_, "size", "I", (.int 2))]) : Con 1 l Z EL_ n0 m18_ c18_ 1 (some .boolean) ⟨0, 0, 0, 0⟩ #[(.ref a)] [] h0 (fun v h D' => v = some (.int 0) ∧ h0 = h ∧ D' = []) := by
 refine Con.of_runs (ls := #[vr a]) (by decide +kernel) (ef rfl rfl) ?_
 refine Runs.aloadN (g j18 0 rfl) rfl rfl ?_
 refine Runs.getF (g j18 1 rfl) (host := "") (Or.inl (wd hw 58 rfl)) Via.refl (O0.fld (i := 2) rfl) ?_
 refine Runs.ifY (t := 11) (g j18 2 rfl) (by decide) (feq (by decide : ¬ ((2 : Int32) = (0 : Int32)))).2 ?_
 refine Runs.iconst (v := (0 : Int32)) (g j18 5 rfl) (by decide) ?_
 exact Runs.retI (z := (0 : Int32)) (g j18 6 rfl) rfl (Or.inr (Or.inl rfl)) (by decide) (by decide) (by decide) ⟨rfl, rfl, rfl⟩
theorem own_lcp2 (hw : Wds Z a0) (n0 : Nat) (a b : Addr) (k : ClassId) (s1 s2 : Addr) (h0 : Heap) (F0 : Obj Z h0 a S5_ [(S13_, S27_, "I", (.int 2)), (S5_, S18_, S7_, (.ref b)), (S5_, "size", "I", (.int 2))] ∧ Arv Z h0 b k (.object S8_) (10 : Int32) [(.ref s1), (.ref s2), .null, .null, .null, .null, .null, .null, .null, .null] .null ∧ Exa Z h0 b S7_ ∧ RoadKit.Ovr Z k S8_) (X1 : Exa Z h0 s1 S6_) (X2 : Exa Z h0 s2 S6_) (hn0 : n0 ≤ h0.size) (mr : Addr) (M : RoadKit.Mir Z S7_ mr) (eM : Addr) (S_M : Sta Z Z.heap S12_ "EMPTY" S9_ (.ref eM)) : Con 1 l Z EL_ n0 m17_ c17_ 2 (some (.object S26_)) ⟨6, 2, 4, 80⟩ #[(.ref a)] [] h0 (fun v h D' => ∃ c, v = some (.ref c) ∧ h0.size ≤ c ∧ Keep h0 h [] ∧ Obj Z h c S4_ [(S4_, "e0", S9_, (.ref s1)), (S4_, "e1", S9_, (.ref s2))] ∧ D' = []) := by
 refine Con.of_runs (ls := #[vr a, .unset]) (by decide +kernel) (ef rfl rfl) ?_
 refine Runs.aloadN (g j17 0 rfl) rfl rfl ?_
 refine Runs.instN (g j17 1 rfl) (wd hw 102 rfl) F0.1.1 (own_no12 hw) ?_
 refine Runs.ifN (g j17 2 rfl) (teq (by decide : (0 : Int32) = (0 : Int32))).2 ?_
 refine Runs.aloadN (g j17 3 rfl) rfl rfl ?_
 refine Runs.instN (g j17 4 rfl) (wd hw 107 rfl) F0.1.1 (own_noN hw) ?_
 refine Runs.ifY (t := 31) (g j17 5 rfl) (by decide) (teq (by decide : (0 : Int32) = (0 : Int32))).1 ?_
 refine Runs.aloadN (g j17 6 rfl) rfl rfl ?_
 refine Runs.callIW (argsL := []) (rest := []) (W := 0) (g j17 7 rfl) (wd hw 108 rfl) (wd hw 109 rfl) (wd hw 110 rfl) (wd hw 111 rfl) (wd hw 112 rfl) (wd hw 113 rfl) (wd hw 114 rfl) (wd hw 115 rfl) (wd hw 116 rfl) (wd hw 3 rfl) (by decide) F0.1.1 pd_7 rfl rfl rfl rfl (by decide) (by decide) (by decide) (by decide) all0 (by decide) (own_emp2 l Z a0 hw n0 a b _ F0.1) ?_
 rintro v h1 D1 ⟨rfl, rfl, rfl⟩ hsz
 show Runs _ _ _ _ _ _ _ _ _ _ _ _ [] h0 0 0 37 _ [(.int 0)]
 refine Runs.ifY (t := 44) (g j17 8 rfl) (by decide) (teq (by decide : (0 : Int32) = (0 : Int32))).1 ?_
 refine Runs.aloadN (g j17 11 rfl) rfl rfl ?_
 refine Runs.callIW (argsL := []) (rest := []) (W := 0) (g j17 12 rfl) (wd hw 117 rfl) (wd hw 118 rfl) (wd hw 119 rfl) (wd hw 120 rfl) (wd hw 121 rfl) (wd hw 122 rfl) (wd hw 123 rfl) (wd hw 115 rfl) (wd hw 124 rfl) (wd hw 3 rfl) (by decide) F0.1.1 pd_46 rfl rfl rfl rfl (by decide) (by decide) (by decide) (by decide) all0 (by decide) (own_toa2 l Z a0 hw n0 a b k s1 s2 _ F0 X1 X2 hn0 mr M) ?_
 rintro v h1 D1 ⟨c1, k1, rfl, g1, K1, A1, rfl⟩ hsz
 show Runs _ _ _ _ _ _ _ _ _ _ _ _ [] h1 1 2 50 _ [(.ref c1)]
 refine Runs.callSW (argsL := [(.ref c1)]) (rest := []) (W := 0) (g j17 13 rfl) (wd hw 147 rfl) (wd hw 148 rfl) (wd hw 96 rfl) (wd hw 149 rfl) (by decide) pd_54 rfl rfl rfl rfl (by decide) (by decide) (by decide) (by decide) all0 (by decide) (own_lof2 l Z a0 hw n0 c1 k1 s1 s2 _ A1 eM S_M) ?_
 rintro v h2 D1 ⟨c2, rfl, g2, K2, O2, rfl⟩ hsz
 show Runs _ _ _ _ _ _ _ _ _ _ _ _ [] h2 2 4 53 _ [(.ref c2)]
 exact Runs.retA (g j17 14 rfl) rfl rfl rfl (by decide) (by decide) ⟨c2, rfl, Nat.le_trans K1.1 g2, K1.trans K2 all0, O2, rfl⟩
theorem own_lco2 (hw : Wds Z a0) (n0 : Nat) (a b : Addr) (k : ClassId) (s1 s2 : Addr) (h0 : Heap) (F0 : Obj Z h0 a S5_ [(S13_, S27_, "I", (.int 2)), (S5_, S18_, S7_, (.ref b)), (S5_, "size", "I", (.int 2))] ∧ Arv Z h0 b k (.object S8_) (10 : Int32) [(.ref s1), (.ref s2), .null, .null, .null, .null, .null, .null, .null, .null] .null ∧ Exa Z h0 b S7_ ∧ RoadKit.Ovr Z k S8_) (X1 : Exa Z h0 s1 S6_) (X2 : Exa Z h0 s2 S6_) (hn0 : n0 ≤ h0.size) (mr : Addr) (M : RoadKit.Mir Z S7_ mr) (eM : Addr) (S_M : Sta Z Z.heap S12_ "EMPTY" S9_ (.ref eM)) : Con 1 l Z EL_ n0 m16_ c16_ 1 (some (.object S26_)) ⟨7, 2, 4, 93⟩ #[(.ref a)] [] h0 (fun v h D' => ∃ c, v = some (.ref c) ∧ h0.size ≤ c ∧ Keep h0 h [] ∧ Obj Z h c S4_ [(S4_, "e0", S9_, (.ref s1)), (S4_, "e1", S9_, (.ref s2))] ∧ D' = []) := by
 refine Con.of_runs (ls := #[vr a]) (by decide +kernel) (ef rfl rfl) ?_
 refine Runs.aloadN (g j16 0 rfl) rfl rfl ?_
 refine Runs.callSW (argsL := [(.ref a)]) (rest := []) (W := 0) (g j16 1 rfl) (wd hw 98 rfl) (wd hw 99 rfl) (wd hw 100 rfl) (wd hw 101 rfl) (by decide) pd_49 rfl rfl rfl rfl (by decide) (by decide) (by decide) (by decide) all0 (by decide) (own_lcp2 l Z a0 hw n0 a b k s1 s2 _ F0 X1 X2 hn0 mr M eM S_M) ?_
 rintro v h2 D1 ⟨c2, rfl, g2, K2, O2, rfl⟩ hsz
 show Runs _ _ _ _ _ _ _ _ _ _ _ _ [] h2 2 4 4 _ [(.ref c2)]
 exact Runs.retA (g j16 2 rfl) rfl rfl rfl (by decide) (by decide) ⟨c2, rfl, g2, K2, O2, rfl⟩
theorem own_cli2 (hw : Wds Z a0) (n0 : Nat) (r q0 q1 q2 : Addr) (z : Int32) (hz : z = 0 ∨ z = 1) (a b : Addr) (k : ClassId) (s1 s2 : Addr) (h0 : Heap) (F0 : Obj Z h0 a S5_ [(S13_, S27_, "I", (.int 2)), (S5_, S18_, S7_, (.ref b)), (S5_, "size", "I", (.int 2))] ∧ Arv Z h0 b k (.object S8_) (10 : Int32) [(.ref s1), (.ref s2), .null, .null, .null, .null, .null, .null, .null, .null] .null ∧ Exa Z h0 b S7_ ∧ RoadKit.Ovr Z k S8_) (X1 : Exa Z h0 s1 S6_) (X2 : Exa Z h0 s2 S6_) (hn0 : n0 ≤ h0.size) (mr : Addr) (M : RoadKit.Mir Z S7_ mr) (eM : Addr) (S_M : Sta Z Z.heap S12_ "EMPTY" S9_ (.ref eM)) (gr : n0 ≤ r) (OR : Obj Z h0 r S1_ [(S1_, "clientId", S11_, .null), (S1_, "clientName", S11_, .null), (S1_, S24_, S11_, .null), (S1_, S25_, S16_, .null), (S1_, S23_, "Z", (.int 0))]) : Con 1 l Z EL_ n0 m14_ c14_ 6 none ⟨8, 2, 4, 105⟩ #[(.ref r), (.ref q0), (.ref q1), (.ref q2), (.ref a), (.int z)] [] h0 (fun v h D' => v = none ∧ ∃ c, h0.size ≤ c ∧ Keep h0 h [r] ∧ Obj Z h r S1_ [(S1_, "clientId", S11_, (.ref q0)), (S1_, "clientName", S11_, (.ref q1)), (S1_, S24_, S11_, (.ref q2)), (S1_, S25_, S16_, (.ref c)), (S1_, S23_, "Z", (.int z))] ∧ Obj Z h c S4_ [(S4_, "e0", S9_, (.ref s1)), (S4_, "e1", S9_, (.ref s2))] ∧ D' = []) := by
 refine Con.of_runs (ls := #[vr r, vr q0, vr q1, vr q2, vr a, vi z]) (by decide +kernel) (ef rfl rfl) ?_
 refine Runs.aloadN (g j14 0 rfl) rfl rfl ?_
 refine Runs.callCW (argsL := []) (rest := []) (W := 0) (g j14 1 rfl) rfl (wd hw 88 rfl) (wd hw 89 rfl) (wd hw 92 rfl) (wd hw 91 rfl) (by decide) pd_10 rfl rfl rfl rfl (by decide) (by decide) (by decide) (by decide) all0 (by decide) (own_cR l Z a0 hw n0 r _) ?_
 rintro v h1 D1 ⟨rfl, rfl, rfl⟩ hsz
 show Runs _ _ _ _ _ _ _ _ _ _ _ _ [] h0 0 0 4 _ []
 refine Runs.aload (g j14 2 rfl) rfl rfl ?_
 refine Runs.callSW (argsL := [(.ref a)]) (rest := []) (W := 0) (g j14 3 rfl) (wd hw 94 rfl) (wd hw 95 rfl) (wd hw 96 rfl) (wd hw 97 rfl) (by decide) pd_49 rfl rfl rfl rfl (by decide) (by decide) (by decide) (by decide) all0 (by decide) (own_lco2 l Z a0 hw n0 a b k s1 s2 _ F0 X1 X2 hn0 mr M eM S_M) ?_
 rintro v h1 D1 ⟨c, rfl, gc, K1, OL, rfl⟩ hsz
 show Runs _ _ _ _ _ _ _ _ _ _ _ _ [] h1 2 4 9 _ [(.ref c)]
 refine Runs.astore (ls' := #[vr r, vr q0, vr q1, vr q2, vr c, vi z]) (g j14 4 rfl) rfl rfl ?_
 refine Runs.aloadN (g j14 5 rfl) rfl rfl ?_
 refine Runs.aloadN (g j14 6 rfl) rfl rfl ?_
 have O_1 := (OR.keep K1 nin0)
 refine Runs.putF (i := 0) (ty := (.object S6_)) (g j14 7 rfl) (host := "") (Or.inl (wd hw 180 rfl)) Via.refl O_1 rfl (lay_4 hw) rfl (Or.inr ⟨(wd hw 181 rfl), rfl, rfl⟩) (wd hw 83 rfl) (by decide) rfl rfl gr (Or.inr ⟨by decide, by decide⟩) ?_
 intro h_2 K_3 (O_4 : Obj Z h_2 r S1_ [(S1_, "clientId", S11_, (.ref q0)), (S1_, "clientName", S11_, .null), (S1_, S24_, S11_, .null), (S1_, S25_, S16_, .null), (S1_, S23_, "Z", (.int 0))])
 refine Runs.aloadN (g j14 8 rfl) rfl rfl ?_
 refine Runs.aloadN (g j14 9 rfl) rfl rfl ?_
 refine Runs.putF (i := 1) (ty := (.object S6_)) (g j14 10 rfl) (host := "") (Or.inl (wd hw 182 rfl)) Via.refl O_4 rfl (lay_4 hw) rfl (Or.inr ⟨(wd hw 183 rfl), rfl, rfl⟩) (wd hw 83 rfl) (by decide) rfl rfl gr (Or.inr ⟨by decide, by decide⟩) ?_
 intro h_5 K_6 (O_7 : Obj Z h_5 r S1_ [(S1_, "clientId", S11_, (.ref q0)), (S1_, "clientName", S11_, (.ref q1)), (S1_, S24_, S11_, .null), (S1_, S25_, S16_, .null), (S1_, S23_, "Z", (.int 0))])
 refine Runs.aloadN (g j14 11 rfl) rfl rfl ?_
 refine Runs.aloadN (g j14 12 rfl) rfl rfl ?_
 refine Runs.putF (i := 2) (ty := (.object S6_)) (g j14 13 rfl) (host := "") (Or.inl (wd hw 184 rfl)) Via.refl O_7 rfl (lay_4 hw) rfl (Or.inr ⟨(wd hw 185 rfl), rfl, rfl⟩) (wd hw 83 rfl) (by decide) rfl rfl gr (Or.inr ⟨by decide, by decide⟩) ?_
 intro h_8 K_9 (O_10 : Obj Z h_8 r S1_ [(S1_, "clientId", S11_, (.ref q0)), (S1_, "clientName", S11_, (.ref q1)), (S1_, S24_, S11_, (.ref q2)), (S1_, S25_, S16_, .null), (S1_, S23_, "Z", (.int 0))])
 refine Runs.aloadN (g j14 14 rfl) rfl rfl ?_
 refine Runs.aload (g j14 15 rfl) rfl rfl ?_
 refine Runs.putF (i := 3) (ty := (.object S26_)) (g j14 16 rfl) (host := "") (Or.inl (wd hw 186 rfl)) Via.refl O_10 rfl (lay_4 hw) rfl (Or.inr ⟨(wd hw 187 rfl), rfl, rfl⟩) (wd hw 83 rfl) (by decide) rfl rfl gr (Or.inr ⟨by decide, by decide⟩) ?_
 intro h_11 K_12 (O_13 : Obj Z h_11 r S1_ [(S1_, "clientId", S11_, (.ref q0)), (S1_, "clientName", S11_, (.ref q1)), (S1_, S24_, S11_, (.ref q2)), (S1_, S25_, S16_, (.ref c)), (S1_, S23_, "Z", (.int 0))])
 refine Runs.aloadN (g j14 17 rfl) rfl rfl ?_
 refine Runs.iload (g j14 18 rfl) rfl ?_
 refine Runs.putF (i := 4) (ty := .boolean) (g j14 19 rfl) (host := "") (Or.inl (wd hw 188 rfl)) Via.refl O_13 rfl (lay_4 hw) rfl (Or.inr ⟨(wd hw 189 rfl), rfl, rfl⟩) (wd hw 83 rfl) (by decide) (by rcases hz with rfl | rfl <;> rfl) (by rcases hz with rfl | rfl <;> rfl) gr (Or.inr ⟨by decide, by decide⟩) ?_
 intro h_14 K_15 (O_16 : Obj Z h_14 r S1_ [(S1_, "clientId", S11_, (.ref q0)), (S1_, "clientName", S11_, (.ref q1)), (S1_, S24_, S11_, (.ref q2)), (S1_, S25_, S16_, (.ref c)), (S1_, S23_, "Z", (.int z))])
 exact Runs.retV (g j14 20 rfl) rfl (by decide) (by decide) ⟨rfl, c, gc, (((((((Keep.refl _ _).trans K1 all0).trans K_3 (allS (Or.inl (mi 0 rfl)) all0)).trans K_6 (allS (Or.inl (mi 0 rfl)) all0)).trans K_9 (allS (Or.inl (mi 0 rfl)) all0)).trans K_12 (allS (Or.inl (mi 0 rfl)) all0)).trans K_15 (allS (Or.inl (mi 0 rfl)) all0)), O_16, (((((OL.keep K_3 (ninS (Nat.ne_of_gt (Nat.lt_of_lt_of_le (Nat.lt_of_lt_of_le OR.lt (Nat.le_refl _)) gc)) nin0)).keep K_6 (ninS (Nat.ne_of_gt (Nat.lt_of_lt_of_le (Nat.lt_of_lt_of_le OR.lt (Nat.le_refl _)) gc)) nin0)).keep K_9 (ninS (Nat.ne_of_gt (Nat.lt_of_lt_of_le (Nat.lt_of_lt_of_le OR.lt (Nat.le_refl _)) gc)) nin0)).keep K_12 (ninS (Nat.ne_of_gt (Nat.lt_of_lt_of_le (Nat.lt_of_lt_of_le OR.lt (Nat.le_refl _)) gc)) nin0)).keep K_15 (ninS (Nat.ne_of_gt (Nat.lt_of_lt_of_le (Nat.lt_of_lt_of_le OR.lt (Nat.le_refl _)) gc)) nin0)), rfl⟩
theorem own_lx (hw : Wds Z a0) (n0 : Nat) (b u : Addr) (k2 : ClassId) (ys : List Int32) (h0 : Heap) (S0 : Sy Z h0 b u k2 ys) (cpt : Int32) (S_C : SC Z cpt) (hcpt : ¬ cpt = 0) : Con 1 l Z EL_ n0 m33_ c33_ 1 (some .int) ⟨1, 0, 0, 13⟩ #[(.ref b)] [] h0 (fun v h D' => v = some (.int (Int32.ofNat ys.length)) ∧ h0 = h ∧ D' = []) := by
 rcases S0 with S0 | S0
 · exact own_len l Z a0 hw n0 b u k2 ys h0 S0 cpt S_C hcpt
 · exact own_lenw l Z a0 hw n0 b u k2 ys h0 S0 cpt S_C hcpt
theorem own_lc (hw : Wds Z a0) (n0 : Nat) (b u : Addr) (k2 : ClassId) (cs : List Int32) (d e : Addr) (k3 : ClassId) (ts : List Int32) (h0 : Heap) (S0 : Sy Z h0 b u k2 cs) (T0 : Sy Z h0 d e k3 ts) (p i : Nat) (hp : p < 1000 ∧ i < 1000) (H : i < ts.length → p + i < cs.length ∧ cs.getD (p + i) 0 = ts.getD i 0) (cpt : Int32) (S_C : SC Z cpt) (hcpt : ¬ cpt = 0) (S_A : SA Z) (S_H : SH Z) (S_L : SL Z) (fm : Value) (hfm : fm.isRef = true) (S_F : SF Z fm) : Con 1 l Z EL_ n0 (⟨S14_, "c", "(Ljava/lang/String;ILjava/lang/String;I)Z"⟩ : MethodName) c72_ 4 (some .boolean) ⟨5, 0, 0, 67⟩ #[(.ref b), (.int (Int32.ofNat p)), (.ref d), (.int (Int32.ofNat i))] [] h0 (fun v h D' => v = some (.int 1) ∧ h0 = h ∧ D' = []) := by
 refine Con.of_runs (ls := #[vr b, vi (Int32.ofNat p), vr d, vi (Int32.ofNat i)]) (by decide +kernel) (ef rfl rfl) ?_
 have hlt : ts.length < 1000000 := T0.elim (fun q => q.2.2.2) (fun q => q.2.2.2)
 by_cases hq : i < ts.length
 · skip
   refine Runs.iloadN (g j72 0 rfl) rfl ?_
   refine Runs.aloadN (g j72 1 rfl) rfl rfl ?_
   refine Runs.callVW (argsL := []) (rest := [(.int (Int32.ofNat i))]) (W := 1) (g j72 2 rfl) (wd hw 424 rfl) (wd hw 227 rfl) (fun s hZ => notFace_of_selects (args := #[]) (mvT hZ (wd hw 229 rfl))) (wd hw 229 rfl) (wd hw 228 rfl) (wd hw 230 rfl) (wd hw 29 rfl) (by decide) (own_sxa T0).1 pd_4 rfl rfl rfl rfl (by decide) (by decide) (by decide) (by decide) all0 (by decide) (own_lx l Z a0 hw n0 d e k3 ts _ T0 cpt S_C hcpt) ?_
   rintro v h1 D1 ⟨rfl, rfl, rfl⟩ hsz
   show Runs _ _ _ _ _ _ _ _ _ _ _ _ [] h0 0 0 5 _ [(.int (Int32.ofNat ts.length)), (.int (Int32.ofNat i))]
   refine Runs.icN (g j72 3 rfl) (tlt (own_lt (a := i) (b := ts.length) (by omega) (by omega))).2.1 ?_
   refine Runs.aloadN (g j72 4 rfl) rfl rfl ?_
   refine Runs.iloadN (g j72 5 rfl) rfl ?_
   refine Runs.iloadN (g j72 6 rfl) rfl ?_
   refine Runs.iadd (z := (Int32.ofNat (p + i))) (g j72 7 rfl) (own_add (a := p) (b := i) (by omega)) ?_
   refine Runs.callVW (argsL := [(.int (Int32.ofNat (p + i)))]) (rest := []) (W := 0) (g j72 8 rfl) (wd hw 425 rfl) (wd hw 426 rfl) (fun s hZ => notFace_of_selects (args := #[]) (mvT hZ (wd hw 428 rfl))) (wd hw 428 rfl) (wd hw 427 rfl) (wd hw 429 rfl) (wd hw 29 rfl) (by decide) (own_sxa S0).1 pd_56 rfl rfl rfl rfl (by decide) (by decide) (by decide) (by decide) all0 (by decide) (own_chx l Z a0 hw n0 b u k2 cs _ S0 (p + i) (H hq).1 cpt S_C hcpt S_A S_H S_L fm hfm S_F) ?_
   rintro v h1 D1 ⟨rfl, rfl, rfl⟩ hsz
   show Runs _ _ _ _ _ _ _ _ _ _ _ _ [] h0 0 0 15 _ [(.int (cs.getD (p + i) 0))]
   refine Runs.aloadN (g j72 9 rfl) rfl rfl ?_
   refine Runs.iloadN (g j72 10 rfl) rfl ?_
   refine Runs.callVW (argsL := [(.int (Int32.ofNat i))]) (rest := [(.int (cs.getD (p + i) 0))]) (W := 1) (g j72 11 rfl) (wd hw 425 rfl) (wd hw 426 rfl) (fun s hZ => notFace_of_selects (args := #[]) (mvT hZ (wd hw 428 rfl))) (wd hw 428 rfl) (wd hw 427 rfl) (wd hw 429 rfl) (wd hw 29 rfl) (by decide) (own_sxa T0).1 pd_56 rfl rfl rfl rfl (by decide) (by decide) (by decide) (by decide) all0 (by decide) (own_chx l Z a0 hw n0 d e k3 ts _ T0 i hq cpt S_C hcpt S_A S_H S_L fm hfm S_F) ?_
   rintro v h1 D1 ⟨rfl, rfl, rfl⟩ hsz
   show Runs _ _ _ _ _ _ _ _ _ _ _ _ [] h0 0 0 20 _ [(.int (ts.getD i 0)), (.int (cs.getD (p + i) 0))]
   refine Runs.icN (g j72 12 rfl) (teq (H hq).2).2 ?_
   refine Runs.iconst (v := (1 : Int32)) (g j72 13 rfl) (by decide) ?_
   refine Runs.goto (t := 28) (g j72 14 rfl) (by decide) ?_
   exact Runs.retI (z := (1 : Int32)) (g j72 15 rfl) rfl (Or.inr (Or.inl rfl)) (by decide) (by decide) (by decide) ⟨rfl, rfl, rfl⟩
 · skip
   refine Runs.iloadN (g j72 0 rfl) rfl ?_
   refine Runs.aloadN (g j72 1 rfl) rfl rfl ?_
   refine Runs.callVW (argsL := []) (rest := [(.int (Int32.ofNat i))]) (W := 1) (g j72 2 rfl) (wd hw 424 rfl) (wd hw 227 rfl) (fun s hZ => notFace_of_selects (args := #[]) (mvT hZ (wd hw 229 rfl))) (wd hw 229 rfl) (wd hw 228 rfl) (wd hw 230 rfl) (wd hw 29 rfl) (by decide) (own_sxa T0).1 pd_4 rfl rfl rfl rfl (by decide) (by decide) (by decide) (by decide) all0 (by decide) (own_lx l Z a0 hw n0 d e k3 ts _ T0 cpt S_C hcpt) ?_
   rintro v h1 D1 ⟨rfl, rfl, rfl⟩ hsz
   show Runs _ _ _ _ _ _ _ _ _ _ _ _ [] h0 0 0 5 _ [(.int (Int32.ofNat ts.length)), (.int (Int32.ofNat i))]
   refine Runs.icY (t := 23) (g j72 3 rfl) (by decide) (flt (own_nlt (a := i) (b := ts.length) (by omega) (by omega))).2.1 ?_
   refine Runs.iconst (v := (1 : Int32)) (g j72 13 rfl) (by decide) ?_
   refine Runs.goto (t := 28) (g j72 14 rfl) (by decide) ?_
   exact Runs.retI (z := (1 : Int32)) (g j72 15 rfl) rfl (Or.inr (Or.inl rfl)) (by decide) (by decide) (by decide) ⟨rfl, rfl, rfl⟩
theorem own_seg (hw : Wds Z a0) (n0 : Nat) (b u : Addr) (k2 : ClassId) (cs : List Int32) (d e : Addr) (k3 : ClassId) (ts : List Int32) (h0 : Heap) (S0 : Sy Z h0 b u k2 cs) (T0 : Sy Z h0 d e k3 ts) (p : Nat) (hp : p < 900) (hl : ts.length ≤ 16) (H : ∀ i, i < ts.length → p + i < cs.length ∧ cs.getD (p + i) 0 = ts.getD i 0) (cpt : Int32) (S_C : SC Z cpt) (hcpt : ¬ cpt = 0) (S_A : SA Z) (S_H : SH Z) (S_L : SL Z) (fm : Value) (hfm : fm.isRef = true) (S_F : SF Z fm) : Con 1 l Z EL_ n0 (⟨S14_, "seg", "(Ljava/lang/String;ILjava/lang/String;)Z"⟩ : MethodName) c71_ 3 (some .boolean) ⟨6, 0, 0, 82⟩ #[(.ref b), (.int (Int32.ofNat p)), (.ref d)] [] h0 (fun v h D' => v = some (.int 1) ∧ h0 = h ∧ D' = []) := by
 refine Con.of_runs (ls := #[vr b, vi (Int32.ofNat p), vr d]) (by decide +kernel) (ef rfl rfl) ?_
 refine Runs.aloadN (g j71 0 rfl) rfl rfl ?_
 refine Runs.callVW (argsL := []) (rest := []) (W := 0) (g j71 1 rfl) (wd hw 424 rfl) (wd hw 227 rfl) (fun s hZ => notFace_of_selects (args := #[]) (mvT hZ (wd hw 229 rfl))) (wd hw 229 rfl) (wd hw 228 rfl) (wd hw 230 rfl) (wd hw 29 rfl) (by decide) (own_sxa T0).1 pd_4 rfl rfl rfl rfl (by decide) (by decide) (by decide) (by decide) all0 (by decide) (own_lx l Z a0 hw n0 d e k3 ts _ T0 cpt S_C hcpt) ?_
 rintro v h1 D1 ⟨rfl, rfl, rfl⟩ hsz
 show Runs _ _ _ _ _ _ _ _ _ _ _ _ [] h0 0 0 4 _ [(.int (Int32.ofNat ts.length))]
 refine Runs.bipush (v := (16 : Int32)) (g j71 2 rfl) (by decide) ?_
 refine Runs.icN (g j71 3 rfl) (flt (own_nlt (a := 16) (b := ts.length) (by omega) (by omega))).2.2.1 ?_
 refine Runs.aloadN (g j71 4 rfl) rfl rfl ?_
 refine Runs.iloadN (g j71 5 rfl) rfl ?_
 refine Runs.aloadN (g j71 6 rfl) rfl rfl ?_
 refine Runs.iconst (v := (0 : Int32)) (g j71 7 rfl) (by decide) ?_
 refine Runs.callSW (argsL := [(.ref b), (.int (Int32.ofNat p)), (.ref d), (.int 0)]) (rest := []) (W := 0) (g j71 8 rfl) (wd hw 451 rfl) (wd hw 452 rfl) (wd hw 449 rfl) (wd hw 453 rfl) (by decide) pd_57 rfl rfl rfl rfl (by decide) (by decide) (by decide) (by decide) all0 (by decide) (own_lc l Z a0 hw n0 b u k2 cs d e k3 ts _ S0 T0 p 0 (by omega) (H 0) cpt S_C hcpt S_A S_H S_L fm hfm S_F) ?_
 rintro v h1 D1 ⟨rfl, rfl, rfl⟩ hsz
 show Runs _ _ _ _ _ _ _ _ _ _ _ _ [] h0 0 0 16 _ [(.int 1)]
 refine Runs.ifN (g j71 9 rfl) (feq (by decide : ¬ ((1 : Int32) = (0 : Int32)))).1 ?_
 refine Runs.aloadN (g j71 10 rfl) rfl rfl ?_
 refine Runs.iloadN (g j71 11 rfl) rfl ?_
 refine Runs.aloadN (g j71 12 rfl) rfl rfl ?_
 refine Runs.iconst (v := (1 : Int32)) (g j71 13 rfl) (by decide) ?_
 refine Runs.callSW (argsL := [(.ref b), (.int (Int32.ofNat p)), (.ref d), (.int 1)]) (rest := []) (W := 0) (g j71 14 rfl) (wd hw 451 rfl) (wd hw 452 rfl) (wd hw 449 rfl) (wd hw 453 rfl) (by decide) pd_57 rfl rfl rfl rfl (by decide) (by decide) (by decide) (by decide) all0 (by decide) (own_lc l Z a0 hw n0 b u k2 cs d e k3 ts _ S0 T0 p 1 (by omega) (H 1) cpt S_C hcpt S_A S_H S_L fm hfm S_F) ?_
 rintro v h1 D1 ⟨rfl, rfl, rfl⟩ hsz
 show Runs _ _ _ _ _ _ _ _ _ _ _ _ [] h0 0 0 26 _ [(.int 1)]
 refine Runs.ifN (g j71 15 rfl) (feq (by decide : ¬ ((1 : Int32) = (0 : Int32)))).1 ?_
 refine Runs.aloadN (g j71 16 rfl) rfl rfl ?_
 refine Runs.iloadN (g j71 17 rfl) rfl ?_
 refine Runs.aloadN (g j71 18 rfl) rfl rfl ?_
 refine Runs.iconst (v := (2 : Int32)) (g j71 19 rfl) (by decide) ?_
 refine Runs.callSW (argsL := [(.ref b), (.int (Int32.ofNat p)), (.ref d), (.int 2)]) (rest := []) (W := 0) (g j71 20 rfl) (wd hw 451 rfl) (wd hw 452 rfl) (wd hw 449 rfl) (wd hw 453 rfl) (by decide) pd_57 rfl rfl rfl rfl (by decide) (by decide) (by decide) (by decide) all0 (by decide) (own_lc l Z a0 hw n0 b u k2 cs d e k3 ts _ S0 T0 p 2 (by omega) (H 2) cpt S_C hcpt S_A S_H S_L fm hfm S_F) ?_
 rintro v h1 D1 ⟨rfl, rfl, rfl⟩ hsz
 show Runs _ _ _ _ _ _ _ _ _ _ _ _ [] h0 0 0 36 _ [(.int 1)]
 refine Runs.ifN (g j71 21 rfl) (feq (by decide : ¬ ((1 : Int32) = (0 : Int32)))).1 ?_
 refine Runs.aloadN (g j71 22 rfl) rfl rfl ?_
 refine Runs.iloadN (g j71 23 rfl) rfl ?_
 refine Runs.aloadN (g j71 24 rfl) rfl rfl ?_
 refine Runs.iconst (v := (3 : Int32)) (g j71 25 rfl) (by decide) ?_
 refine Runs.callSW (argsL := [(.ref b), (.int (Int32.ofNat p)), (.ref d), (.int 3)]) (rest := []) (W := 0) (g j71 26 rfl) (wd hw 451 rfl) (wd hw 452 rfl) (wd hw 449 rfl) (wd hw 453 rfl) (by decide) pd_57 rfl rfl rfl rfl (by decide) (by decide) (by decide) (by decide) all0 (by decide) (own_lc l Z a0 hw n0 b u k2 cs d e k3 ts _ S0 T0 p 3 (by omega) (H 3) cpt S_C hcpt S_A S_H S_L fm hfm S_F) ?_
 rintro v h1 D1 ⟨rfl, rfl, rfl⟩ hsz
 show Runs _ _ _ _ _ _ _ _ _ _ _ _ [] h0 0 0 46 _ [(.int 1)]
 refine Runs.ifN (g j71 27 rfl) (feq (by decide : ¬ ((1 : Int32) = (0 : Int32)))).1 ?_
 refine Runs.aloadN (g j71 28 rfl) rfl rfl ?_
 refine Runs.iloadN (g j71 29 rfl) rfl ?_
 refine Runs.aloadN (g j71 30 rfl) rfl rfl ?_
 refine Runs.iconst (v := (4 : Int32)) (g j71 31 rfl) (by decide) ?_
 refine Runs.callSW (argsL := [(.ref b), (.int (Int32.ofNat p)), (.ref d), (.int 4)]) (rest := []) (W := 0) (g j71 32 rfl) (wd hw 451 rfl) (wd hw 452 rfl) (wd hw 449 rfl) (wd hw 453 rfl) (by decide) pd_57 rfl rfl rfl rfl (by decide) (by decide) (by decide) (by decide) all0 (by decide) (own_lc l Z a0 hw n0 b u k2 cs d e k3 ts _ S0 T0 p 4 (by omega) (H 4) cpt S_C hcpt S_A S_H S_L fm hfm S_F) ?_
 rintro v h1 D1 ⟨rfl, rfl, rfl⟩ hsz
 show Runs _ _ _ _ _ _ _ _ _ _ _ _ [] h0 0 0 56 _ [(.int 1)]
 refine Runs.ifN (g j71 33 rfl) (feq (by decide : ¬ ((1 : Int32) = (0 : Int32)))).1 ?_
 refine Runs.aloadN (g j71 34 rfl) rfl rfl ?_
 refine Runs.iloadN (g j71 35 rfl) rfl ?_
 refine Runs.aloadN (g j71 36 rfl) rfl rfl ?_
 refine Runs.iconst (v := (5 : Int32)) (g j71 37 rfl) (by decide) ?_
 refine Runs.callSW (argsL := [(.ref b), (.int (Int32.ofNat p)), (.ref d), (.int 5)]) (rest := []) (W := 0) (g j71 38 rfl) (wd hw 451 rfl) (wd hw 452 rfl) (wd hw 449 rfl) (wd hw 453 rfl) (by decide) pd_57 rfl rfl rfl rfl (by decide) (by decide) (by decide) (by decide) all0 (by decide) (own_lc l Z a0 hw n0 b u k2 cs d e k3 ts _ S0 T0 p 5 (by omega) (H 5) cpt S_C hcpt S_A S_H S_L fm hfm S_F) ?_
 rintro v h1 D1 ⟨rfl, rfl, rfl⟩ hsz
 show Runs _ _ _ _ _ _ _ _ _ _ _ _ [] h0 0 0 66 _ [(.int 1)]
 refine Runs.ifN (g j71 39 rfl) (feq (by decide : ¬ ((1 : Int32) = (0 : Int32)))).1 ?_
 refine Runs.aloadN (g j71 40 rfl) rfl rfl ?_
 refine Runs.iloadN (g j71 41 rfl) rfl ?_
 refine Runs.aloadN (g j71 42 rfl) rfl rfl ?_
 refine Runs.bipush (v := (6 : Int32)) (g j71 43 rfl) (by decide) ?_
 refine Runs.callSW (argsL := [(.ref b), (.int (Int32.ofNat p)), (.ref d), (.int 6)]) (rest := []) (W := 0) (g j71 44 rfl) (wd hw 451 rfl) (wd hw 452 rfl) (wd hw 449 rfl) (wd hw 453 rfl) (by decide) pd_57 rfl rfl rfl rfl (by decide) (by decide) (by decide) (by decide) all0 (by decide) (own_lc l Z a0 hw n0 b u k2 cs d e k3 ts _ S0 T0 p 6 (by omega) (H 6) cpt S_C hcpt S_A S_H S_L fm hfm S_F) ?_
 rintro v h1 D1 ⟨rfl, rfl, rfl⟩ hsz
 show Runs _ _ _ _ _ _ _ _ _ _ _ _ [] h0 0 0 77 _ [(.int 1)]
 refine Runs.ifN (g j71 45 rfl) (feq (by decide : ¬ ((1 : Int32) = (0 : Int32)))).1 ?_
 refine Runs.aloadN (g j71 46 rfl) rfl rfl ?_
 refine Runs.iloadN (g j71 47 rfl) rfl ?_
 refine Runs.aloadN (g j71 48 rfl) rfl rfl ?_
 refine Runs.bipush (v := (7 : Int32)) (g j71 49 rfl) (by decide) ?_
 refine Runs.callSW (argsL := [(.ref b), (.int (Int32.ofNat p)), (.ref d), (.int 7)]) (rest := []) (W := 0) (g j71 50 rfl) (wd hw 451 rfl) (wd hw 452 rfl) (wd hw 449 rfl) (wd hw 453 rfl) (by decide) pd_57 rfl rfl rfl rfl (by decide) (by decide) (by decide) (by decide) all0 (by decide) (own_lc l Z a0 hw n0 b u k2 cs d e k3 ts _ S0 T0 p 7 (by omega) (H 7) cpt S_C hcpt S_A S_H S_L fm hfm S_F) ?_
 rintro v h1 D1 ⟨rfl, rfl, rfl⟩ hsz
 show Runs _ _ _ _ _ _ _ _ _ _ _ _ [] h0 0 0 88 _ [(.int 1)]
 refine Runs.ifN (g j71 51 rfl) (feq (by decide : ¬ ((1 : Int32) = (0 : Int32)))).1 ?_
 refine Runs.aloadN (g j71 52 rfl) rfl rfl ?_
 refine Runs.iloadN (g j71 53 rfl) rfl ?_
 refine Runs.aloadN (g j71 54 rfl) rfl rfl ?_
 refine Runs.bipush (v := (8 : Int32)) (g j71 55 rfl) (by decide) ?_
 refine Runs.callSW (argsL := [(.ref b), (.int (Int32.ofNat p)), (.ref d), (.int 8)]) (rest := []) (W := 0) (g j71 56 rfl) (wd hw 451 rfl) (wd hw 452 rfl) (wd hw 449 rfl) (wd hw 453 rfl) (by decide) pd_57 rfl rfl rfl rfl (by decide) (by decide) (by decide) (by decide) all0 (by decide) (own_lc l Z a0 hw n0 b u k2 cs d e k3 ts _ S0 T0 p 8 (by omega) (H 8) cpt S_C hcpt S_A S_H S_L fm hfm S_F) ?_
 rintro v h1 D1 ⟨rfl, rfl, rfl⟩ hsz
 show Runs _ _ _ _ _ _ _ _ _ _ _ _ [] h0 0 0 99 _ [(.int 1)]
 refine Runs.ifN (g j71 57 rfl) (feq (by decide : ¬ ((1 : Int32) = (0 : Int32)))).1 ?_
 refine Runs.aloadN (g j71 58 rfl) rfl rfl ?_
 refine Runs.iloadN (g j71 59 rfl) rfl ?_
 refine Runs.aloadN (g j71 60 rfl) rfl rfl ?_
 refine Runs.bipush (v := (9 : Int32)) (g j71 61 rfl) (by decide) ?_
 refine Runs.callSW (argsL := [(.ref b), (.int (Int32.ofNat p)), (.ref d), (.int 9)]) (rest := []) (W := 0) (g j71 62 rfl) (wd hw 451 rfl) (wd hw 452 rfl) (wd hw 449 rfl) (wd hw 453 rfl) (by decide) pd_57 rfl rfl rfl rfl (by decide) (by decide) (by decide) (by decide) all0 (by decide) (own_lc l Z a0 hw n0 b u k2 cs d e k3 ts _ S0 T0 p 9 (by omega) (H 9) cpt S_C hcpt S_A S_H S_L fm hfm S_F) ?_
 rintro v h1 D1 ⟨rfl, rfl, rfl⟩ hsz
 show Runs _ _ _ _ _ _ _ _ _ _ _ _ [] h0 0 0 110 _ [(.int 1)]
 refine Runs.ifN (g j71 63 rfl) (feq (by decide : ¬ ((1 : Int32) = (0 : Int32)))).1 ?_
 refine Runs.aloadN (g j71 64 rfl) rfl rfl ?_
 refine Runs.iloadN (g j71 65 rfl) rfl ?_
 refine Runs.aloadN (g j71 66 rfl) rfl rfl ?_
 refine Runs.bipush (v := (10 : Int32)) (g j71 67 rfl) (by decide) ?_
 refine Runs.callSW (argsL := [(.ref b), (.int (Int32.ofNat p)), (.ref d), (.int 10)]) (rest := []) (W := 0) (g j71 68 rfl) (wd hw 451 rfl) (wd hw 452 rfl) (wd hw 449 rfl) (wd hw 453 rfl) (by decide) pd_57 rfl rfl rfl rfl (by decide) (by decide) (by decide) (by decide) all0 (by decide) (own_lc l Z a0 hw n0 b u k2 cs d e k3 ts _ S0 T0 p 10 (by omega) (H 10) cpt S_C hcpt S_A S_H S_L fm hfm S_F) ?_
 rintro v h1 D1 ⟨rfl, rfl, rfl⟩ hsz
 show Runs _ _ _ _ _ _ _ _ _ _ _ _ [] h0 0 0 121 _ [(.int 1)]
 refine Runs.ifN (g j71 69 rfl) (feq (by decide : ¬ ((1 : Int32) = (0 : Int32)))).1 ?_
 refine Runs.aloadN (g j71 70 rfl) rfl rfl ?_
 refine Runs.iloadN (g j71 71 rfl) rfl ?_
 refine Runs.aloadN (g j71 72 rfl) rfl rfl ?_
 refine Runs.bipush (v := (11 : Int32)) (g j71 73 rfl) (by decide) ?_
 refine Runs.callSW (argsL := [(.ref b), (.int (Int32.ofNat p)), (.ref d), (.int 11)]) (rest := []) (W := 0) (g j71 74 rfl) (wd hw 451 rfl) (wd hw 452 rfl) (wd hw 449 rfl) (wd hw 453 rfl) (by decide) pd_57 rfl rfl rfl rfl (by decide) (by decide) (by decide) (by decide) all0 (by decide) (own_lc l Z a0 hw n0 b u k2 cs d e k3 ts _ S0 T0 p 11 (by omega) (H 11) cpt S_C hcpt S_A S_H S_L fm hfm S_F) ?_
 rintro v h1 D1 ⟨rfl, rfl, rfl⟩ hsz
 show Runs _ _ _ _ _ _ _ _ _ _ _ _ [] h0 0 0 132 _ [(.int 1)]
 refine Runs.ifN (g j71 75 rfl) (feq (by decide : ¬ ((1 : Int32) = (0 : Int32)))).1 ?_
 refine Runs.aloadN (g j71 76 rfl) rfl rfl ?_
 refine Runs.iloadN (g j71 77 rfl) rfl ?_
 refine Runs.aloadN (g j71 78 rfl) rfl rfl ?_
 refine Runs.bipush (v := (12 : Int32)) (g j71 79 rfl) (by decide) ?_
 refine Runs.callSW (argsL := [(.ref b), (.int (Int32.ofNat p)), (.ref d), (.int 12)]) (rest := []) (W := 0) (g j71 80 rfl) (wd hw 451 rfl) (wd hw 452 rfl) (wd hw 449 rfl) (wd hw 453 rfl) (by decide) pd_57 rfl rfl rfl rfl (by decide) (by decide) (by decide) (by decide) all0 (by decide) (own_lc l Z a0 hw n0 b u k2 cs d e k3 ts _ S0 T0 p 12 (by omega) (H 12) cpt S_C hcpt S_A S_H S_L fm hfm S_F) ?_
 rintro v h1 D1 ⟨rfl, rfl, rfl⟩ hsz
 show Runs _ _ _ _ _ _ _ _ _ _ _ _ [] h0 0 0 143 _ [(.int 1)]
 refine Runs.ifN (g j71 81 rfl) (feq (by decide : ¬ ((1 : Int32) = (0 : Int32)))).1 ?_
 refine Runs.aloadN (g j71 82 rfl) rfl rfl ?_
 refine Runs.iloadN (g j71 83 rfl) rfl ?_
 refine Runs.aloadN (g j71 84 rfl) rfl rfl ?_
 refine Runs.bipush (v := (13 : Int32)) (g j71 85 rfl) (by decide) ?_
 refine Runs.callSW (argsL := [(.ref b), (.int (Int32.ofNat p)), (.ref d), (.int 13)]) (rest := []) (W := 0) (g j71 86 rfl) (wd hw 451 rfl) (wd hw 452 rfl) (wd hw 449 rfl) (wd hw 453 rfl) (by decide) pd_57 rfl rfl rfl rfl (by decide) (by decide) (by decide) (by decide) all0 (by decide) (own_lc l Z a0 hw n0 b u k2 cs d e k3 ts _ S0 T0 p 13 (by omega) (H 13) cpt S_C hcpt S_A S_H S_L fm hfm S_F) ?_
 rintro v h1 D1 ⟨rfl, rfl, rfl⟩ hsz
 show Runs _ _ _ _ _ _ _ _ _ _ _ _ [] h0 0 0 154 _ [(.int 1)]
 refine Runs.ifN (g j71 87 rfl) (feq (by decide : ¬ ((1 : Int32) = (0 : Int32)))).1 ?_
 refine Runs.aloadN (g j71 88 rfl) rfl rfl ?_
 refine Runs.iloadN (g j71 89 rfl) rfl ?_
 refine Runs.aloadN (g j71 90 rfl) rfl rfl ?_
 refine Runs.bipush (v := (14 : Int32)) (g j71 91 rfl) (by decide) ?_
 refine Runs.callSW (argsL := [(.ref b), (.int (Int32.ofNat p)), (.ref d), (.int 14)]) (rest := []) (W := 0) (g j71 92 rfl) (wd hw 451 rfl) (wd hw 452 rfl) (wd hw 449 rfl) (wd hw 453 rfl) (by decide) pd_57 rfl rfl rfl rfl (by decide) (by decide) (by decide) (by decide) all0 (by decide) (own_lc l Z a0 hw n0 b u k2 cs d e k3 ts _ S0 T0 p 14 (by omega) (H 14) cpt S_C hcpt S_A S_H S_L fm hfm S_F) ?_
 rintro v h1 D1 ⟨rfl, rfl, rfl⟩ hsz
 show Runs _ _ _ _ _ _ _ _ _ _ _ _ [] h0 0 0 165 _ [(.int 1)]
 refine Runs.ifN (g j71 93 rfl) (feq (by decide : ¬ ((1 : Int32) = (0 : Int32)))).1 ?_
 refine Runs.aloadN (g j71 94 rfl) rfl rfl ?_
 refine Runs.iloadN (g j71 95 rfl) rfl ?_
 refine Runs.aloadN (g j71 96 rfl) rfl rfl ?_
 refine Runs.bipush (v := (15 : Int32)) (g j71 97 rfl) (by decide) ?_
 refine Runs.callSW (argsL := [(.ref b), (.int (Int32.ofNat p)), (.ref d), (.int 15)]) (rest := []) (W := 0) (g j71 98 rfl) (wd hw 451 rfl) (wd hw 452 rfl) (wd hw 449 rfl) (wd hw 453 rfl) (by decide) pd_57 rfl rfl rfl rfl (by decide) (by decide) (by decide) (by decide) all0 (by decide) (own_lc l Z a0 hw n0 b u k2 cs d e k3 ts _ S0 T0 p 15 (by omega) (H 15) cpt S_C hcpt S_A S_H S_L fm hfm S_F) ?_
 rintro v h1 D1 ⟨rfl, rfl, rfl⟩ hsz
 show Runs _ _ _ _ _ _ _ _ _ _ _ _ [] h0 0 0 176 _ [(.int 1)]
 refine Runs.ifN (g j71 99 rfl) (feq (by decide : ¬ ((1 : Int32) = (0 : Int32)))).1 ?_
 refine Runs.iconst (v := (1 : Int32)) (g j71 100 rfl) (by decide) ?_
 refine Runs.goto (t := 184) (g j71 101 rfl) (by decide) ?_
 exact Runs.retI (z := (1 : Int32)) (g j71 102 rfl) rfl (Or.inr (Or.inl rfl)) (by decide) (by decide) (by decide) ⟨rfl, rfl, rfl⟩
theorem own_segP {cs P T R : List Int32} {p : Nat} (h : cs = P ++ (T ++ R)) (hp : P.length = p) : ∀ i, i < T.length → p + i < cs.length ∧ cs.getD (p + i) 0 = T.getD i 0 := by
 subst h hp
 intro i hi
 refine ⟨by simp only [List.length_append]; omega, ?_⟩
 rw [List.getD_eq_getElem?_getD, List.getD_eq_getElem?_getD, List.getElem?_append_right (by omega), Nat.add_sub_cancel_left, List.getElem?_append_left hi]
theorem own_chP {cs P R : List Int32} {c : Int32} {p : Nat} (h : cs = P ++ c :: R) (hp : P.length = p) : p < cs.length ∧ cs.getD p 0 = c := by
 subst h hp
 refine ⟨by simp, ?_⟩
 rw [List.getD_eq_getElem?_getD, List.getElem?_append_right (by omega), Nat.sub_self]; rfl
theorem own_m16 (x : Int32) : ¬ (x &&& 65535) < 0 ∧ ¬ (65535 : Int32) < (x &&& 65535) := by
 have h : (x &&& 65535).toInt = x.toInt % (2 ^ 16 : Nat) := c_mask x 65535 16 (by decide) (by decide)
 have e1 : (0 : Int32).toInt = 0 := rfl
 have e2 : (65535 : Int32).toInt = 65535 := rfl
 rw [Int32.lt_iff_toInt_lt, Int32.lt_iff_toInt_lt]
 omega
theorem own_mod3 (x : Int32) : Jvm.Free.XT.ushr x 1 % 3 = 0 ∨ Jvm.Free.XT.ushr x 1 % 3 = 1 ∨ Jvm.Free.XT.ushr x 1 % 3 = 2 := by
 have h : (Jvm.Free.XT.ushr x 1).toInt = (x.toInt % 4294967296) / (2 ^ 1 : Nat) := c_iushr x 1 1 (by decide) (by decide)
 have h1 := (c_irem (Jvm.Free.XT.ushr x 1) 3 3 rfl).1 (by rw [h]; omega)
 have e0 : (0 : Int32).toInt = 0 := rfl
 have e1 : (1 : Int32).toInt = 1 := rfl
 have e2 : (2 : Int32).toInt = 2 := rfl
 rw [← Int32.toInt_inj, ← Int32.toInt_inj, ← Int32.toInt_inj, h1, e0, e1, e2]
 omega
theorem own_arr0 {args : Array Value} {s : State} {t : Term} {ty : FieldType} {a : Addr} (ev : t.eval args s none [] s = some (.ref a)) (hx : (Jvm.Cond.arrayOf t ty).value args s none s [] = some true) (h0 : (Term.length t).eval args s none [] s = some (.int 0)) : ∃ k, Arv s s.heap a k ty 0 [] .null := by
 obtain ⟨c, A⟩ := RoadKit.Arr.start ev hx
 obtain ⟨b, cell, e1, e2, e3, e4⟩ := Jvm.Lib.length_spec h0
 cases ev.symm.trans e1
 cases (RoadKit.Arr.fin (Vm.Alike.refl _) A).symm.trans e2
 have e5 : c.slots.size = 0 := (Jvm.Lib.toInt32_eq_zero e3).mp (Value.int.inj e4).symm
 exact ⟨_, c, A, rfl, by rw [e5]; rfl, by decide, fun k hk => absurd hk (by omega), fun k hk => absurd hk (by omega)⟩
theorem own_q213 : (own_T 213) = (own_T 446) := by unfold own_T; decide +kernel
theorem own_q275 : (own_T 275) = (own_T 454) := by unfold own_T; decide +kernel
theorem own_q276 : (own_T 276) = (own_T 455) := by unfold own_T; decide +kernel
theorem own_q402 : (own_T 402) = (own_T 456) := by unfold own_T; decide +kernel
theorem own_q412 : (own_T 412) = [93] := by unfold own_T; decide +kernel
theorem own_q511 : (own_T 511) = [91, 93] := by unfold own_T; decide +kernel
theorem own_qw1 : own_W 1 = (own_T 423) := by unfold own_T; decide +kernel
theorem own_qw0 : own_W 0 = (own_T 457) := by unfold own_T; decide +kernel
theorem own_lB2 (hw : Wds Z a0) (n0 : Nat) (y0 y1 y2 y3 y4 y5 y8 y9 y10 y11 y12 y13 y14 y16 : Slot) (b u : Addr) (k2 : ClassId) (cs : List Int32) (d e : Addr) (k3 : ClassId) (ws : List Int32) (h0 : Heap) (S0 : Sy Z h0 b u k2 cs) (T0 : Sy Z h0 d e k3 ws) (x0 x1 : Int32) (LS : List Int32) (q : Nat) (hq : LS.length + 46 = q ∧ q < 60) (hws : ws.length ≤ 5) (hcs : cs = ((own_T 446) ++ ([x0] ++ ((own_T 454) ++ ([x1] ++ ((own_T 455) ++ (LS ++ ((own_T 456) ++ (ws ++ [93]))))))))) (cpt : Int32) (S_C : SC Z cpt) (hcpt : ¬ cpt = 0) (S_A : SA Z) (S_H : SH Z) (S_L : SL Z) (fm : Value) (hfm : fm.isRef = true) (S_F : SF Z fm) : Runs 1 l Z EL_ n0 x.cls x.name code maxLocals ret room_1 (fun v h D' => v = some (.int 1)) [] h0 50 2966 302 #[y0, y1, y2, y3, y4, y5, vi x0, vi x1, y8, y9, y10, y11, y12, y13, y14, vr b, y16, vi (Int32.ofNat q), vr d, vi (Int32.ofNat (q + 17 + ws.length)), vi 1] [] := by
 refine Runs.aload (g j0 148 rfl) rfl rfl ?_
 refine Runs.iconst (v := (0 : Int32)) (g j0 149 rfl) (by decide) ?_
 refine Runs.ldcT (vs := (own_T 446).map own_b) (z := Int32.ofNat (own_T 446).length) (n := 64) (by decide) (g j0 150 rfl) (own_k446 hw) (own_sa hw) (own_EW hw) (mi 7 rfl) ⟨own_c446, own_Tb own_c446⟩ (own_nn (by rw [own_L446]; decide)) (by rw [own_cl (by rw [own_L446]; decide), List.length_map]) (by rw [← own_Tlen, own_L446]; decide) (by decide) (by decide) (by decide) ?_
 intro h_1 s_2 t_3 k_4 K_5 O_6 A_7 dd_8
 have S_9 : Str Z h_1 s_2 t_3 k_4 (own_T 446) := ⟨O_6, A_7, own_Tl own_c446, by rw [own_L446]; decide⟩
 show Runs _ _ _ _ _ _ _ _ _ _ _ _ [] h_1 52 3034 307 _ [(.ref s_2), (.int 0), (.ref b)]
 have S_10 := S0.keep K_5 nin0 nin0
 have T_11 := T0.keep K_5 nin0 nin0
 refine Runs.callSW (argsL := [(.ref b), (.int 0), (.ref s_2)]) (rest := []) (W := 0) (g j0 151 rfl) (wd hw 447 rfl) (wd hw 448 rfl) (wd hw 449 rfl) (wd hw 450 rfl) (by decide) pd_61 rfl rfl rfl rfl (by decide) (by decide) (by decide) (by decide) all0 (by decide) (own_seg l Z a0 hw n0 b u k2 cs s_2 t_3 k_4 (own_T 446) _ S_10 (Or.inl S_9) 0 (by omega) (by rw [own_L446]; decide) (own_segP (P := []) (R := ([x0] ++ ((own_T 454) ++ ([x1] ++ ((own_T 455) ++ (LS ++ ((own_T 456) ++ (ws ++ [93])))))))) (by rw [hcs]; simp only [List.append_assoc, List.cons_append, List.nil_append]) rfl) cpt S_C hcpt S_A S_H S_L fm hfm S_F) ?_
 rintro v h1 D1 ⟨rfl, rfl, rfl⟩ hsz
 show Runs _ _ _ _ _ _ _ _ _ _ _ _ [] h_1 52 3034 310 _ [(.int 1)]
 refine Runs.ifN (g j0 152 rfl) (feq (by decide : ¬ ((1 : Int32) = (0 : Int32)))).1 ?_
 refine Runs.aload (g j0 153 rfl) rfl rfl ?_
 refine Runs.bipush (v := (16 : Int32)) (g j0 154 rfl) (by decide) ?_
 have C317 := own_chP (cs := cs) (P := (own_T 446)) (R := ((own_T 454) ++ ([x1] ++ ((own_T 455) ++ (LS ++ ((own_T 456) ++ (ws ++ [93]))))))) (c := x0) (p := 16) (by rw [hcs]; simp only [List.append_assoc, List.cons_append, List.nil_append]) (by simp only [List.length_append, List.length_cons, List.length_nil, own_L446, own_L454, own_L455, own_L456] <;> omega)
 refine Runs.callVW (argsL := [(.int 16)]) (rest := []) (W := 0) (g j0 155 rfl) (wd hw 425 rfl) (wd hw 426 rfl) (fun s hZ => notFace_of_selects (args := #[]) (mvT hZ (wd hw 428 rfl))) (wd hw 428 rfl) (wd hw 427 rfl) (wd hw 429 rfl) (wd hw 29 rfl) (by decide) (own_sxa S_10).1 pd_56 rfl rfl rfl rfl (by decide) (by decide) (by decide) (by decide) all0 (by decide) (own_chx l Z a0 hw n0 b u k2 cs _ S_10 16 C317.1 cpt S_C hcpt S_A S_H S_L fm hfm S_F) ?_
 rintro v h1 D1 ⟨rfl, rfl, rfl⟩ hsz
 show Runs _ _ _ _ _ _ _ _ _ _ _ _ [] h_1 52 3034 320 _ [(.int (cs.getD 16 0))]
 refine Runs.iload (g j0 156 rfl) rfl ?_
 refine Runs.icN (g j0 157 rfl) (teq C317.2).2 ?_
 refine Runs.aload (g j0 158 rfl) rfl rfl ?_
 refine Runs.bipush (v := (17 : Int32)) (g j0 159 rfl) (by decide) ?_
 refine Runs.ldcT (vs := (own_T 454).map own_b) (z := Int32.ofNat (own_T 454).length) (n := 52) (by decide) (g j0 160 rfl) (own_k454 hw) (own_sa hw) (own_EW hw) (mi 8 rfl) ⟨own_c454, own_Tb own_c454⟩ (own_nn (by rw [own_L454]; decide)) (by rw [own_cl (by rw [own_L454]; decide), List.length_map]) (by rw [← own_Tlen, own_L454]; decide) (by decide) (by decide) (by decide) ?_
 intro h_12 s_13 t_14 k_15 K_16 O_17 A_18 dd_19
 have S_20 : Str Z h_12 s_13 t_14 k_15 (own_T 454) := ⟨O_17, A_18, own_Tl own_c454, by rw [own_L454]; decide⟩
 show Runs _ _ _ _ _ _ _ _ _ _ _ _ [] h_12 54 3090 331 _ [(.ref s_13), (.int 17), (.ref b)]
 have S_21 := S_10.keep K_16 nin0 nin0
 have T_22 := T_11.keep K_16 nin0 nin0
 refine Runs.callSW (argsL := [(.ref b), (.int 17), (.ref s_13)]) (rest := []) (W := 0) (g j0 161 rfl) (wd hw 447 rfl) (wd hw 448 rfl) (wd hw 449 rfl) (wd hw 450 rfl) (by decide) pd_61 rfl rfl rfl rfl (by decide) (by decide) (by decide) (by decide) all0 (by decide) (own_seg l Z a0 hw n0 b u k2 cs s_13 t_14 k_15 (own_T 454) _ S_21 (Or.inl S_20) 17 (by omega) (by rw [own_L454]; decide) (own_segP (P := ((own_T 446) ++ [x0])) (R := ([x1] ++ ((own_T 455) ++ (LS ++ ((own_T 456) ++ (ws ++ [93])))))) (by rw [hcs]; simp only [List.append_assoc, List.cons_append, List.nil_append]) (by simp only [List.length_append, List.length_cons, List.length_nil, own_L446, own_L454, own_L455, own_L456] <;> omega)) cpt S_C hcpt S_A S_H S_L fm hfm S_F) ?_
 rintro v h1 D1 ⟨rfl, rfl, rfl⟩ hsz
 show Runs _ _ _ _ _ _ _ _ _ _ _ _ [] h_12 54 3090 334 _ [(.int 1)]
 refine Runs.ifN (g j0 162 rfl) (feq (by decide : ¬ ((1 : Int32) = (0 : Int32)))).1 ?_
 refine Runs.aload (g j0 163 rfl) rfl rfl ?_
 refine Runs.bipush (v := (30 : Int32)) (g j0 164 rfl) (by decide) ?_
 have C341 := own_chP (cs := cs) (P := ((own_T 446) ++ ([x0] ++ (own_T 454)))) (R := ((own_T 455) ++ (LS ++ ((own_T 456) ++ (ws ++ [93]))))) (c := x1) (p := 30) (by rw [hcs]; simp only [List.append_assoc, List.cons_append, List.nil_append]) (by simp only [List.length_append, List.length_cons, List.length_nil, own_L446, own_L454, own_L455, own_L456] <;> omega)
 refine Runs.callVW (argsL := [(.int 30)]) (rest := []) (W := 0) (g j0 165 rfl) (wd hw 425 rfl) (wd hw 426 rfl) (fun s hZ => notFace_of_selects (args := #[]) (mvT hZ (wd hw 428 rfl))) (wd hw 428 rfl) (wd hw 427 rfl) (wd hw 429 rfl) (wd hw 29 rfl) (by decide) (own_sxa S_21).1 pd_56 rfl rfl rfl rfl (by decide) (by decide) (by decide) (by decide) all0 (by decide) (own_chx l Z a0 hw n0 b u k2 cs _ S_21 30 C341.1 cpt S_C hcpt S_A S_H S_L fm hfm S_F) ?_
 rintro v h1 D1 ⟨rfl, rfl, rfl⟩ hsz
 show Runs _ _ _ _ _ _ _ _ _ _ _ _ [] h_12 54 3090 344 _ [(.int (cs.getD 30 0))]
 refine Runs.iload (g j0 166 rfl) rfl ?_
 refine Runs.icN (g j0 167 rfl) (teq C341.2).2 ?_
 refine Runs.aload (g j0 168 rfl) rfl rfl ?_
 refine Runs.bipush (v := (31 : Int32)) (g j0 169 rfl) (by decide) ?_
 refine Runs.ldcT (vs := (own_T 455).map own_b) (z := Int32.ofNat (own_T 455).length) (n := 60) (by decide) (g j0 170 rfl) (own_k455 hw) (own_sa hw) (own_EW hw) (mi 9 rfl) ⟨own_c455, own_Tb own_c455⟩ (own_nn (by rw [own_L455]; decide)) (by rw [own_cl (by rw [own_L455]; decide), List.length_map]) (by rw [← own_Tlen, own_L455]; decide) (by decide) (by decide) (by decide) ?_
 intro h_23 s_24 t_25 k_26 K_27 O_28 A_29 dd_30
 have S_31 : Str Z h_23 s_24 t_25 k_26 (own_T 455) := ⟨O_28, A_29, own_Tl own_c455, by rw [own_L455]; decide⟩
 show Runs _ _ _ _ _ _ _ _ _ _ _ _ [] h_23 56 3154 355 _ [(.ref s_24), (.int 31), (.ref b)]
 have S_32 := S_21.keep K_27 nin0 nin0
 have T_33 := T_22.keep K_27 nin0 nin0
 refine Runs.callSW (argsL := [(.ref b), (.int 31), (.ref s_24)]) (rest := []) (W := 0) (g j0 171 rfl) (wd hw 447 rfl) (wd hw 448 rfl) (wd hw 449 rfl) (wd hw 450 rfl) (by decide) pd_61 rfl rfl rfl rfl (by decide) (by decide) (by decide) (by decide) all0 (by decide) (own_seg l Z a0 hw n0 b u k2 cs s_24 t_25 k_26 (own_T 455) _ S_32 (Or.inl S_31) 31 (by omega) (by rw [own_L455]; decide) (own_segP (P := ((own_T 446) ++ ([x0] ++ ((own_T 454) ++ [x1])))) (R := (LS ++ ((own_T 456) ++ (ws ++ [93])))) (by rw [hcs]; simp only [List.append_assoc, List.cons_append, List.nil_append]) (by simp only [List.length_append, List.length_cons, List.length_nil, own_L446, own_L454, own_L455, own_L456] <;> omega)) cpt S_C hcpt S_A S_H S_L fm hfm S_F) ?_
 rintro v h1 D1 ⟨rfl, rfl, rfl⟩ hsz
 show Runs _ _ _ _ _ _ _ _ _ _ _ _ [] h_23 56 3154 358 _ [(.int 1)]
 refine Runs.ifN (g j0 172 rfl) (feq (by decide : ¬ ((1 : Int32) = (0 : Int32)))).1 ?_
 refine Runs.iload (g j0 173 rfl) rfl ?_
 refine Runs.ifN (g j0 174 rfl) (feq (by decide : ¬ ((1 : Int32) = (0 : Int32)))).1 ?_
 refine Runs.aload (g j0 175 rfl) rfl rfl ?_
 refine Runs.iload (g j0 176 rfl) rfl ?_
 refine Runs.ldcT (vs := (own_T 456).map own_b) (z := Int32.ofNat (own_T 456).length) (n := 64) (by decide) (g j0 177 rfl) (own_k456 hw) (own_sa hw) (own_EW hw) (mi 10 rfl) ⟨own_c456, own_Tb own_c456⟩ (own_nn (by rw [own_L456]; decide)) (by rw [own_cl (by rw [own_L456]; decide), List.length_map]) (by rw [← own_Tlen, own_L456]; decide) (by decide) (by decide) (by decide) ?_
 intro h_34 s_35 t_36 k_37 K_38 O_39 A_40 dd_41
 have S_42 : Str Z h_34 s_35 t_36 k_37 (own_T 456) := ⟨O_39, A_40, own_Tl own_c456, by rw [own_L456]; decide⟩
 show Runs _ _ _ _ _ _ _ _ _ _ _ _ [] h_34 58 3222 372 _ [(.ref s_35), (.int (Int32.ofNat q)), (.ref b)]
 have S_43 := S_32.keep K_38 nin0 nin0
 have T_44 := T_33.keep K_38 nin0 nin0
 refine Runs.callSW (argsL := [(.ref b), (.int (Int32.ofNat q)), (.ref s_35)]) (rest := []) (W := 0) (g j0 178 rfl) (wd hw 447 rfl) (wd hw 448 rfl) (wd hw 449 rfl) (wd hw 450 rfl) (by decide) pd_61 rfl rfl rfl rfl (by decide) (by decide) (by decide) (by decide) all0 (by decide) (own_seg l Z a0 hw n0 b u k2 cs s_35 t_36 k_37 (own_T 456) _ S_43 (Or.inl S_42) q (by omega) (by rw [own_L456]; decide) (own_segP (P := ((own_T 446) ++ ([x0] ++ ((own_T 454) ++ ([x1] ++ ((own_T 455) ++ LS)))))) (R := (ws ++ [93])) (by rw [hcs]; simp only [List.append_assoc, List.cons_append, List.nil_append]) (by simp only [List.length_append, List.length_cons, List.length_nil, own_L446, own_L454, own_L455, own_L456] <;> omega)) cpt S_C hcpt S_A S_H S_L fm hfm S_F) ?_
 rintro v h1 D1 ⟨rfl, rfl, rfl⟩ hsz
 show Runs _ _ _ _ _ _ _ _ _ _ _ _ [] h_34 58 3222 375 _ [(.int 1)]
 refine Runs.ifN (g j0 179 rfl) (feq (by decide : ¬ ((1 : Int32) = (0 : Int32)))).1 ?_
 refine Runs.aload (g j0 180 rfl) rfl rfl ?_
 refine Runs.iload (g j0 181 rfl) rfl ?_
 refine Runs.bipush (v := (16 : Int32)) (g j0 182 rfl) (by decide) ?_
 refine Runs.iadd (z := (Int32.ofNat (q + 16))) (g j0 183 rfl) (own_add (a := q) (b := 16) (by omega)) ?_
 refine Runs.aload (g j0 184 rfl) rfl rfl ?_
 refine Runs.callSW (argsL := [(.ref b), (.int (Int32.ofNat (q + 16))), (.ref d)]) (rest := []) (W := 0) (g j0 185 rfl) (wd hw 447 rfl) (wd hw 448 rfl) (wd hw 449 rfl) (wd hw 450 rfl) (by decide) pd_61 rfl rfl rfl rfl (by decide) (by decide) (by decide) (by decide) all0 (by decide) (own_seg l Z a0 hw n0 b u k2 cs d e k3 ws _ S_43 T_44 (q + 16) (by omega) (by omega) (own_segP (P := ((own_T 446) ++ ([x0] ++ ((own_T 454) ++ ([x1] ++ ((own_T 455) ++ (LS ++ (own_T 456)))))))) (R := [93]) (by rw [hcs]; simp only [List.append_assoc, List.cons_append, List.nil_append]) (by simp only [List.length_append, List.length_cons, List.length_nil, own_L446, own_L454, own_L455, own_L456] <;> omega)) cpt S_C hcpt S_A S_H S_L fm hfm S_F) ?_
 rintro v h1 D1 ⟨rfl, rfl, rfl⟩ hsz
 show Runs _ _ _ _ _ _ _ _ _ _ _ _ [] h_34 58 3222 390 _ [(.int 1)]
 refine Runs.ifN (g j0 186 rfl) (feq (by decide : ¬ ((1 : Int32) = (0 : Int32)))).1 ?_
 refine Runs.aload (g j0 187 rfl) rfl rfl ?_
 refine Runs.iload (g j0 188 rfl) rfl ?_
 refine Runs.iconst (v := (1 : Int32)) (g j0 189 rfl) (by decide) ?_
 refine Runs.isub (z := (Int32.ofNat ((q + 17 + ws.length) - 1))) (g j0 190 rfl) (own_sub (a := (q + 17 + ws.length)) (b := 1) (by omega) (by omega)) ?_
 have C399 := own_chP (cs := cs) (P := ((own_T 446) ++ ([x0] ++ ((own_T 454) ++ ([x1] ++ ((own_T 455) ++ (LS ++ ((own_T 456) ++ ws)))))))) (R := []) (c := 93) (p := (q + 17 + ws.length - 1)) (by rw [hcs]; simp only [List.append_assoc, List.cons_append, List.nil_append]) (by simp only [List.length_append, List.length_cons, List.length_nil, own_L446, own_L454, own_L455, own_L456] <;> omega)
 refine Runs.callVW (argsL := [(.int (Int32.ofNat ((q + 17 + ws.length) - 1)))]) (rest := []) (W := 0) (g j0 191 rfl) (wd hw 425 rfl) (wd hw 426 rfl) (fun s hZ => notFace_of_selects (args := #[]) (mvT hZ (wd hw 428 rfl))) (wd hw 428 rfl) (wd hw 427 rfl) (wd hw 429 rfl) (wd hw 29 rfl) (by decide) (own_sxa S_43).1 pd_56 rfl rfl rfl rfl (by decide) (by decide) (by decide) (by decide) all0 (by decide) (own_chx l Z a0 hw n0 b u k2 cs _ S_43 (q + 17 + ws.length - 1) C399.1 cpt S_C hcpt S_A S_H S_L fm hfm S_F) ?_
 rintro v h1 D1 ⟨rfl, rfl, rfl⟩ hsz
 show Runs _ _ _ _ _ _ _ _ _ _ _ _ [] h_34 58 3222 402 _ [(.int (cs.getD (q + 17 + ws.length - 1) 0))]
 refine Runs.bipush (v := (93 : Int32)) (g j0 192 rfl) (by decide) ?_
 refine Runs.icN (g j0 193 rfl) (teq C399.2).2 ?_
 refine Runs.iconst (v := (1 : Int32)) (g j0 194 rfl) (by decide) ?_
 refine Runs.goto (t := 412) (g j0 195 rfl) (by decide) ?_
 exact Runs.retI (z := (1 : Int32)) (g j0 196 rfl) rfl (Or.inr (Or.inl rfl)) (by decide) (by decide) (by decide) rfl
theorem own_lB_0 (hw : Wds Z a0) (n0 : Nat) (y0 y1 y2 y3 y4 y5 y8 y9 y10 y11 y13 y14 y16 : Slot) (b u : Addr) (k2 : ClassId) (cs : List Int32) (d e : Addr) (k3 : ClassId) (ws : List Int32) (h0 : Heap) (S0 : Sy Z h0 b u k2 cs) (T0 : Sy Z h0 d e k3 ws) (x0 x1  : Int32) (hws : ws.length ≤ 5) (hcs : cs = ((own_T 446) ++ ([x0] ++ ((own_T 454) ++ ([x1] ++ ((own_T 455) ++ ([91, 93] ++ ((own_T 456) ++ (ws ++ [93]))))))))) (cpt : Int32) (S_C : SC Z cpt) (hcpt : ¬ cpt = 0) (S_A : SA Z) (S_H : SH Z) (S_L : SL Z) (fm : Value) (hfm : fm.isRef = true) (S_F : SF Z fm) : Runs 1 l Z EL_ n0 x.cls x.name code maxLocals ret room_1 (fun v h D' => v = some (.int 1)) [] h0 50 2966 178 #[y0, y1, y2, y3, y4, y5, vi x0, vi x1, y8, y9, y10, y11, vi 0, y13, y14, vr b, y16, vi 48, .unset, .unset, .unset] [.ref d] := by
 refine Runs.astore (ls' := #[y0, y1, y2, y3, y4, y5, vi x0, vi x1, y8, y9, y10, y11, vi 0, y13, y14, vr b, y16, vi 48, vr d, .unset, .unset]) (g j0 94 rfl) rfl rfl ?_
 refine Runs.iload (g j0 95 rfl) rfl ?_
 refine Runs.bipush (v := (17 : Int32)) (g j0 96 rfl) (by decide) ?_
 refine Runs.iadd (z := (65 : Int32)) (g j0 97 rfl) (by decide) ?_
 refine Runs.aload (g j0 98 rfl) rfl rfl ?_
 refine Runs.callVW (argsL := []) (rest := [(.int 65)]) (W := 1) (g j0 99 rfl) (wd hw 424 rfl) (wd hw 227 rfl) (fun s hZ => notFace_of_selects (args := #[]) (mvT hZ (wd hw 229 rfl))) (wd hw 229 rfl) (wd hw 228 rfl) (wd hw 230 rfl) (wd hw 29 rfl) (by decide) (own_sxa T0).1 pd_4 rfl rfl rfl rfl (by decide) (by decide) (by decide) (by decide) all0 (by decide) (own_lx l Z a0 hw n0 d e k3 ws _ T0 cpt S_C hcpt) ?_
 rintro v h1 D1 ⟨rfl, rfl, rfl⟩ hsz
 show Runs _ _ _ _ _ _ _ _ _ _ _ _ [] h0 50 2966 190 _ [(.int (Int32.ofNat ws.length)), (.int 65)]
 refine Runs.iadd (z := (Int32.ofNat (65 + ws.length))) (g j0 100 rfl) (own_add (a := 65) (b := ws.length) (by omega)) ?_
 refine Runs.istore (ls' := #[y0, y1, y2, y3, y4, y5, vi x0, vi x1, y8, y9, y10, y11, vi 0, y13, y14, vr b, y16, vi 48, vr d, vi (Int32.ofNat (65 + ws.length)), .unset]) (g j0 101 rfl) rfl ?_
 refine Runs.aload (g j0 102 rfl) rfl rfl ?_
 refine Runs.nullN (g j0 103 rfl) ?_
 refine Runs.aload (g j0 104 rfl) rfl rfl ?_
 refine Runs.callVW (argsL := []) (rest := []) (W := 0) (g j0 105 rfl) (wd hw 424 rfl) (wd hw 227 rfl) (fun s hZ => notFace_of_selects (args := #[]) (mvT hZ (wd hw 229 rfl))) (wd hw 229 rfl) (wd hw 228 rfl) (wd hw 230 rfl) (wd hw 29 rfl) (by decide) (own_sxa S0).1 pd_4 rfl rfl rfl rfl (by decide) (by decide) (by decide) (by decide) all0 (by decide) (own_lx l Z a0 hw n0 b u k2 cs _ S0 cpt S_C hcpt) ?_
 rintro v h1 D1 ⟨rfl, rfl, rfl⟩ hsz
 show Runs _ _ _ _ _ _ _ _ _ _ _ _ [] h0 50 2966 203 _ [(.int (Int32.ofNat cs.length))]
 have hlen : cs.length = 65 + ws.length := by rw [hcs]; simp only [List.length_append, List.length_cons, List.length_nil, own_L446, own_L454, own_L455, own_L456] <;> omega
 refine Runs.iload (g j0 106 rfl) rfl ?_
 refine Runs.icY (t := 210) (g j0 107 rfl) (by decide) (teq (congrArg Int32.ofNat hlen)).1 ?_
 refine Runs.aload (g j0 108 rfl) rfl rfl ?_
 refine Runs.bipush (v := (46 : Int32)) (g j0 109 rfl) (by decide) ?_
 have C214 := own_chP (cs := cs) (P := ((own_T 446) ++ ([x0] ++ ((own_T 454) ++ ([x1] ++ (own_T 455)))))) (R := ([93] ++ ((own_T 456) ++ (ws ++ [93])))) (c := 91) (p := 46) (by rw [hcs]; simp only [List.append_assoc, List.cons_append, List.nil_append]) (by simp only [List.length_append, List.length_cons, List.length_nil, own_L446, own_L454, own_L455, own_L456] <;> omega)
 refine Runs.callVW (argsL := [(.int 46)]) (rest := []) (W := 0) (g j0 110 rfl) (wd hw 425 rfl) (wd hw 426 rfl) (fun s hZ => notFace_of_selects (args := #[]) (mvT hZ (wd hw 428 rfl))) (wd hw 428 rfl) (wd hw 427 rfl) (wd hw 429 rfl) (wd hw 29 rfl) (by decide) (own_sxa S0).1 pd_56 rfl rfl rfl rfl (by decide) (by decide) (by decide) (by decide) all0 (by decide) (own_chx l Z a0 hw n0 b u k2 cs _ S0 46 C214.1 cpt S_C hcpt S_A S_H S_L fm hfm S_F) ?_
 rintro v h1 D1 ⟨rfl, rfl, rfl⟩ hsz
 show Runs _ _ _ _ _ _ _ _ _ _ _ _ [] h0 50 2966 217 _ [(.int (cs.getD 46 0))]
 refine Runs.bipush (v := (91 : Int32)) (g j0 111 rfl) (by decide) ?_
 refine Runs.icN (g j0 112 rfl) (teq C214.2).2 ?_
 refine Runs.aload (g j0 113 rfl) rfl rfl ?_
 refine Runs.iload (g j0 114 rfl) rfl ?_
 refine Runs.iconst (v := (1 : Int32)) (g j0 115 rfl) (by decide) ?_
 refine Runs.isub (z := (47 : Int32)) (g j0 116 rfl) (by decide) ?_
 have C228 := own_chP (cs := cs) (P := ((own_T 446) ++ ([x0] ++ ((own_T 454) ++ ([x1] ++ ((own_T 455) ++ [91])))))) (R := ((own_T 456) ++ (ws ++ [93]))) (c := 93) (p := 47) (by rw [hcs]; simp only [List.append_assoc, List.cons_append, List.nil_append]) (by simp only [List.length_append, List.length_cons, List.length_nil, own_L446, own_L454, own_L455, own_L456] <;> omega)
 refine Runs.callVW (argsL := [(.int 47)]) (rest := []) (W := 0) (g j0 117 rfl) (wd hw 425 rfl) (wd hw 426 rfl) (fun s hZ => notFace_of_selects (args := #[]) (mvT hZ (wd hw 428 rfl))) (wd hw 428 rfl) (wd hw 427 rfl) (wd hw 429 rfl) (wd hw 29 rfl) (by decide) (own_sxa S0).1 pd_56 rfl rfl rfl rfl (by decide) (by decide) (by decide) (by decide) all0 (by decide) (own_chx l Z a0 hw n0 b u k2 cs _ S0 47 C228.1 cpt S_C hcpt S_A S_H S_L fm hfm S_F) ?_
 rintro v h1 D1 ⟨rfl, rfl, rfl⟩ hsz
 show Runs _ _ _ _ _ _ _ _ _ _ _ _ [] h0 50 2966 231 _ [(.int (cs.getD 47 0))]
 refine Runs.bipush (v := (93 : Int32)) (g j0 118 rfl) (by decide) ?_
 refine Runs.icN (g j0 119 rfl) (teq C228.2).2 ?_
 refine Runs.iload (g j0 120 rfl) rfl ?_
 refine Runs.ifY (t := 253) (g j0 121 rfl) (by decide) (teq (by decide : (0 : Int32) = (0 : Int32))).1 ?_
 refine Runs.iload (g j0 127 rfl) rfl ?_
 refine Runs.iconst (v := (2 : Int32)) (g j0 128 rfl) (by decide) ?_
 refine Runs.icY (t := 295) (g j0 129 rfl) (by decide) (feq (by decide : ¬ ((0 : Int32) = (2 : Int32)))).2 ?_
 refine Runs.iconst (v := (1 : Int32)) (g j0 145 rfl) (by decide) ?_
 refine Runs.goto (t := 300) (g j0 146 rfl) (by decide) ?_
 refine Runs.istore (ls' := #[y0, y1, y2, y3, y4, y5, vi x0, vi x1, y8, y9, y10, y11, vi 0, y13, y14, vr b, y16, vi 48, vr d, vi (Int32.ofNat (65 + ws.length)), vi 1]) (g j0 147 rfl) rfl ?_
 exact own_lB2 l Z a0 hw n0 _ _ _ _ _ _ _ _ _ _ _ _ _ _ b u k2 cs d e k3 ws h0 S0 T0 x0 x1 [91, 93] 48 ⟨by simp, by decide⟩ hws hcs cpt S_C hcpt S_A S_H S_L fm hfm S_F
theorem own_lB_1 (hw : Wds Z a0) (n0 : Nat) (y0 y1 y2 y3 y4 y5 y8 y10 y11 y13 y14 y16 : Slot) (b u : Addr) (k2 : ClassId) (cs : List Int32) (d e : Addr) (k3 : ClassId) (ws : List Int32) (h0 : Heap) (S0 : Sy Z h0 b u k2 cs) (T0 : Sy Z h0 d e k3 ws) (x0 x1 x3 : Int32) (hws : ws.length ≤ 5) (hcs : cs = ((own_T 446) ++ ([x0] ++ ((own_T 454) ++ ([x1] ++ ((own_T 455) ++ ([91, x3, 93] ++ ((own_T 456) ++ (ws ++ [93]))))))))) (cpt : Int32) (S_C : SC Z cpt) (hcpt : ¬ cpt = 0) (S_A : SA Z) (S_H : SH Z) (S_L : SL Z) (fm : Value) (hfm : fm.isRef = true) (S_F : SF Z fm) : Runs 1 l Z EL_ n0 x.cls x.name code maxLocals ret room_1 (fun v h D' => v = some (.int 1)) [] h0 50 2966 178 #[y0, y1, y2, y3, y4, y5, vi x0, vi x1, y8, vi x3, y10, y11, vi 1, y13, y14, vr b, y16, vi 49, .unset, .unset, .unset] [.ref d] := by
 refine Runs.astore (ls' := #[y0, y1, y2, y3, y4, y5, vi x0, vi x1, y8, vi x3, y10, y11, vi 1, y13, y14, vr b, y16, vi 49, vr d, .unset, .unset]) (g j0 94 rfl) rfl rfl ?_
 refine Runs.iload (g j0 95 rfl) rfl ?_
 refine Runs.bipush (v := (17 : Int32)) (g j0 96 rfl) (by decide) ?_
 refine Runs.iadd (z := (66 : Int32)) (g j0 97 rfl) (by decide) ?_
 refine Runs.aload (g j0 98 rfl) rfl rfl ?_
 refine Runs.callVW (argsL := []) (rest := [(.int 66)]) (W := 1) (g j0 99 rfl) (wd hw 424 rfl) (wd hw 227 rfl) (fun s hZ => notFace_of_selects (args := #[]) (mvT hZ (wd hw 229 rfl))) (wd hw 229 rfl) (wd hw 228 rfl) (wd hw 230 rfl) (wd hw 29 rfl) (by decide) (own_sxa T0).1 pd_4 rfl rfl rfl rfl (by decide) (by decide) (by decide) (by decide) all0 (by decide) (own_lx l Z a0 hw n0 d e k3 ws _ T0 cpt S_C hcpt) ?_
 rintro v h1 D1 ⟨rfl, rfl, rfl⟩ hsz
 show Runs _ _ _ _ _ _ _ _ _ _ _ _ [] h0 50 2966 190 _ [(.int (Int32.ofNat ws.length)), (.int 66)]
 refine Runs.iadd (z := (Int32.ofNat (66 + ws.length))) (g j0 100 rfl) (own_add (a := 66) (b := ws.length) (by omega)) ?_
 refine Runs.istore (ls' := #[y0, y1, y2, y3, y4, y5, vi x0, vi x1, y8, vi x3, y10, y11, vi 1, y13, y14, vr b, y16, vi 49, vr d, vi (Int32.ofNat (66 + ws.length)), .unset]) (g j0 101 rfl) rfl ?_
 refine Runs.aload (g j0 102 rfl) rfl rfl ?_
 refine Runs.nullN (g j0 103 rfl) ?_
 refine Runs.aload (g j0 104 rfl) rfl rfl ?_
 refine Runs.callVW (argsL := []) (rest := []) (W := 0) (g j0 105 rfl) (wd hw 424 rfl) (wd hw 227 rfl) (fun s hZ => notFace_of_selects (args := #[]) (mvT hZ (wd hw 229 rfl))) (wd hw 229 rfl) (wd hw 228 rfl) (wd hw 230 rfl) (wd hw 29 rfl) (by decide) (own_sxa S0).1 pd_4 rfl rfl rfl rfl (by decide) (by decide) (by decide) (by decide) all0 (by decide) (own_lx l Z a0 hw n0 b u k2 cs _ S0 cpt S_C hcpt) ?_
 rintro v h1 D1 ⟨rfl, rfl, rfl⟩ hsz
 show Runs _ _ _ _ _ _ _ _ _ _ _ _ [] h0 50 2966 203 _ [(.int (Int32.ofNat cs.length))]
 have hlen : cs.length = 66 + ws.length := by rw [hcs]; simp only [List.length_append, List.length_cons, List.length_nil, own_L446, own_L454, own_L455, own_L456] <;> omega
 refine Runs.iload (g j0 106 rfl) rfl ?_
 refine Runs.icY (t := 210) (g j0 107 rfl) (by decide) (teq (congrArg Int32.ofNat hlen)).1 ?_
 refine Runs.aload (g j0 108 rfl) rfl rfl ?_
 refine Runs.bipush (v := (46 : Int32)) (g j0 109 rfl) (by decide) ?_
 have C214 := own_chP (cs := cs) (P := ((own_T 446) ++ ([x0] ++ ((own_T 454) ++ ([x1] ++ (own_T 455)))))) (R := ([x3, 93] ++ ((own_T 456) ++ (ws ++ [93])))) (c := 91) (p := 46) (by rw [hcs]; simp only [List.append_assoc, List.cons_append, List.nil_append]) (by simp only [List.length_append, List.length_cons, List.length_nil, own_L446, own_L454, own_L455, own_L456] <;> omega)
 refine Runs.callVW (argsL := [(.int 46)]) (rest := []) (W := 0) (g j0 110 rfl) (wd hw 425 rfl) (wd hw 426 rfl) (fun s hZ => notFace_of_selects (args := #[]) (mvT hZ (wd hw 428 rfl))) (wd hw 428 rfl) (wd hw 427 rfl) (wd hw 429 rfl) (wd hw 29 rfl) (by decide) (own_sxa S0).1 pd_56 rfl rfl rfl rfl (by decide) (by decide) (by decide) (by decide) all0 (by decide) (own_chx l Z a0 hw n0 b u k2 cs _ S0 46 C214.1 cpt S_C hcpt S_A S_H S_L fm hfm S_F) ?_
 rintro v h1 D1 ⟨rfl, rfl, rfl⟩ hsz
 show Runs _ _ _ _ _ _ _ _ _ _ _ _ [] h0 50 2966 217 _ [(.int (cs.getD 46 0))]
 refine Runs.bipush (v := (91 : Int32)) (g j0 111 rfl) (by decide) ?_
 refine Runs.icN (g j0 112 rfl) (teq C214.2).2 ?_
 refine Runs.aload (g j0 113 rfl) rfl rfl ?_
 refine Runs.iload (g j0 114 rfl) rfl ?_
 refine Runs.iconst (v := (1 : Int32)) (g j0 115 rfl) (by decide) ?_
 refine Runs.isub (z := (48 : Int32)) (g j0 116 rfl) (by decide) ?_
 have C228 := own_chP (cs := cs) (P := ((own_T 446) ++ ([x0] ++ ((own_T 454) ++ ([x1] ++ ((own_T 455) ++ [91, x3])))))) (R := ((own_T 456) ++ (ws ++ [93]))) (c := 93) (p := 48) (by rw [hcs]; simp only [List.append_assoc, List.cons_append, List.nil_append]) (by simp only [List.length_append, List.length_cons, List.length_nil, own_L446, own_L454, own_L455, own_L456] <;> omega)
 refine Runs.callVW (argsL := [(.int 48)]) (rest := []) (W := 0) (g j0 117 rfl) (wd hw 425 rfl) (wd hw 426 rfl) (fun s hZ => notFace_of_selects (args := #[]) (mvT hZ (wd hw 428 rfl))) (wd hw 428 rfl) (wd hw 427 rfl) (wd hw 429 rfl) (wd hw 29 rfl) (by decide) (own_sxa S0).1 pd_56 rfl rfl rfl rfl (by decide) (by decide) (by decide) (by decide) all0 (by decide) (own_chx l Z a0 hw n0 b u k2 cs _ S0 48 C228.1 cpt S_C hcpt S_A S_H S_L fm hfm S_F) ?_
 rintro v h1 D1 ⟨rfl, rfl, rfl⟩ hsz
 show Runs _ _ _ _ _ _ _ _ _ _ _ _ [] h0 50 2966 231 _ [(.int (cs.getD 48 0))]
 refine Runs.bipush (v := (93 : Int32)) (g j0 118 rfl) (by decide) ?_
 refine Runs.icN (g j0 119 rfl) (teq C228.2).2 ?_
 refine Runs.iload (g j0 120 rfl) rfl ?_
 refine Runs.ifN (g j0 121 rfl) (feq (by decide : ¬ ((1 : Int32) = (0 : Int32)))).1 ?_
 refine Runs.aload (g j0 122 rfl) rfl rfl ?_
 refine Runs.bipush (v := (47 : Int32)) (g j0 123 rfl) (by decide) ?_
 have C245 := own_chP (cs := cs) (P := ((own_T 446) ++ ([x0] ++ ((own_T 454) ++ ([x1] ++ ((own_T 455) ++ [91])))))) (R := ([93] ++ ((own_T 456) ++ (ws ++ [93])))) (c := x3) (p := 47) (by rw [hcs]; simp only [List.append_assoc, List.cons_append, List.nil_append]) (by simp only [List.length_append, List.length_cons, List.length_nil, own_L446, own_L454, own_L455, own_L456] <;> omega)
 refine Runs.callVW (argsL := [(.int 47)]) (rest := []) (W := 0) (g j0 124 rfl) (wd hw 425 rfl) (wd hw 426 rfl) (fun s hZ => notFace_of_selects (args := #[]) (mvT hZ (wd hw 428 rfl))) (wd hw 428 rfl) (wd hw 427 rfl) (wd hw 429 rfl) (wd hw 29 rfl) (by decide) (own_sxa S0).1 pd_56 rfl rfl rfl rfl (by decide) (by decide) (by decide) (by decide) all0 (by decide) (own_chx l Z a0 hw n0 b u k2 cs _ S0 47 C245.1 cpt S_C hcpt S_A S_H S_L fm hfm S_F) ?_
 rintro v h1 D1 ⟨rfl, rfl, rfl⟩ hsz
 show Runs _ _ _ _ _ _ _ _ _ _ _ _ [] h0 50 2966 248 _ [(.int (cs.getD 47 0))]
 refine Runs.iload (g j0 125 rfl) rfl ?_
 refine Runs.icN (g j0 126 rfl) (teq C245.2).2 ?_
 refine Runs.iload (g j0 127 rfl) rfl ?_
 refine Runs.iconst (v := (2 : Int32)) (g j0 128 rfl) (by decide) ?_
 refine Runs.icY (t := 295) (g j0 129 rfl) (by decide) (feq (by decide : ¬ ((1 : Int32) = (2 : Int32)))).2 ?_
 refine Runs.iconst (v := (1 : Int32)) (g j0 145 rfl) (by decide) ?_
 refine Runs.goto (t := 300) (g j0 146 rfl) (by decide) ?_
 refine Runs.istore (ls' := #[y0, y1, y2, y3, y4, y5, vi x0, vi x1, y8, vi x3, y10, y11, vi 1, y13, y14, vr b, y16, vi 49, vr d, vi (Int32.ofNat (66 + ws.length)), vi 1]) (g j0 147 rfl) rfl ?_
 exact own_lB2 l Z a0 hw n0 _ _ _ _ _ _ _ _ _ _ _ _ _ _ b u k2 cs d e k3 ws h0 S0 T0 x0 x1 [91, x3, 93] 49 ⟨by simp, by decide⟩ hws hcs cpt S_C hcpt S_A S_H S_L fm hfm S_F
theorem own_lB_2 (hw : Wds Z a0) (n0 : Nat) (y0 y1 y2 y3 y4 y5 y8 y11 y13 y14 y16 : Slot) (b u : Addr) (k2 : ClassId) (cs : List Int32) (d e : Addr) (k3 : ClassId) (ws : List Int32) (h0 : Heap) (S0 : Sy Z h0 b u k2 cs) (T0 : Sy Z h0 d e k3 ws) (x0 x1 x3 x4 : Int32) (hws : ws.length ≤ 5) (hcs : cs = ((own_T 446) ++ ([x0] ++ ((own_T 454) ++ ([x1] ++ ((own_T 455) ++ ([91, x3, 44, 32, x4, 93] ++ ((own_T 456) ++ (ws ++ [93]))))))))) (cpt : Int32) (S_C : SC Z cpt) (hcpt : ¬ cpt = 0) (S_A : SA Z) (S_H : SH Z) (S_L : SL Z) (fm : Value) (hfm : fm.isRef = true) (S_F : SF Z fm) : Runs 1 l Z EL_ n0 x.cls x.name code maxLocals ret room_1 (fun v h D' => v = some (.int 1)) [] h0 50 2966 178 #[y0, y1, y2, y3, y4, y5, vi x0, vi x1, y8, vi x3, vi x4, y11, vi 2, y13, y14, vr b, y16, vi 52, .unset, .unset, .unset] [.ref d] := by
 refine Runs.astore (ls' := #[y0, y1, y2, y3, y4, y5, vi x0, vi x1, y8, vi x3, vi x4, y11, vi 2, y13, y14, vr b, y16, vi 52, vr d, .unset, .unset]) (g j0 94 rfl) rfl rfl ?_
 refine Runs.iload (g j0 95 rfl) rfl ?_
 refine Runs.bipush (v := (17 : Int32)) (g j0 96 rfl) (by decide) ?_
 refine Runs.iadd (z := (69 : Int32)) (g j0 97 rfl) (by decide) ?_
 refine Runs.aload (g j0 98 rfl) rfl rfl ?_
 refine Runs.callVW (argsL := []) (rest := [(.int 69)]) (W := 1) (g j0 99 rfl) (wd hw 424 rfl) (wd hw 227 rfl) (fun s hZ => notFace_of_selects (args := #[]) (mvT hZ (wd hw 229 rfl))) (wd hw 229 rfl) (wd hw 228 rfl) (wd hw 230 rfl) (wd hw 29 rfl) (by decide) (own_sxa T0).1 pd_4 rfl rfl rfl rfl (by decide) (by decide) (by decide) (by decide) all0 (by decide) (own_lx l Z a0 hw n0 d e k3 ws _ T0 cpt S_C hcpt) ?_
 rintro v h1 D1 ⟨rfl, rfl, rfl⟩ hsz
 show Runs _ _ _ _ _ _ _ _ _ _ _ _ [] h0 50 2966 190 _ [(.int (Int32.ofNat ws.length)), (.int 69)]
 refine Runs.iadd (z := (Int32.ofNat (69 + ws.length))) (g j0 100 rfl) (own_add (a := 69) (b := ws.length) (by omega)) ?_
 refine Runs.istore (ls' := #[y0, y1, y2, y3, y4, y5, vi x0, vi x1, y8, vi x3, vi x4, y11, vi 2, y13, y14, vr b, y16, vi 52, vr d, vi (Int32.ofNat (69 + ws.length)), .unset]) (g j0 101 rfl) rfl ?_
 refine Runs.aload (g j0 102 rfl) rfl rfl ?_
 refine Runs.nullN (g j0 103 rfl) ?_
 refine Runs.aload (g j0 104 rfl) rfl rfl ?_
 refine Runs.callVW (argsL := []) (rest := []) (W := 0) (g j0 105 rfl) (wd hw 424 rfl) (wd hw 227 rfl) (fun s hZ => notFace_of_selects (args := #[]) (mvT hZ (wd hw 229 rfl))) (wd hw 229 rfl) (wd hw 228 rfl) (wd hw 230 rfl) (wd hw 29 rfl) (by decide) (own_sxa S0).1 pd_4 rfl rfl rfl rfl (by decide) (by decide) (by decide) (by decide) all0 (by decide) (own_lx l Z a0 hw n0 b u k2 cs _ S0 cpt S_C hcpt) ?_
 rintro v h1 D1 ⟨rfl, rfl, rfl⟩ hsz
 show Runs _ _ _ _ _ _ _ _ _ _ _ _ [] h0 50 2966 203 _ [(.int (Int32.ofNat cs.length))]
 have hlen : cs.length = 69 + ws.length := by rw [hcs]; simp only [List.length_append, List.length_cons, List.length_nil, own_L446, own_L454, own_L455, own_L456] <;> omega
 refine Runs.iload (g j0 106 rfl) rfl ?_
 refine Runs.icY (t := 210) (g j0 107 rfl) (by decide) (teq (congrArg Int32.ofNat hlen)).1 ?_
 refine Runs.aload (g j0 108 rfl) rfl rfl ?_
 refine Runs.bipush (v := (46 : Int32)) (g j0 109 rfl) (by decide) ?_
 have C214 := own_chP (cs := cs) (P := ((own_T 446) ++ ([x0] ++ ((own_T 454) ++ ([x1] ++ (own_T 455)))))) (R := ([x3, 44, 32, x4, 93] ++ ((own_T 456) ++ (ws ++ [93])))) (c := 91) (p := 46) (by rw [hcs]; simp only [List.append_assoc, List.cons_append, List.nil_append]) (by simp only [List.length_append, List.length_cons, List.length_nil, own_L446, own_L454, own_L455, own_L456] <;> omega)
 refine Runs.callVW (argsL := [(.int 46)]) (rest := []) (W := 0) (g j0 110 rfl) (wd hw 425 rfl) (wd hw 426 rfl) (fun s hZ => notFace_of_selects (args := #[]) (mvT hZ (wd hw 428 rfl))) (wd hw 428 rfl) (wd hw 427 rfl) (wd hw 429 rfl) (wd hw 29 rfl) (by decide) (own_sxa S0).1 pd_56 rfl rfl rfl rfl (by decide) (by decide) (by decide) (by decide) all0 (by decide) (own_chx l Z a0 hw n0 b u k2 cs _ S0 46 C214.1 cpt S_C hcpt S_A S_H S_L fm hfm S_F) ?_
 rintro v h1 D1 ⟨rfl, rfl, rfl⟩ hsz
 show Runs _ _ _ _ _ _ _ _ _ _ _ _ [] h0 50 2966 217 _ [(.int (cs.getD 46 0))]
 refine Runs.bipush (v := (91 : Int32)) (g j0 111 rfl) (by decide) ?_
 refine Runs.icN (g j0 112 rfl) (teq C214.2).2 ?_
 refine Runs.aload (g j0 113 rfl) rfl rfl ?_
 refine Runs.iload (g j0 114 rfl) rfl ?_
 refine Runs.iconst (v := (1 : Int32)) (g j0 115 rfl) (by decide) ?_
 refine Runs.isub (z := (51 : Int32)) (g j0 116 rfl) (by decide) ?_
 have C228 := own_chP (cs := cs) (P := ((own_T 446) ++ ([x0] ++ ((own_T 454) ++ ([x1] ++ ((own_T 455) ++ [91, x3, 44, 32, x4])))))) (R := ((own_T 456) ++ (ws ++ [93]))) (c := 93) (p := 51) (by rw [hcs]; simp only [List.append_assoc, List.cons_append, List.nil_append]) (by simp only [List.length_append, List.length_cons, List.length_nil, own_L446, own_L454, own_L455, own_L456] <;> omega)
 refine Runs.callVW (argsL := [(.int 51)]) (rest := []) (W := 0) (g j0 117 rfl) (wd hw 425 rfl) (wd hw 426 rfl) (fun s hZ => notFace_of_selects (args := #[]) (mvT hZ (wd hw 428 rfl))) (wd hw 428 rfl) (wd hw 427 rfl) (wd hw 429 rfl) (wd hw 29 rfl) (by decide) (own_sxa S0).1 pd_56 rfl rfl rfl rfl (by decide) (by decide) (by decide) (by decide) all0 (by decide) (own_chx l Z a0 hw n0 b u k2 cs _ S0 51 C228.1 cpt S_C hcpt S_A S_H S_L fm hfm S_F) ?_
 rintro v h1 D1 ⟨rfl, rfl, rfl⟩ hsz
 show Runs _ _ _ _ _ _ _ _ _ _ _ _ [] h0 50 2966 231 _ [(.int (cs.getD 51 0))]
 refine Runs.bipush (v := (93 : Int32)) (g j0 118 rfl) (by decide) ?_
 refine Runs.icN (g j0 119 rfl) (teq C228.2).2 ?_
 refine Runs.iload (g j0 120 rfl) rfl ?_
 refine Runs.ifN (g j0 121 rfl) (feq (by decide : ¬ ((2 : Int32) = (0 : Int32)))).1 ?_
 refine Runs.aload (g j0 122 rfl) rfl rfl ?_
 refine Runs.bipush (v := (47 : Int32)) (g j0 123 rfl) (by decide) ?_
 have C245 := own_chP (cs := cs) (P := ((own_T 446) ++ ([x0] ++ ((own_T 454) ++ ([x1] ++ ((own_T 455) ++ [91])))))) (R := ([44, 32, x4, 93] ++ ((own_T 456) ++ (ws ++ [93])))) (c := x3) (p := 47) (by rw [hcs]; simp only [List.append_assoc, List.cons_append, List.nil_append]) (by simp only [List.length_append, List.length_cons, List.length_nil, own_L446, own_L454, own_L455, own_L456] <;> omega)
 refine Runs.callVW (argsL := [(.int 47)]) (rest := []) (W := 0) (g j0 124 rfl) (wd hw 425 rfl) (wd hw 426 rfl) (fun s hZ => notFace_of_selects (args := #[]) (mvT hZ (wd hw 428 rfl))) (wd hw 428 rfl) (wd hw 427 rfl) (wd hw 429 rfl) (wd hw 29 rfl) (by decide) (own_sxa S0).1 pd_56 rfl rfl rfl rfl (by decide) (by decide) (by decide) (by decide) all0 (by decide) (own_chx l Z a0 hw n0 b u k2 cs _ S0 47 C245.1 cpt S_C hcpt S_A S_H S_L fm hfm S_F) ?_
 rintro v h1 D1 ⟨rfl, rfl, rfl⟩ hsz
 show Runs _ _ _ _ _ _ _ _ _ _ _ _ [] h0 50 2966 248 _ [(.int (cs.getD 47 0))]
 refine Runs.iload (g j0 125 rfl) rfl ?_
 refine Runs.icN (g j0 126 rfl) (teq C245.2).2 ?_
 refine Runs.iload (g j0 127 rfl) rfl ?_
 refine Runs.iconst (v := (2 : Int32)) (g j0 128 rfl) (by decide) ?_
 refine Runs.icN (g j0 129 rfl) (teq (by decide : (2 : Int32) = (2 : Int32))).2 ?_
 refine Runs.aload (g j0 130 rfl) rfl rfl ?_
 refine Runs.bipush (v := (48 : Int32)) (g j0 131 rfl) (by decide) ?_
 have C263 := own_chP (cs := cs) (P := ((own_T 446) ++ ([x0] ++ ((own_T 454) ++ ([x1] ++ ((own_T 455) ++ [91, x3])))))) (R := ([32, x4, 93] ++ ((own_T 456) ++ (ws ++ [93])))) (c := 44) (p := 48) (by rw [hcs]; simp only [List.append_assoc, List.cons_append, List.nil_append]) (by simp only [List.length_append, List.length_cons, List.length_nil, own_L446, own_L454, own_L455, own_L456] <;> omega)
 refine Runs.callVW (argsL := [(.int 48)]) (rest := []) (W := 0) (g j0 132 rfl) (wd hw 425 rfl) (wd hw 426 rfl) (fun s hZ => notFace_of_selects (args := #[]) (mvT hZ (wd hw 428 rfl))) (wd hw 428 rfl) (wd hw 427 rfl) (wd hw 429 rfl) (wd hw 29 rfl) (by decide) (own_sxa S0).1 pd_56 rfl rfl rfl rfl (by decide) (by decide) (by decide) (by decide) all0 (by decide) (own_chx l Z a0 hw n0 b u k2 cs _ S0 48 C263.1 cpt S_C hcpt S_A S_H S_L fm hfm S_F) ?_
 rintro v h1 D1 ⟨rfl, rfl, rfl⟩ hsz
 show Runs _ _ _ _ _ _ _ _ _ _ _ _ [] h0 50 2966 266 _ [(.int (cs.getD 48 0))]
 refine Runs.bipush (v := (44 : Int32)) (g j0 133 rfl) (by decide) ?_
 refine Runs.icN (g j0 134 rfl) (teq C263.2).2 ?_
 refine Runs.aload (g j0 135 rfl) rfl rfl ?_
 refine Runs.bipush (v := (49 : Int32)) (g j0 136 rfl) (by decide) ?_
 have C275 := own_chP (cs := cs) (P := ((own_T 446) ++ ([x0] ++ ((own_T 454) ++ ([x1] ++ ((own_T 455) ++ [91, x3, 44])))))) (R := ([x4, 93] ++ ((own_T 456) ++ (ws ++ [93])))) (c := 32) (p := 49) (by rw [hcs]; simp only [List.append_assoc, List.cons_append, List.nil_append]) (by simp only [List.length_append, List.length_cons, List.length_nil, own_L446, own_L454, own_L455, own_L456] <;> omega)
 refine Runs.callVW (argsL := [(.int 49)]) (rest := []) (W := 0) (g j0 137 rfl) (wd hw 425 rfl) (wd hw 426 rfl) (fun s hZ => notFace_of_selects (args := #[]) (mvT hZ (wd hw 428 rfl))) (wd hw 428 rfl) (wd hw 427 rfl) (wd hw 429 rfl) (wd hw 29 rfl) (by decide) (own_sxa S0).1 pd_56 rfl rfl rfl rfl (by decide) (by decide) (by decide) (by decide) all0 (by decide) (own_chx l Z a0 hw n0 b u k2 cs _ S0 49 C275.1 cpt S_C hcpt S_A S_H S_L fm hfm S_F) ?_
 rintro v h1 D1 ⟨rfl, rfl, rfl⟩ hsz
 show Runs _ _ _ _ _ _ _ _ _ _ _ _ [] h0 50 2966 278 _ [(.int (cs.getD 49 0))]
 refine Runs.bipush (v := (32 : Int32)) (g j0 138 rfl) (by decide) ?_
 refine Runs.icN (g j0 139 rfl) (teq C275.2).2 ?_
 refine Runs.aload (g j0 140 rfl) rfl rfl ?_
 refine Runs.bipush (v := (50 : Int32)) (g j0 141 rfl) (by decide) ?_
 have C287 := own_chP (cs := cs) (P := ((own_T 446) ++ ([x0] ++ ((own_T 454) ++ ([x1] ++ ((own_T 455) ++ [91, x3, 44, 32])))))) (R := ([93] ++ ((own_T 456) ++ (ws ++ [93])))) (c := x4) (p := 50) (by rw [hcs]; simp only [List.append_assoc, List.cons_append, List.nil_append]) (by simp only [List.length_append, List.length_cons, List.length_nil, own_L446, own_L454, own_L455, own_L456] <;> omega)
 refine Runs.callVW (argsL := [(.int 50)]) (rest := []) (W := 0) (g j0 142 rfl) (wd hw 425 rfl) (wd hw 426 rfl) (fun s hZ => notFace_of_selects (args := #[]) (mvT hZ (wd hw 428 rfl))) (wd hw 428 rfl) (wd hw 427 rfl) (wd hw 429 rfl) (wd hw 29 rfl) (by decide) (own_sxa S0).1 pd_56 rfl rfl rfl rfl (by decide) (by decide) (by decide) (by decide) all0 (by decide) (own_chx l Z a0 hw n0 b u k2 cs _ S0 50 C287.1 cpt S_C hcpt S_A S_H S_L fm hfm S_F) ?_
 rintro v h1 D1 ⟨rfl, rfl, rfl⟩ hsz
 show Runs _ _ _ _ _ _ _ _ _ _ _ _ [] h0 50 2966 290 _ [(.int (cs.getD 50 0))]
 refine Runs.iload (g j0 143 rfl) rfl ?_
 refine Runs.icN (g j0 144 rfl) (teq C287.2).2 ?_
 refine Runs.iconst (v := (1 : Int32)) (g j0 145 rfl) (by decide) ?_
 refine Runs.goto (t := 300) (g j0 146 rfl) (by decide) ?_
 refine Runs.istore (ls' := #[y0, y1, y2, y3, y4, y5, vi x0, vi x1, y8, vi x3, vi x4, y11, vi 2, y13, y14, vr b, y16, vi 52, vr d, vi (Int32.ofNat (69 + ws.length)), vi 1]) (g j0 147 rfl) rfl ?_
 exact own_lB2 l Z a0 hw n0 _ _ _ _ _ _ _ _ _ _ _ _ _ _ b u k2 cs d e k3 ws h0 S0 T0 x0 x1 [91, x3, 44, 32, x4, 93] 52 ⟨by simp, by decide⟩ hws hcs cpt S_C hcpt S_A S_H S_L fm hfm S_F
theorem own_lA_0 (hw : Wds Z a0) (n0 : Nat) (y0 y1 y2 y3 y4 y5 : Slot) (x0 x1 x2 x3 x4 : Int32) (hx0 : ¬ x0 < 0 ∧ ¬ (65535 : Int32) < x0) (hx1 : ¬ x1 < 0 ∧ ¬ (65535 : Int32) < x1) (hx2 : ¬ x2 < 0 ∧ ¬ (65535 : Int32) < x2) (hx3 : ¬ x3 < 0 ∧ ¬ (65535 : Int32) < x3) (hx4 : ¬ x4 < 0 ∧ ¬ (65535 : Int32) < x4) (z : Int32) (hz : z = 0 ∨ z = 1) (cpt : Int32) (S_C : SC Z cpt) (hcpt : ¬ cpt = 0) (S_A : SA Z) (S_H : SH Z) (S_L : SL Z) (fm : Value) (hfm : fm.isRef = true) (S_F : SF Z fm) (dE : Addr) (kE : ClassId) (S_D : Sta Z Z.heap S5_ S20_ S7_ (.ref dE)) (A_D : Arv Z Z.heap dE kE (.object S8_) 0 [] .null) (eM : Addr) (S_M : Sta Z Z.heap S12_ "EMPTY" S9_ (.ref eM)) (lM : eM < Z.heap.size) (eL : Addr) (S_E : Sta Z Z.heap S12_ "EMPTY_LIST" S19_ (.ref eL)) (eA : Addr) (kA : ClassId) (OE : Obj Z Z.heap eL S15_ [(S15_, "elements", S7_, (.ref eA))]) (AE : Arv Z Z.heap eA kA (.object S8_) 0 [] .null) (mr : Addr) (M : RoadKit.Mir Z S7_ mr) : Runs 1 l Z EL_ n0 x.cls x.name code maxLocals ret room_1 (fun v h D' => v = some (.int 1)) [] Z.heap 0 0 58 #[y0, y1, y2, y3, y4, y5, vi x0, vi x1, vi x2, vi x3, vi x4, vi z, vi 0, .unset, .unset, .unset, .unset, .unset, .unset, .unset, .unset] [] := by
 refine Runs.newO (g j0 39 rfl) (wd hw 1 rfl) (wd hw 2 rfl) (wd hw 3 rfl) (lay_3 hw) (by decide) (by decide) ?_
 intro h_1 b_2 g_5 ge_6 K_3 (O_4 : Obj Z h_1 b_2 S5_ [(S13_, S27_, "I", (.int 0)), (S5_, S18_, S7_, .null), (S5_, "size", "I", (.int 0))]) U_7
 refine Runs.dup (g j0 40 rfl) rfl ?_
 refine Runs.callCW (argsL := []) (rest := [(.ref b_2)]) (W := 1) (g j0 41 rfl) rfl (wd hw 4 rfl) (wd hw 5 rfl) (wd hw 6 rfl) (wd hw 3 rfl) (by decide) pd_10 rfl rfl rfl rfl (by decide) (by decide) (by decide) (by decide) all0 (by decide) (own_al l Z a0 hw n0 b_2 _ ge_6 O_4 dE kE S_D A_D) ?_
 rintro v h_8 D1 ⟨rfl, K_9, O_10, rfl⟩ hsz
 show Runs _ _ _ _ _ _ _ _ _ _ _ _ [b_2] h_8 1 3 65 _ [(.ref b_2)]
 refine Runs.astore (ls' := #[y0, y1, y2, y3, y4, y5, vi x0, vi x1, vi x2, vi x3, vi x4, vi z, vi 0, vr b_2, .unset, .unset, .unset, .unset, .unset, .unset, .unset]) (g j0 42 rfl) rfl rfl ?_
 refine Runs.iload (g j0 43 rfl) rfl ?_
 refine Runs.iconst (v := (1 : Int32)) (g j0 44 rfl) (by decide) ?_
 refine Runs.icY (t := 84) (g j0 45 rfl) (by decide) (tlt (by decide : (0 : Int32) < (1 : Int32))).1 ?_
 refine Runs.iload (g j0 51 rfl) rfl ?_
 refine Runs.iconst (v := (2 : Int32)) (g j0 52 rfl) (by decide) ?_
 refine Runs.icY (t := 101) (g j0 53 rfl) (by decide) (feq (by decide : ¬ ((0 : Int32) = (2 : Int32)))).2 ?_
 refine Runs.newO (g j0 59 rfl) (wd hw 82 rfl) (wd hw 83 rfl) (wd hw 84 rfl) (lay_4 hw) (by decide) (by decide) ?_
 intro h_11 b_12 g_15 ge_16 K_13 (O_14 : Obj Z h_11 b_12 S1_ [(S1_, "clientId", S11_, .null), (S1_, "clientName", S11_, .null), (S1_, S24_, S11_, .null), (S1_, S25_, S16_, .null), (S1_, S23_, "Z", (.int 0))]) U_17
 refine Runs.dup (g j0 60 rfl) rfl ?_
 refine Runs.iload (g j0 61 rfl) rfl ?_
 refine Runs.callSW (argsL := [(.int x0)]) (rest := [(.ref b_12), (.ref b_12)]) (W := 2) (g j0 62 rfl) (wd hw 27 rfl) (wd hw 28 rfl) (wd hw 29 rfl) (wd hw 30 rfl) (by decide) pd_58 rfl rfl rfl rfl (by decide) (by decide) (by decide) (by decide) all0 (by decide) (own_vx l Z a0 hw n0 x0 hx0 _ cpt S_C hcpt S_A S_H S_L) ?_
 rintro v h_25 D1 ⟨s_18, u_19, k_20, rfl, g_21, g_22, K_23, S_24, rfl⟩ hsz
 show Runs _ _ _ _ _ _ _ _ _ _ _ _ [b_12, b_2] h_25 4 14 110 _ [(.ref s_18), (.ref b_12), (.ref b_12)]
 have ls_18 := own_syl S_24
 refine Runs.iload (g j0 63 rfl) rfl ?_
 refine Runs.callSW (argsL := [(.int x1)]) (rest := [(.ref s_18), (.ref b_12), (.ref b_12)]) (W := 3) (g j0 64 rfl) (wd hw 27 rfl) (wd hw 28 rfl) (wd hw 29 rfl) (wd hw 30 rfl) (by decide) pd_58 rfl rfl rfl rfl (by decide) (by decide) (by decide) (by decide) all0 (by decide) (own_vx l Z a0 hw n0 x1 hx1 _ cpt S_C hcpt S_A S_H S_L) ?_
 rintro v h_33 D1 ⟨s_26, u_27, k_28, rfl, g_29, g_30, K_31, S_32, rfl⟩ hsz
 show Runs _ _ _ _ _ _ _ _ _ _ _ _ [b_12, b_2] h_33 6 20 115 _ [(.ref s_26), (.ref s_18), (.ref b_12), (.ref b_12)]
 have ls_26 := own_syl S_32
 refine Runs.iload (g j0 65 rfl) rfl ?_
 refine Runs.callSW (argsL := [(.int x2)]) (rest := [(.ref s_26), (.ref s_18), (.ref b_12), (.ref b_12)]) (W := 4) (g j0 66 rfl) (wd hw 27 rfl) (wd hw 28 rfl) (wd hw 29 rfl) (wd hw 30 rfl) (by decide) pd_58 rfl rfl rfl rfl (by decide) (by decide) (by decide) (by decide) all0 (by decide) (own_vx l Z a0 hw n0 x2 hx2 _ cpt S_C hcpt S_A S_H S_L) ?_
 rintro v h_41 D1 ⟨s_34, u_35, k_36, rfl, g_37, g_38, K_39, S_40, rfl⟩ hsz
 show Runs _ _ _ _ _ _ _ _ _ _ _ _ [b_12, b_2] h_41 8 26 120 _ [(.ref s_34), (.ref s_26), (.ref s_18), (.ref b_12), (.ref b_12)]
 have ls_34 := own_syl S_40
 refine Runs.aload (g j0 67 rfl) rfl rfl ?_
 refine Runs.iload (g j0 68 rfl) rfl ?_
 have O_42 := (((O_14.keep K_23 nin0).keep K_31 nin0).keep K_39 nin0)
 have O_49 := ((((O_10.keep K_13 nin0).keep K_23 nin0).keep K_31 nin0).keep K_39 nin0)
 refine Runs.callCW (argsL := [(.ref s_18), (.ref s_26), (.ref s_34), (.ref b_2), (.int z)]) (rest := [(.ref b_12)]) (W := 1) (g j0 69 rfl) rfl (wd hw 85 rfl) (wd hw 86 rfl) (wd hw 87 rfl) (wd hw 84 rfl) (by decide) pd_59 rfl rfl rfl rfl (by decide) (by decide) (by decide) (by decide) all0 (by decide) (own_cli0 l Z a0 hw n0 b_12 s_18 s_26 s_34 z hz b_2 dE _ O_49 eL S_E ge_16 O_42) ?_
 rintro v h_43 D1 ⟨rfl, K_44, O_45, rfl⟩ hsz
 show Runs _ _ _ _ _ _ _ _ _ _ _ _ [b_12, b_2] h_43 8 26 127 _ [(.ref b_12)]
 refine Runs.astore (ls' := #[y0, y1, y2, y3, y4, y5, vi x0, vi x1, vi x2, vi x3, vi x4, vi z, vi 0, vr b_2, vr b_12, .unset, .unset, .unset, .unset, .unset, .unset]) (g j0 70 rfl) rfl rfl ?_
 refine Runs.aload (g j0 71 rfl) rfl rfl ?_
 have KZ : Keep Z.heap h_43 [] := ((((((((Keep.refl _ _).trans K_3 all0).trans K_9 (allS (Or.inr (Nat.le_trans (Nat.le_refl _) g_5)) all0)).trans K_13 all0).trans K_23 all0).trans K_31 all0).trans K_39 all0).trans K_44 (allS (Or.inr (Nat.le_trans (Nat.le_trans K_3.1 K_9.1) g_15)) all0))
 refine Runs.callVW (argsL := []) (rest := []) (W := 0) (g j0 72 rfl) (wd hw 190 rfl) (wd hw 191 rfl) (fun s hZ => notFace_of_selects (args := #[]) (mvT hZ (wd hw 193 rfl))) (wd hw 193 rfl) (wd hw 192 rfl) (wd hw 194 rfl) (wd hw 84 rfl) (by decide) O_45.1 pd_21 rfl rfl rfl rfl (by decide) (by decide) (by decide) (by decide) all0 (by decide) (own_clt l Z a0 hw n0 b_12 s_18 s_26 s_34 eL u_19 u_27 k_20 k_28 x0 x1  z hz (own_T 511) (by rw [own_L511]; decide) _ (Nat.le_trans ge_16 (Nat.le_of_lt O_45.lt)) O_45 (((S_24.keep K_31 nin0 nin0).keep K_39 nin0 nin0).keep K_44 (ninS (Nat.ne_of_gt (Nat.lt_of_lt_of_le (Nat.lt_of_lt_of_le O_14.lt (Nat.le_refl _)) g_21)) nin0) (ninS (Nat.ne_of_gt (Nat.lt_of_lt_of_le (Nat.lt_of_lt_of_le O_14.lt (Nat.le_refl _)) g_22)) nin0)) ((S_32.keep K_39 nin0 nin0).keep K_44 (ninS (Nat.ne_of_gt (Nat.lt_of_lt_of_le (Nat.lt_of_lt_of_le O_14.lt K_23.1) g_29)) nin0) (ninS (Nat.ne_of_gt (Nat.lt_of_lt_of_le (Nat.lt_of_lt_of_le O_14.lt K_23.1) g_30)) nin0)) (fun t h1 Kc ht hn => own_vol0 l Z a0 hw n0 eL eA kA h1 ((OE.keep KZ nin0).keep Kc nin0) ((AE.keep KZ nin0).keep Kc nin0) t ht hn cpt S_C hcpt S_A S_H S_L fm hfm S_F) cpt S_C hcpt S_A S_H S_L fm hfm S_F) ?_
 rintro v h_50 D1 ⟨b, ub, kb', rfl, K_51, S_52, rfl⟩ hsz
 show Runs _ _ _ _ _ _ _ _ _ _ _ _ [b_12, b_2] h_50 41 2916 134 _ [(.ref b)]
 refine Runs.astore (ls' := #[y0, y1, y2, y3, y4, y5, vi x0, vi x1, vi x2, vi x3, vi x4, vi z, vi 0, vr b_2, vr b_12, vr b, .unset, .unset, .unset, .unset, .unset]) (g j0 73 rfl) rfl rfl ?_
 refine Runs.iload (g j0 74 rfl) rfl ?_
 refine Runs.ifN (g j0 75 rfl) (teq (by decide : (0 : Int32) = (0 : Int32))).2 ?_
 refine Runs.iconst (v := (2 : Int32)) (g j0 76 rfl) (by decide) ?_
 refine Runs.goto (t := 157) (g j0 77 rfl) (by decide) ?_
 refine Runs.istore (ls' := #[y0, y1, y2, y3, y4, y5, vi x0, vi x1, vi x2, vi x3, vi x4, vi z, vi 0, vr b_2, vr b_12, vr b, vi 2, .unset, .unset, .unset, .unset]) (g j0 84 rfl) rfl ?_
 refine Runs.bipush (v := (46 : Int32)) (g j0 85 rfl) (by decide) ?_
 refine Runs.iload (g j0 86 rfl) rfl ?_
 refine Runs.iadd (z := (48 : Int32)) (g j0 87 rfl) (by decide) ?_
 refine Runs.istore (ls' := #[y0, y1, y2, y3, y4, y5, vi x0, vi x1, vi x2, vi x3, vi x4, vi z, vi 0, vr b_2, vr b_12, vr b, vi 2, vi 48, .unset, .unset, .unset]) (g j0 88 rfl) rfl ?_
 rcases hz with rfl | rfl
 · skip
   refine Runs.iload (g j0 89 rfl) rfl ?_
   refine Runs.ifY (t := 176) (g j0 90 rfl) (by decide) (teq (by decide : (0 : Int32) = (0 : Int32))).1 ?_
   refine Runs.ldcT (vs := (own_T 457).map own_b) (z := Int32.ofNat (own_T 457).length) (n := 20) (by decide) (g j0 93 rfl) (own_k457 hw) (own_sa hw) (own_EW hw) (mi 6 rfl) ⟨own_c457, own_Tb own_c457⟩ (own_nn (by rw [own_L457]; decide)) (by rw [own_cl (by rw [own_L457]; decide), List.length_map]) (by rw [← own_Tlen, own_L457]; decide) (by decide) (by decide) (by decide) ?_
   intro h_53 s_54 t_55 k_56 K_57 O_58 A_59 dd_60
   have S_61 : Str Z h_53 s_54 t_55 k_56 (own_T 457) := ⟨O_58, A_59, own_Tl own_c457, by rw [own_L457]; decide⟩
   show Runs _ _ _ _ _ _ _ _ _ _ _ _ [b_12, b_2] h_53 43 2940 178 _ [(.ref s_54)]
   have SS := S_52.keep K_57 nin0 nin0
   refine Runs.weak (D1 := []) (fun _ q => nomatch q) ?_
   refine Runs.mono (kc' := 50) (ks' := 2966) (by decide) (by decide) ?_
   exact own_lB_0 l Z a0 hw n0 _ _ _ _ _ _ _ _ _ _ _ _ _ b ub kb' _ s_54 t_55 k_56 (own_T 457) _ SS (Or.inl S_61) x0 x1 (by rw [own_L457]; decide) (by rw [own_q213, own_q275, own_q276, own_q402, own_q412, own_qw0, own_q511]; simp only [List.append_assoc, List.cons_append, List.nil_append]) cpt S_C hcpt S_A S_H S_L fm hfm S_F
 · skip
   refine Runs.iload (g j0 89 rfl) rfl ?_
   refine Runs.ifN (g j0 90 rfl) (feq (by decide : ¬ ((1 : Int32) = (0 : Int32)))).1 ?_
   refine Runs.ldcT (vs := (own_T 423).map own_b) (z := Int32.ofNat (own_T 423).length) (n := 16) (by decide) (g j0 91 rfl) (own_k423 hw) (own_sa hw) (own_EW hw) (mi 5 rfl) ⟨own_c423, own_Tb own_c423⟩ (own_nn (by rw [own_L423]; decide)) (by rw [own_cl (by rw [own_L423]; decide), List.length_map]) (by rw [← own_Tlen, own_L423]; decide) (by decide) (by decide) (by decide) ?_
   intro h_62 s_63 t_64 k_65 K_66 O_67 A_68 dd_69
   have S_70 : Str Z h_62 s_63 t_64 k_65 (own_T 423) := ⟨O_67, A_68, own_Tl own_c423, by rw [own_L423]; decide⟩
   show Runs _ _ _ _ _ _ _ _ _ _ _ _ [b_12, b_2] h_62 43 2936 173 _ [(.ref s_63)]
   have SS := S_52.keep K_66 nin0 nin0
   refine Runs.goto (t := 178) (g j0 92 rfl) (by decide) ?_
   refine Runs.weak (D1 := []) (fun _ q => nomatch q) ?_
   refine Runs.mono (kc' := 50) (ks' := 2966) (by decide) (by decide) ?_
   exact own_lB_0 l Z a0 hw n0 _ _ _ _ _ _ _ _ _ _ _ _ _ b ub kb' _ s_63 t_64 k_65 (own_T 423) _ SS (Or.inl S_70) x0 x1 (by rw [own_L423]; decide) (by rw [own_q213, own_q275, own_q276, own_q402, own_q412, own_qw1, own_q511]; simp only [List.append_assoc, List.cons_append, List.nil_append]) cpt S_C hcpt S_A S_H S_L fm hfm S_F
theorem own_lA_1 (hw : Wds Z a0) (n0 : Nat) (y0 y1 y2 y3 y4 y5 : Slot) (x0 x1 x2 x3 x4 : Int32) (hx0 : ¬ x0 < 0 ∧ ¬ (65535 : Int32) < x0) (hx1 : ¬ x1 < 0 ∧ ¬ (65535 : Int32) < x1) (hx2 : ¬ x2 < 0 ∧ ¬ (65535 : Int32) < x2) (hx3 : ¬ x3 < 0 ∧ ¬ (65535 : Int32) < x3) (hx4 : ¬ x4 < 0 ∧ ¬ (65535 : Int32) < x4) (z : Int32) (hz : z = 0 ∨ z = 1) (cpt : Int32) (S_C : SC Z cpt) (hcpt : ¬ cpt = 0) (S_A : SA Z) (S_H : SH Z) (S_L : SL Z) (fm : Value) (hfm : fm.isRef = true) (S_F : SF Z fm) (dE : Addr) (kE : ClassId) (S_D : Sta Z Z.heap S5_ S20_ S7_ (.ref dE)) (A_D : Arv Z Z.heap dE kE (.object S8_) 0 [] .null) (eM : Addr) (S_M : Sta Z Z.heap S12_ "EMPTY" S9_ (.ref eM)) (lM : eM < Z.heap.size) (eL : Addr) (S_E : Sta Z Z.heap S12_ "EMPTY_LIST" S19_ (.ref eL)) (eA : Addr) (kA : ClassId) (OE : Obj Z Z.heap eL S15_ [(S15_, "elements", S7_, (.ref eA))]) (AE : Arv Z Z.heap eA kA (.object S8_) 0 [] .null) (mr : Addr) (M : RoadKit.Mir Z S7_ mr) : Runs 1 l Z EL_ n0 x.cls x.name code maxLocals ret room_1 (fun v h D' => v = some (.int 1)) [] Z.heap 0 0 58 #[y0, y1, y2, y3, y4, y5, vi x0, vi x1, vi x2, vi x3, vi x4, vi z, vi 1, .unset, .unset, .unset, .unset, .unset, .unset, .unset, .unset] [] := by
 refine Runs.newO (g j0 39 rfl) (wd hw 1 rfl) (wd hw 2 rfl) (wd hw 3 rfl) (lay_3 hw) (by decide) (by decide) ?_
 intro h_1 b_2 g_5 ge_6 K_3 (O_4 : Obj Z h_1 b_2 S5_ [(S13_, S27_, "I", (.int 0)), (S5_, S18_, S7_, .null), (S5_, "size", "I", (.int 0))]) U_7
 refine Runs.dup (g j0 40 rfl) rfl ?_
 refine Runs.callCW (argsL := []) (rest := [(.ref b_2)]) (W := 1) (g j0 41 rfl) rfl (wd hw 4 rfl) (wd hw 5 rfl) (wd hw 6 rfl) (wd hw 3 rfl) (by decide) pd_10 rfl rfl rfl rfl (by decide) (by decide) (by decide) (by decide) all0 (by decide) (own_al l Z a0 hw n0 b_2 _ ge_6 O_4 dE kE S_D A_D) ?_
 rintro v h_8 D1 ⟨rfl, K_9, O_10, rfl⟩ hsz
 show Runs _ _ _ _ _ _ _ _ _ _ _ _ [b_2] h_8 1 3 65 _ [(.ref b_2)]
 refine Runs.astore (ls' := #[y0, y1, y2, y3, y4, y5, vi x0, vi x1, vi x2, vi x3, vi x4, vi z, vi 1, vr b_2, .unset, .unset, .unset, .unset, .unset, .unset, .unset]) (g j0 42 rfl) rfl rfl ?_
 refine Runs.iload (g j0 43 rfl) rfl ?_
 refine Runs.iconst (v := (1 : Int32)) (g j0 44 rfl) (by decide) ?_
 refine Runs.icN (g j0 45 rfl) (flt (by decide : ¬ ((1 : Int32) < (1 : Int32)))).1 ?_
 refine Runs.aload (g j0 46 rfl) rfl rfl ?_
 refine Runs.iload (g j0 47 rfl) rfl ?_
 refine Runs.callSW (argsL := [(.int x3)]) (rest := [(.ref b_2)]) (W := 1) (g j0 48 rfl) (wd hw 27 rfl) (wd hw 28 rfl) (wd hw 29 rfl) (wd hw 30 rfl) (by decide) pd_58 rfl rfl rfl rfl (by decide) (by decide) (by decide) (by decide) all0 (by decide) (own_vx l Z a0 hw n0 x3 hx3 _ cpt S_C hcpt S_A S_H S_L) ?_
 rintro v h_18 D1 ⟨s_11, u_12, k_13, rfl, g_14, g_15, K_16, S_17, rfl⟩ hsz
 show Runs _ _ _ _ _ _ _ _ _ _ _ _ [b_2] h_18 3 9 80 _ [(.ref s_11), (.ref b_2)]
 have ls_11 := own_syl S_17
 have O_22 := (O_10.keep K_16 nin0)
 refine Runs.callVW (argsL := [(.ref s_11)]) (rest := []) (W := 0) (g j0 49 rfl) (wd hw 51 rfl) (wd hw 52 rfl) (fun s hZ => notFace_of_selects (args := #[]) (mvT hZ (wd hw 54 rfl))) (wd hw 54 rfl) (wd hw 53 rfl) (wd hw 55 rfl) (wd hw 3 rfl) (by decide) O_22.1 pd_60 rfl rfl rfl rfl (by decide) (by decide) (by decide) (by decide) all0 (by decide) (own_add1 l Z a0 hw n0 dE kE S_D A_D b_2 s_11 _ ge_6 O_22 (own_sxa S_17).1) ?_
 rintro v h_19 D1 ⟨rfl, b1, kb, gb1, K_20, F_21, rfl⟩ hsz
 show Runs _ _ _ _ _ _ _ _ _ _ _ _ [b_2] h_19 4 19 83 _ [(.int 1)]
 have lb1 := F_21.2.1.lt
 refine Runs.pop (g j0 50 rfl) rfl ?_
 refine Runs.iload (g j0 51 rfl) rfl ?_
 refine Runs.iconst (v := (2 : Int32)) (g j0 52 rfl) (by decide) ?_
 refine Runs.icY (t := 101) (g j0 53 rfl) (by decide) (feq (by decide : ¬ ((1 : Int32) = (2 : Int32)))).2 ?_
 refine Runs.newO (g j0 59 rfl) (wd hw 82 rfl) (wd hw 83 rfl) (wd hw 84 rfl) (lay_4 hw) (by decide) (by decide) ?_
 intro h_23 b_24 g_27 ge_28 K_25 (O_26 : Obj Z h_23 b_24 S1_ [(S1_, "clientId", S11_, .null), (S1_, "clientName", S11_, .null), (S1_, S24_, S11_, .null), (S1_, S25_, S16_, .null), (S1_, S23_, "Z", (.int 0))]) U_29
 refine Runs.dup (g j0 60 rfl) rfl ?_
 refine Runs.iload (g j0 61 rfl) rfl ?_
 refine Runs.callSW (argsL := [(.int x0)]) (rest := [(.ref b_24), (.ref b_24)]) (W := 2) (g j0 62 rfl) (wd hw 27 rfl) (wd hw 28 rfl) (wd hw 29 rfl) (wd hw 30 rfl) (by decide) pd_58 rfl rfl rfl rfl (by decide) (by decide) (by decide) (by decide) all0 (by decide) (own_vx l Z a0 hw n0 x0 hx0 _ cpt S_C hcpt S_A S_H S_L) ?_
 rintro v h_37 D1 ⟨s_30, u_31, k_32, rfl, g_33, g_34, K_35, S_36, rfl⟩ hsz
 show Runs _ _ _ _ _ _ _ _ _ _ _ _ [b_24, b_2] h_37 7 30 110 _ [(.ref s_30), (.ref b_24), (.ref b_24)]
 have ls_30 := own_syl S_36
 refine Runs.iload (g j0 63 rfl) rfl ?_
 refine Runs.callSW (argsL := [(.int x1)]) (rest := [(.ref s_30), (.ref b_24), (.ref b_24)]) (W := 3) (g j0 64 rfl) (wd hw 27 rfl) (wd hw 28 rfl) (wd hw 29 rfl) (wd hw 30 rfl) (by decide) pd_58 rfl rfl rfl rfl (by decide) (by decide) (by decide) (by decide) all0 (by decide) (own_vx l Z a0 hw n0 x1 hx1 _ cpt S_C hcpt S_A S_H S_L) ?_
 rintro v h_45 D1 ⟨s_38, u_39, k_40, rfl, g_41, g_42, K_43, S_44, rfl⟩ hsz
 show Runs _ _ _ _ _ _ _ _ _ _ _ _ [b_24, b_2] h_45 9 36 115 _ [(.ref s_38), (.ref s_30), (.ref b_24), (.ref b_24)]
 have ls_38 := own_syl S_44
 refine Runs.iload (g j0 65 rfl) rfl ?_
 refine Runs.callSW (argsL := [(.int x2)]) (rest := [(.ref s_38), (.ref s_30), (.ref b_24), (.ref b_24)]) (W := 4) (g j0 66 rfl) (wd hw 27 rfl) (wd hw 28 rfl) (wd hw 29 rfl) (wd hw 30 rfl) (by decide) pd_58 rfl rfl rfl rfl (by decide) (by decide) (by decide) (by decide) all0 (by decide) (own_vx l Z a0 hw n0 x2 hx2 _ cpt S_C hcpt S_A S_H S_L) ?_
 rintro v h_53 D1 ⟨s_46, u_47, k_48, rfl, g_49, g_50, K_51, S_52, rfl⟩ hsz
 show Runs _ _ _ _ _ _ _ _ _ _ _ _ [b_24, b_2] h_53 11 42 120 _ [(.ref s_46), (.ref s_38), (.ref s_30), (.ref b_24), (.ref b_24)]
 have ls_46 := own_syl S_52
 refine Runs.aload (g j0 67 rfl) rfl rfl ?_
 refine Runs.iload (g j0 68 rfl) rfl ?_
 have O_54 := (((O_26.keep K_35 nin0).keep K_43 nin0).keep K_51 nin0)
 refine Runs.callCW (argsL := [(.ref s_30), (.ref s_38), (.ref s_46), (.ref b_2), (.int z)]) (rest := [(.ref b_24)]) (W := 1) (g j0 69 rfl) rfl (wd hw 85 rfl) (wd hw 86 rfl) (wd hw 87 rfl) (wd hw 84 rfl) (by decide) pd_59 rfl rfl rfl rfl (by decide) (by decide) (by decide) (by decide) all0 (by decide) (own_cli1 l Z a0 hw n0 b_24 s_30 s_38 s_46 z hz b_2 b1 kb s_11 _ ⟨F_21.1.keep (((K_25.trans K_35 all0).trans K_43 all0).trans K_51 all0) nin0, F_21.2.1.keep (((K_25.trans K_35 all0).trans K_43 all0).trans K_51 all0) nin0, F_21.2.2.1.keep (((K_25.trans K_35 all0).trans K_43 all0).trans K_51 all0), F_21.2.2.2⟩ (own_sxa (((((S_17.keep K_20 (ninS (Nat.ne_of_gt (Nat.lt_of_lt_of_le (Nat.lt_of_lt_of_le O_4.lt K_9.1) g_14)) (ninS (Nat.ne_of_lt (Nat.lt_of_lt_of_le (Nat.lt_of_lt_of_le ls_11.1 (Nat.le_refl _)) gb1.1)) nin0)) (ninS (Nat.ne_of_gt (Nat.lt_of_lt_of_le (Nat.lt_of_lt_of_le O_4.lt K_9.1) g_15)) (ninS (Nat.ne_of_lt (Nat.lt_of_lt_of_le (Nat.lt_of_lt_of_le ls_11.2 (Nat.le_refl _)) gb1.1)) nin0))).keep K_25 nin0 nin0).keep K_35 nin0 nin0).keep K_43 nin0 nin0).keep K_51 nin0 nin0)).1 (Nat.le_trans ge_28 (Nat.le_of_lt O_54.lt)) mr M eM S_M ge_28 O_54) ?_
 rintro v h_55 D1 ⟨rfl, c_59, g_60, K_56, O_57, O_58, rfl⟩ hsz
 show Runs _ _ _ _ _ _ _ _ _ _ _ _ [b_24, b_2] h_55 13 45 127 _ [(.ref b_24)]
 refine Runs.astore (ls' := #[y0, y1, y2, y3, y4, y5, vi x0, vi x1, vi x2, vi x3, vi x4, vi z, vi 1, vr b_2, vr b_24, .unset, .unset, .unset, .unset, .unset, .unset]) (g j0 70 rfl) rfl rfl ?_
 refine Runs.aload (g j0 71 rfl) rfl rfl ?_
 refine Runs.callVW (argsL := []) (rest := []) (W := 0) (g j0 72 rfl) (wd hw 190 rfl) (wd hw 191 rfl) (fun s hZ => notFace_of_selects (args := #[]) (mvT hZ (wd hw 193 rfl))) (wd hw 193 rfl) (wd hw 192 rfl) (wd hw 194 rfl) (wd hw 84 rfl) (by decide) O_57.1 pd_21 rfl rfl rfl rfl (by decide) (by decide) (by decide) (by decide) all0 (by decide) (own_clt l Z a0 hw n0 b_24 s_30 s_38 s_46 c_59 u_31 u_39 k_32 k_40 x0 x1  z hz [91, x3, 93] (by simp) _ (Nat.le_trans ge_28 (Nat.le_of_lt O_57.lt)) O_57 (((S_36.keep K_43 nin0 nin0).keep K_51 nin0 nin0).keep K_56 (ninS (Nat.ne_of_gt (Nat.lt_of_lt_of_le (Nat.lt_of_lt_of_le O_26.lt (Nat.le_refl _)) g_33)) nin0) (ninS (Nat.ne_of_gt (Nat.lt_of_lt_of_le (Nat.lt_of_lt_of_le O_26.lt (Nat.le_refl _)) g_34)) nin0)) ((S_44.keep K_51 nin0 nin0).keep K_56 (ninS (Nat.ne_of_gt (Nat.lt_of_lt_of_le (Nat.lt_of_lt_of_le O_26.lt K_35.1) g_41)) nin0) (ninS (Nat.ne_of_gt (Nat.lt_of_lt_of_le (Nat.lt_of_lt_of_le O_26.lt K_35.1) g_42)) nin0)) (fun t h1 Kc ht hn => own_vol1 l Z a0 hw n0 c_59 s_11 eM S_M h1 (O_58.keep Kc nin0) u_12 k_13 x3 (((((((S_17.keep K_20 (ninS (Nat.ne_of_gt (Nat.lt_of_lt_of_le (Nat.lt_of_lt_of_le O_4.lt K_9.1) g_14)) (ninS (Nat.ne_of_lt (Nat.lt_of_lt_of_le (Nat.lt_of_lt_of_le ls_11.1 (Nat.le_refl _)) gb1.1)) nin0)) (ninS (Nat.ne_of_gt (Nat.lt_of_lt_of_le (Nat.lt_of_lt_of_le O_4.lt K_9.1) g_15)) (ninS (Nat.ne_of_lt (Nat.lt_of_lt_of_le (Nat.lt_of_lt_of_le ls_11.2 (Nat.le_refl _)) gb1.1)) nin0))).keep K_25 nin0 nin0).keep K_35 nin0 nin0).keep K_43 nin0 nin0).keep K_51 nin0 nin0).keep K_56 (ninS (Nat.ne_of_lt (Nat.lt_of_lt_of_le (Nat.lt_of_lt_of_le ls_11.1 K_20.1) g_27)) nin0) (ninS (Nat.ne_of_lt (Nat.lt_of_lt_of_le (Nat.lt_of_lt_of_le ls_11.2 K_20.1) g_27)) nin0)).keep Kc nin0 nin0) (Nat.ne_of_lt (Nat.lt_of_lt_of_le (Nat.lt_of_lt_of_le ls_11.1 (Nat.le_trans (Nat.le_trans (Nat.le_trans (Nat.le_trans K_20.1 K_25.1) K_35.1) K_43.1) K_51.1)) g_60)) t ht hn cpt S_C hcpt S_A S_H S_L fm hfm S_F) cpt S_C hcpt S_A S_H S_L fm hfm S_F) ?_
 rintro v h_61 D1 ⟨b, ub, kb', rfl, K_62, S_63, rfl⟩ hsz
 show Runs _ _ _ _ _ _ _ _ _ _ _ _ [b_24, b_2] h_61 46 2935 134 _ [(.ref b)]
 refine Runs.astore (ls' := #[y0, y1, y2, y3, y4, y5, vi x0, vi x1, vi x2, vi x3, vi x4, vi z, vi 1, vr b_2, vr b_24, vr b, .unset, .unset, .unset, .unset, .unset]) (g j0 73 rfl) rfl rfl ?_
 refine Runs.iload (g j0 74 rfl) rfl ?_
 refine Runs.ifY (t := 145) (g j0 75 rfl) (by decide) (feq (by decide : ¬ ((1 : Int32) = (0 : Int32)))).2 ?_
 refine Runs.iload (g j0 78 rfl) rfl ?_
 refine Runs.iconst (v := (1 : Int32)) (g j0 79 rfl) (by decide) ?_
 refine Runs.icN (g j0 80 rfl) (teq (by decide : (1 : Int32) = (1 : Int32))).2 ?_
 refine Runs.iconst (v := (3 : Int32)) (g j0 81 rfl) (by decide) ?_
 refine Runs.goto (t := 157) (g j0 82 rfl) (by decide) ?_
 refine Runs.istore (ls' := #[y0, y1, y2, y3, y4, y5, vi x0, vi x1, vi x2, vi x3, vi x4, vi z, vi 1, vr b_2, vr b_24, vr b, vi 3, .unset, .unset, .unset, .unset]) (g j0 84 rfl) rfl ?_
 refine Runs.bipush (v := (46 : Int32)) (g j0 85 rfl) (by decide) ?_
 refine Runs.iload (g j0 86 rfl) rfl ?_
 refine Runs.iadd (z := (49 : Int32)) (g j0 87 rfl) (by decide) ?_
 refine Runs.istore (ls' := #[y0, y1, y2, y3, y4, y5, vi x0, vi x1, vi x2, vi x3, vi x4, vi z, vi 1, vr b_2, vr b_24, vr b, vi 3, vi 49, .unset, .unset, .unset]) (g j0 88 rfl) rfl ?_
 rcases hz with rfl | rfl
 · skip
   refine Runs.iload (g j0 89 rfl) rfl ?_
   refine Runs.ifY (t := 176) (g j0 90 rfl) (by decide) (teq (by decide : (0 : Int32) = (0 : Int32))).1 ?_
   refine Runs.ldcT (vs := (own_T 457).map own_b) (z := Int32.ofNat (own_T 457).length) (n := 20) (by decide) (g j0 93 rfl) (own_k457 hw) (own_sa hw) (own_EW hw) (mi 6 rfl) ⟨own_c457, own_Tb own_c457⟩ (own_nn (by rw [own_L457]; decide)) (by rw [own_cl (by rw [own_L457]; decide), List.length_map]) (by rw [← own_Tlen, own_L457]; decide) (by decide) (by decide) (by decide) ?_
   intro h_64 s_65 t_66 k_67 K_68 O_69 A_70 dd_71
   have S_72 : Str Z h_64 s_65 t_66 k_67 (own_T 457) := ⟨O_69, A_70, own_Tl own_c457, by rw [own_L457]; decide⟩
   show Runs _ _ _ _ _ _ _ _ _ _ _ _ [b_24, b_2] h_64 48 2959 178 _ [(.ref s_65)]
   have SS := S_63.keep K_68 nin0 nin0
   refine Runs.weak (D1 := []) (fun _ q => nomatch q) ?_
   refine Runs.mono (kc' := 50) (ks' := 2966) (by decide) (by decide) ?_
   exact own_lB_1 l Z a0 hw n0 _ _ _ _ _ _ _ _ _ _ _ _ b ub kb' _ s_65 t_66 k_67 (own_T 457) _ SS (Or.inl S_72) x0 x1 x3 (by rw [own_L457]; decide) (by rw [own_q213, own_q275, own_q276, own_q402, own_q412, own_qw0]; simp only [List.append_assoc, List.cons_append, List.nil_append]) cpt S_C hcpt S_A S_H S_L fm hfm S_F
 · skip
   refine Runs.iload (g j0 89 rfl) rfl ?_
   refine Runs.ifN (g j0 90 rfl) (feq (by decide : ¬ ((1 : Int32) = (0 : Int32)))).1 ?_
   refine Runs.ldcT (vs := (own_T 423).map own_b) (z := Int32.ofNat (own_T 423).length) (n := 16) (by decide) (g j0 91 rfl) (own_k423 hw) (own_sa hw) (own_EW hw) (mi 5 rfl) ⟨own_c423, own_Tb own_c423⟩ (own_nn (by rw [own_L423]; decide)) (by rw [own_cl (by rw [own_L423]; decide), List.length_map]) (by rw [← own_Tlen, own_L423]; decide) (by decide) (by decide) (by decide) ?_
   intro h_73 s_74 t_75 k_76 K_77 O_78 A_79 dd_80
   have S_81 : Str Z h_73 s_74 t_75 k_76 (own_T 423) := ⟨O_78, A_79, own_Tl own_c423, by rw [own_L423]; decide⟩
   show Runs _ _ _ _ _ _ _ _ _ _ _ _ [b_24, b_2] h_73 48 2955 173 _ [(.ref s_74)]
   have SS := S_63.keep K_77 nin0 nin0
   refine Runs.goto (t := 178) (g j0 92 rfl) (by decide) ?_
   refine Runs.weak (D1 := []) (fun _ q => nomatch q) ?_
   refine Runs.mono (kc' := 50) (ks' := 2966) (by decide) (by decide) ?_
   exact own_lB_1 l Z a0 hw n0 _ _ _ _ _ _ _ _ _ _ _ _ b ub kb' _ s_74 t_75 k_76 (own_T 423) _ SS (Or.inl S_81) x0 x1 x3 (by rw [own_L423]; decide) (by rw [own_q213, own_q275, own_q276, own_q402, own_q412, own_qw1]; simp only [List.append_assoc, List.cons_append, List.nil_append]) cpt S_C hcpt S_A S_H S_L fm hfm S_F
theorem own_lA_2 (hw : Wds Z a0) (n0 : Nat) (y0 y1 y2 y3 y4 y5 : Slot) (x0 x1 x2 x3 x4 : Int32) (hx0 : ¬ x0 < 0 ∧ ¬ (65535 : Int32) < x0) (hx1 : ¬ x1 < 0 ∧ ¬ (65535 : Int32) < x1) (hx2 : ¬ x2 < 0 ∧ ¬ (65535 : Int32) < x2) (hx3 : ¬ x3 < 0 ∧ ¬ (65535 : Int32) < x3) (hx4 : ¬ x4 < 0 ∧ ¬ (65535 : Int32) < x4) (z : Int32) (hz : z = 0 ∨ z = 1) (cpt : Int32) (S_C : SC Z cpt) (hcpt : ¬ cpt = 0) (S_A : SA Z) (S_H : SH Z) (S_L : SL Z) (fm : Value) (hfm : fm.isRef = true) (S_F : SF Z fm) (dE : Addr) (kE : ClassId) (S_D : Sta Z Z.heap S5_ S20_ S7_ (.ref dE)) (A_D : Arv Z Z.heap dE kE (.object S8_) 0 [] .null) (eM : Addr) (S_M : Sta Z Z.heap S12_ "EMPTY" S9_ (.ref eM)) (lM : eM < Z.heap.size) (eL : Addr) (S_E : Sta Z Z.heap S12_ "EMPTY_LIST" S19_ (.ref eL)) (eA : Addr) (kA : ClassId) (OE : Obj Z Z.heap eL S15_ [(S15_, "elements", S7_, (.ref eA))]) (AE : Arv Z Z.heap eA kA (.object S8_) 0 [] .null) (mr : Addr) (M : RoadKit.Mir Z S7_ mr) : Runs 1 l Z EL_ n0 x.cls x.name code maxLocals ret room_1 (fun v h D' => v = some (.int 1)) [] Z.heap 0 0 58 #[y0, y1, y2, y3, y4, y5, vi x0, vi x1, vi x2, vi x3, vi x4, vi z, vi 2, .unset, .unset, .unset, .unset, .unset, .unset, .unset, .unset] [] := by
 refine Runs.newO (g j0 39 rfl) (wd hw 1 rfl) (wd hw 2 rfl) (wd hw 3 rfl) (lay_3 hw) (by decide) (by decide) ?_
 intro h_1 b_2 g_5 ge_6 K_3 (O_4 : Obj Z h_1 b_2 S5_ [(S13_, S27_, "I", (.int 0)), (S5_, S18_, S7_, .null), (S5_, "size", "I", (.int 0))]) U_7
 refine Runs.dup (g j0 40 rfl) rfl ?_
 refine Runs.callCW (argsL := []) (rest := [(.ref b_2)]) (W := 1) (g j0 41 rfl) rfl (wd hw 4 rfl) (wd hw 5 rfl) (wd hw 6 rfl) (wd hw 3 rfl) (by decide) pd_10 rfl rfl rfl rfl (by decide) (by decide) (by decide) (by decide) all0 (by decide) (own_al l Z a0 hw n0 b_2 _ ge_6 O_4 dE kE S_D A_D) ?_
 rintro v h_8 D1 ⟨rfl, K_9, O_10, rfl⟩ hsz
 show Runs _ _ _ _ _ _ _ _ _ _ _ _ [b_2] h_8 1 3 65 _ [(.ref b_2)]
 refine Runs.astore (ls' := #[y0, y1, y2, y3, y4, y5, vi x0, vi x1, vi x2, vi x3, vi x4, vi z, vi 2, vr b_2, .unset, .unset, .unset, .unset, .unset, .unset, .unset]) (g j0 42 rfl) rfl rfl ?_
 refine Runs.iload (g j0 43 rfl) rfl ?_
 refine Runs.iconst (v := (1 : Int32)) (g j0 44 rfl) (by decide) ?_
 refine Runs.icN (g j0 45 rfl) (flt (by decide : ¬ ((2 : Int32) < (1 : Int32)))).1 ?_
 refine Runs.aload (g j0 46 rfl) rfl rfl ?_
 refine Runs.iload (g j0 47 rfl) rfl ?_
 refine Runs.callSW (argsL := [(.int x3)]) (rest := [(.ref b_2)]) (W := 1) (g j0 48 rfl) (wd hw 27 rfl) (wd hw 28 rfl) (wd hw 29 rfl) (wd hw 30 rfl) (by decide) pd_58 rfl rfl rfl rfl (by decide) (by decide) (by decide) (by decide) all0 (by decide) (own_vx l Z a0 hw n0 x3 hx3 _ cpt S_C hcpt S_A S_H S_L) ?_
 rintro v h_18 D1 ⟨s_11, u_12, k_13, rfl, g_14, g_15, K_16, S_17, rfl⟩ hsz
 show Runs _ _ _ _ _ _ _ _ _ _ _ _ [b_2] h_18 3 9 80 _ [(.ref s_11), (.ref b_2)]
 have ls_11 := own_syl S_17
 have O_22 := (O_10.keep K_16 nin0)
 refine Runs.callVW (argsL := [(.ref s_11)]) (rest := []) (W := 0) (g j0 49 rfl) (wd hw 51 rfl) (wd hw 52 rfl) (fun s hZ => notFace_of_selects (args := #[]) (mvT hZ (wd hw 54 rfl))) (wd hw 54 rfl) (wd hw 53 rfl) (wd hw 55 rfl) (wd hw 3 rfl) (by decide) O_22.1 pd_60 rfl rfl rfl rfl (by decide) (by decide) (by decide) (by decide) all0 (by decide) (own_add1 l Z a0 hw n0 dE kE S_D A_D b_2 s_11 _ ge_6 O_22 (own_sxa S_17).1) ?_
 rintro v h_19 D1 ⟨rfl, b1, kb, gb1, K_20, F_21, rfl⟩ hsz
 show Runs _ _ _ _ _ _ _ _ _ _ _ _ [b_2] h_19 4 19 83 _ [(.int 1)]
 have lb1 := F_21.2.1.lt
 refine Runs.pop (g j0 50 rfl) rfl ?_
 refine Runs.iload (g j0 51 rfl) rfl ?_
 refine Runs.iconst (v := (2 : Int32)) (g j0 52 rfl) (by decide) ?_
 refine Runs.icN (g j0 53 rfl) (teq (by decide : (2 : Int32) = (2 : Int32))).2 ?_
 refine Runs.aload (g j0 54 rfl) rfl rfl ?_
 refine Runs.iload (g j0 55 rfl) rfl ?_
 refine Runs.callSW (argsL := [(.int x4)]) (rest := [(.ref b_2)]) (W := 1) (g j0 56 rfl) (wd hw 27 rfl) (wd hw 28 rfl) (wd hw 29 rfl) (wd hw 30 rfl) (by decide) pd_58 rfl rfl rfl rfl (by decide) (by decide) (by decide) (by decide) all0 (by decide) (own_vx l Z a0 hw n0 x4 hx4 _ cpt S_C hcpt S_A S_H S_L) ?_
 rintro v h_30 D1 ⟨s_23, u_24, k_25, rfl, g_26, g_27, K_28, S_29, rfl⟩ hsz
 show Runs _ _ _ _ _ _ _ _ _ _ _ _ [b_2] h_30 6 25 97 _ [(.ref s_23), (.ref b_2)]
 have ls_23 := own_syl S_29
 have F_34 : Obj Z h_30 b_2 S5_ [(S13_, S27_, "I", (.int 1)), (S5_, S18_, S7_, (.ref b1)), (S5_, "size", "I", (.int 1))] ∧ Arv Z h_30 b1 kb (.object S8_) (10 : Int32) [(.ref s_11), .null, .null, .null, .null, .null, .null, .null, .null, .null] .null ∧ Exa Z h_30 b1 S7_ ∧ RoadKit.Ovr Z kb S8_ := ⟨F_21.1.keep K_28 nin0, F_21.2.1.keep K_28 nin0, F_21.2.2.1.keep K_28, F_21.2.2.2⟩
 refine Runs.callVW (argsL := [(.ref s_23)]) (rest := []) (W := 0) (g j0 57 rfl) (wd hw 51 rfl) (wd hw 52 rfl) (fun s hZ => notFace_of_selects (args := #[]) (mvT hZ (wd hw 54 rfl))) (wd hw 54 rfl) (wd hw 53 rfl) (wd hw 55 rfl) (wd hw 3 rfl) (by decide) F_34.1.1 pd_60 rfl rfl rfl rfl (by decide) (by decide) (by decide) (by decide) all0 (by decide) (own_add2 l Z a0 hw n0 b_2 b1 s_11 s_23 kb _ ge_6 gb1.2 (Nat.ne_of_lt (Nat.lt_of_lt_of_le (Nat.lt_of_lt_of_le O_4.lt (Nat.le_trans K_9.1 K_16.1)) gb1.1)) F_34 (own_sxa S_29).1) ?_
 rintro v h_31 D1 ⟨rfl, K_32, F_33, rfl⟩ hsz
 show Runs _ _ _ _ _ _ _ _ _ _ _ _ [b_2] h_31 6 25 100 _ [(.int 1)]
 refine Runs.pop (g j0 58 rfl) rfl ?_
 refine Runs.newO (g j0 59 rfl) (wd hw 82 rfl) (wd hw 83 rfl) (wd hw 84 rfl) (lay_4 hw) (by decide) (by decide) ?_
 intro h_35 b_36 g_39 ge_40 K_37 (O_38 : Obj Z h_35 b_36 S1_ [(S1_, "clientId", S11_, .null), (S1_, "clientName", S11_, .null), (S1_, S24_, S11_, .null), (S1_, S25_, S16_, .null), (S1_, S23_, "Z", (.int 0))]) U_41
 refine Runs.dup (g j0 60 rfl) rfl ?_
 refine Runs.iload (g j0 61 rfl) rfl ?_
 refine Runs.callSW (argsL := [(.int x0)]) (rest := [(.ref b_36), (.ref b_36)]) (W := 2) (g j0 62 rfl) (wd hw 27 rfl) (wd hw 28 rfl) (wd hw 29 rfl) (wd hw 30 rfl) (by decide) pd_58 rfl rfl rfl rfl (by decide) (by decide) (by decide) (by decide) all0 (by decide) (own_vx l Z a0 hw n0 x0 hx0 _ cpt S_C hcpt S_A S_H S_L) ?_
 rintro v h_49 D1 ⟨s_42, u_43, k_44, rfl, g_45, g_46, K_47, S_48, rfl⟩ hsz
 show Runs _ _ _ _ _ _ _ _ _ _ _ _ [b_36, b_2] h_49 9 36 110 _ [(.ref s_42), (.ref b_36), (.ref b_36)]
 have ls_42 := own_syl S_48
 refine Runs.iload (g j0 63 rfl) rfl ?_
 refine Runs.callSW (argsL := [(.int x1)]) (rest := [(.ref s_42), (.ref b_36), (.ref b_36)]) (W := 3) (g j0 64 rfl) (wd hw 27 rfl) (wd hw 28 rfl) (wd hw 29 rfl) (wd hw 30 rfl) (by decide) pd_58 rfl rfl rfl rfl (by decide) (by decide) (by decide) (by decide) all0 (by decide) (own_vx l Z a0 hw n0 x1 hx1 _ cpt S_C hcpt S_A S_H S_L) ?_
 rintro v h_57 D1 ⟨s_50, u_51, k_52, rfl, g_53, g_54, K_55, S_56, rfl⟩ hsz
 show Runs _ _ _ _ _ _ _ _ _ _ _ _ [b_36, b_2] h_57 11 42 115 _ [(.ref s_50), (.ref s_42), (.ref b_36), (.ref b_36)]
 have ls_50 := own_syl S_56
 refine Runs.iload (g j0 65 rfl) rfl ?_
 refine Runs.callSW (argsL := [(.int x2)]) (rest := [(.ref s_50), (.ref s_42), (.ref b_36), (.ref b_36)]) (W := 4) (g j0 66 rfl) (wd hw 27 rfl) (wd hw 28 rfl) (wd hw 29 rfl) (wd hw 30 rfl) (by decide) pd_58 rfl rfl rfl rfl (by decide) (by decide) (by decide) (by decide) all0 (by decide) (own_vx l Z a0 hw n0 x2 hx2 _ cpt S_C hcpt S_A S_H S_L) ?_
 rintro v h_65 D1 ⟨s_58, u_59, k_60, rfl, g_61, g_62, K_63, S_64, rfl⟩ hsz
 show Runs _ _ _ _ _ _ _ _ _ _ _ _ [b_36, b_2] h_65 13 48 120 _ [(.ref s_58), (.ref s_50), (.ref s_42), (.ref b_36), (.ref b_36)]
 have ls_58 := own_syl S_64
 refine Runs.aload (g j0 67 rfl) rfl rfl ?_
 refine Runs.iload (g j0 68 rfl) rfl ?_
 have O_66 := (((O_38.keep K_47 nin0).keep K_55 nin0).keep K_63 nin0)
 refine Runs.callCW (argsL := [(.ref s_42), (.ref s_50), (.ref s_58), (.ref b_2), (.int z)]) (rest := [(.ref b_36)]) (W := 1) (g j0 69 rfl) rfl (wd hw 85 rfl) (wd hw 86 rfl) (wd hw 87 rfl) (wd hw 84 rfl) (by decide) pd_59 rfl rfl rfl rfl (by decide) (by decide) (by decide) (by decide) all0 (by decide) (own_cli2 l Z a0 hw n0 b_36 s_42 s_50 s_58 z hz b_2 b1 kb s_11 s_23 _ ⟨F_33.1.keep (((K_37.trans K_47 all0).trans K_55 all0).trans K_63 all0) nin0, F_33.2.1.keep (((K_37.trans K_47 all0).trans K_55 all0).trans K_63 all0) nin0, F_33.2.2.1.keep (((K_37.trans K_47 all0).trans K_55 all0).trans K_63 all0), F_33.2.2.2⟩ (own_sxa (((((((S_17.keep K_20 (ninS (Nat.ne_of_gt (Nat.lt_of_lt_of_le (Nat.lt_of_lt_of_le O_4.lt K_9.1) g_14)) (ninS (Nat.ne_of_lt (Nat.lt_of_lt_of_le (Nat.lt_of_lt_of_le ls_11.1 (Nat.le_refl _)) gb1.1)) nin0)) (ninS (Nat.ne_of_gt (Nat.lt_of_lt_of_le (Nat.lt_of_lt_of_le O_4.lt K_9.1) g_15)) (ninS (Nat.ne_of_lt (Nat.lt_of_lt_of_le (Nat.lt_of_lt_of_le ls_11.2 (Nat.le_refl _)) gb1.1)) nin0))).keep K_28 nin0 nin0).keep K_32 (ninS (Nat.ne_of_gt (Nat.lt_of_lt_of_le (Nat.lt_of_lt_of_le O_4.lt K_9.1) g_14)) (ninS (Nat.ne_of_lt (Nat.lt_of_lt_of_le (Nat.lt_of_lt_of_le ls_11.1 (Nat.le_refl _)) gb1.1)) nin0)) (ninS (Nat.ne_of_gt (Nat.lt_of_lt_of_le (Nat.lt_of_lt_of_le O_4.lt K_9.1) g_15)) (ninS (Nat.ne_of_lt (Nat.lt_of_lt_of_le (Nat.lt_of_lt_of_le ls_11.2 (Nat.le_refl _)) gb1.1)) nin0))).keep K_37 nin0 nin0).keep K_47 nin0 nin0).keep K_55 nin0 nin0).keep K_63 nin0 nin0)).1 (own_sxa (((((S_29.keep K_32 (ninS (Nat.ne_of_gt (Nat.lt_of_lt_of_le (Nat.lt_of_lt_of_le O_4.lt (Nat.le_trans (Nat.le_trans K_9.1 K_16.1) K_20.1)) g_26)) (ninS (Nat.ne_of_gt (Nat.lt_of_lt_of_le (Nat.lt_of_lt_of_le lb1 (Nat.le_refl _)) g_26)) nin0)) (ninS (Nat.ne_of_gt (Nat.lt_of_lt_of_le (Nat.lt_of_lt_of_le O_4.lt (Nat.le_trans (Nat.le_trans K_9.1 K_16.1) K_20.1)) g_27)) (ninS (Nat.ne_of_gt (Nat.lt_of_lt_of_le (Nat.lt_of_lt_of_le lb1 (Nat.le_refl _)) g_27)) nin0))).keep K_37 nin0 nin0).keep K_47 nin0 nin0).keep K_55 nin0 nin0).keep K_63 nin0 nin0)).1 (Nat.le_trans ge_40 (Nat.le_of_lt O_66.lt)) mr M eM S_M ge_40 O_66) ?_
 rintro v h_67 D1 ⟨rfl, c_71, g_72, K_68, O_69, O_70, rfl⟩ hsz
 show Runs _ _ _ _ _ _ _ _ _ _ _ _ [b_36, b_2] h_67 15 52 127 _ [(.ref b_36)]
 refine Runs.astore (ls' := #[y0, y1, y2, y3, y4, y5, vi x0, vi x1, vi x2, vi x3, vi x4, vi z, vi 2, vr b_2, vr b_36, .unset, .unset, .unset, .unset, .unset, .unset]) (g j0 70 rfl) rfl rfl ?_
 refine Runs.aload (g j0 71 rfl) rfl rfl ?_
 refine Runs.callVW (argsL := []) (rest := []) (W := 0) (g j0 72 rfl) (wd hw 190 rfl) (wd hw 191 rfl) (fun s hZ => notFace_of_selects (args := #[]) (mvT hZ (wd hw 193 rfl))) (wd hw 193 rfl) (wd hw 192 rfl) (wd hw 194 rfl) (wd hw 84 rfl) (by decide) O_69.1 pd_21 rfl rfl rfl rfl (by decide) (by decide) (by decide) (by decide) all0 (by decide) (own_clt l Z a0 hw n0 b_36 s_42 s_50 s_58 c_71 u_43 u_51 k_44 k_52 x0 x1  z hz [91, x3, 44, 32, x4, 93] (by simp) _ (Nat.le_trans ge_40 (Nat.le_of_lt O_69.lt)) O_69 (((S_48.keep K_55 nin0 nin0).keep K_63 nin0 nin0).keep K_68 (ninS (Nat.ne_of_gt (Nat.lt_of_lt_of_le (Nat.lt_of_lt_of_le O_38.lt (Nat.le_refl _)) g_45)) nin0) (ninS (Nat.ne_of_gt (Nat.lt_of_lt_of_le (Nat.lt_of_lt_of_le O_38.lt (Nat.le_refl _)) g_46)) nin0)) ((S_56.keep K_63 nin0 nin0).keep K_68 (ninS (Nat.ne_of_gt (Nat.lt_of_lt_of_le (Nat.lt_of_lt_of_le O_38.lt K_47.1) g_53)) nin0) (ninS (Nat.ne_of_gt (Nat.lt_of_lt_of_le (Nat.lt_of_lt_of_le O_38.lt K_47.1) g_54)) nin0)) (fun t h1 Kc ht hn => own_vol2 l Z a0 hw n0 c_71 s_11 s_23 eM S_M h1 (O_70.keep Kc nin0) (Nat.ne_of_gt (Nat.lt_of_lt_of_le lM (Nat.le_trans (Nat.le_trans (Nat.le_trans (Nat.le_trans K_3.1 K_9.1) K_16.1) K_20.1) g_26))) u_12 k_13 x3 (((((((((S_17.keep K_20 (ninS (Nat.ne_of_gt (Nat.lt_of_lt_of_le (Nat.lt_of_lt_of_le O_4.lt K_9.1) g_14)) (ninS (Nat.ne_of_lt (Nat.lt_of_lt_of_le (Nat.lt_of_lt_of_le ls_11.1 (Nat.le_refl _)) gb1.1)) nin0)) (ninS (Nat.ne_of_gt (Nat.lt_of_lt_of_le (Nat.lt_of_lt_of_le O_4.lt K_9.1) g_15)) (ninS (Nat.ne_of_lt (Nat.lt_of_lt_of_le (Nat.lt_of_lt_of_le ls_11.2 (Nat.le_refl _)) gb1.1)) nin0))).keep K_28 nin0 nin0).keep K_32 (ninS (Nat.ne_of_gt (Nat.lt_of_lt_of_le (Nat.lt_of_lt_of_le O_4.lt K_9.1) g_14)) (ninS (Nat.ne_of_lt (Nat.lt_of_lt_of_le (Nat.lt_of_lt_of_le ls_11.1 (Nat.le_refl _)) gb1.1)) nin0)) (ninS (Nat.ne_of_gt (Nat.lt_of_lt_of_le (Nat.lt_of_lt_of_le O_4.lt K_9.1) g_15)) (ninS (Nat.ne_of_lt (Nat.lt_of_lt_of_le (Nat.lt_of_lt_of_le ls_11.2 (Nat.le_refl _)) gb1.1)) nin0))).keep K_37 nin0 nin0).keep K_47 nin0 nin0).keep K_55 nin0 nin0).keep K_63 nin0 nin0).keep K_68 (ninS (Nat.ne_of_lt (Nat.lt_of_lt_of_le (Nat.lt_of_lt_of_le ls_11.1 (Nat.le_trans (Nat.le_trans K_20.1 K_28.1) K_32.1)) g_39)) nin0) (ninS (Nat.ne_of_lt (Nat.lt_of_lt_of_le (Nat.lt_of_lt_of_le ls_11.2 (Nat.le_trans (Nat.le_trans K_20.1 K_28.1) K_32.1)) g_39)) nin0)).keep Kc nin0 nin0) (Nat.ne_of_lt (Nat.lt_of_lt_of_le (Nat.lt_of_lt_of_le ls_11.1 (Nat.le_trans (Nat.le_trans (Nat.le_trans (Nat.le_trans (Nat.le_trans (Nat.le_trans K_20.1 K_28.1) K_32.1) K_37.1) K_47.1) K_55.1) K_63.1)) g_72)) u_24 k_25 x4 (((((((S_29.keep K_32 (ninS (Nat.ne_of_gt (Nat.lt_of_lt_of_le (Nat.lt_of_lt_of_le O_4.lt (Nat.le_trans (Nat.le_trans K_9.1 K_16.1) K_20.1)) g_26)) (ninS (Nat.ne_of_gt (Nat.lt_of_lt_of_le (Nat.lt_of_lt_of_le lb1 (Nat.le_refl _)) g_26)) nin0)) (ninS (Nat.ne_of_gt (Nat.lt_of_lt_of_le (Nat.lt_of_lt_of_le O_4.lt (Nat.le_trans (Nat.le_trans K_9.1 K_16.1) K_20.1)) g_27)) (ninS (Nat.ne_of_gt (Nat.lt_of_lt_of_le (Nat.lt_of_lt_of_le lb1 (Nat.le_refl _)) g_27)) nin0))).keep K_37 nin0 nin0).keep K_47 nin0 nin0).keep K_55 nin0 nin0).keep K_63 nin0 nin0).keep K_68 (ninS (Nat.ne_of_lt (Nat.lt_of_lt_of_le (Nat.lt_of_lt_of_le ls_23.1 K_32.1) g_39)) nin0) (ninS (Nat.ne_of_lt (Nat.lt_of_lt_of_le (Nat.lt_of_lt_of_le ls_23.2 K_32.1) g_39)) nin0)).keep Kc nin0 nin0) (Nat.ne_of_lt (Nat.lt_of_lt_of_le (Nat.lt_of_lt_of_le ls_23.1 (Nat.le_trans (Nat.le_trans (Nat.le_trans (Nat.le_trans K_32.1 K_37.1) K_47.1) K_55.1) K_63.1)) g_72)) t ht hn cpt S_C hcpt S_A S_H S_L fm hfm S_F) cpt S_C hcpt S_A S_H S_L fm hfm S_F) ?_
 rintro v h_73 D1 ⟨b, ub, kb', rfl, K_74, S_75, rfl⟩ hsz
 show Runs _ _ _ _ _ _ _ _ _ _ _ _ [b_36, b_2] h_73 48 2942 134 _ [(.ref b)]
 refine Runs.astore (ls' := #[y0, y1, y2, y3, y4, y5, vi x0, vi x1, vi x2, vi x3, vi x4, vi z, vi 2, vr b_2, vr b_36, vr b, .unset, .unset, .unset, .unset, .unset]) (g j0 73 rfl) rfl rfl ?_
 refine Runs.iload (g j0 74 rfl) rfl ?_
 refine Runs.ifY (t := 145) (g j0 75 rfl) (by decide) (feq (by decide : ¬ ((2 : Int32) = (0 : Int32)))).2 ?_
 refine Runs.iload (g j0 78 rfl) rfl ?_
 refine Runs.iconst (v := (1 : Int32)) (g j0 79 rfl) (by decide) ?_
 refine Runs.icY (t := 155) (g j0 80 rfl) (by decide) (feq (by decide : ¬ ((2 : Int32) = (1 : Int32)))).2 ?_
 refine Runs.bipush (v := (6 : Int32)) (g j0 83 rfl) (by decide) ?_
 refine Runs.istore (ls' := #[y0, y1, y2, y3, y4, y5, vi x0, vi x1, vi x2, vi x3, vi x4, vi z, vi 2, vr b_2, vr b_36, vr b, vi 6, .unset, .unset, .unset, .unset]) (g j0 84 rfl) rfl ?_
 refine Runs.bipush (v := (46 : Int32)) (g j0 85 rfl) (by decide) ?_
 refine Runs.iload (g j0 86 rfl) rfl ?_
 refine Runs.iadd (z := (52 : Int32)) (g j0 87 rfl) (by decide) ?_
 refine Runs.istore (ls' := #[y0, y1, y2, y3, y4, y5, vi x0, vi x1, vi x2, vi x3, vi x4, vi z, vi 2, vr b_2, vr b_36, vr b, vi 6, vi 52, .unset, .unset, .unset]) (g j0 88 rfl) rfl ?_
 rcases hz with rfl | rfl
 · skip
   refine Runs.iload (g j0 89 rfl) rfl ?_
   refine Runs.ifY (t := 176) (g j0 90 rfl) (by decide) (teq (by decide : (0 : Int32) = (0 : Int32))).1 ?_
   refine Runs.ldcT (vs := (own_T 457).map own_b) (z := Int32.ofNat (own_T 457).length) (n := 20) (by decide) (g j0 93 rfl) (own_k457 hw) (own_sa hw) (own_EW hw) (mi 6 rfl) ⟨own_c457, own_Tb own_c457⟩ (own_nn (by rw [own_L457]; decide)) (by rw [own_cl (by rw [own_L457]; decide), List.length_map]) (by rw [← own_Tlen, own_L457]; decide) (by decide) (by decide) (by decide) ?_
   intro h_76 s_77 t_78 k_79 K_80 O_81 A_82 dd_83
   have S_84 : Str Z h_76 s_77 t_78 k_79 (own_T 457) := ⟨O_81, A_82, own_Tl own_c457, by rw [own_L457]; decide⟩
   show Runs _ _ _ _ _ _ _ _ _ _ _ _ [b_36, b_2] h_76 50 2966 178 _ [(.ref s_77)]
   have SS := S_75.keep K_80 nin0 nin0
   refine Runs.weak (D1 := []) (fun _ q => nomatch q) ?_
   refine Runs.mono (kc' := 50) (ks' := 2966) (by decide) (by decide) ?_
   exact own_lB_2 l Z a0 hw n0 _ _ _ _ _ _ _ _ _ _ _ b ub kb' _ s_77 t_78 k_79 (own_T 457) _ SS (Or.inl S_84) x0 x1 x3 x4 (by rw [own_L457]; decide) (by rw [own_q213, own_q275, own_q276, own_q402, own_q412, own_qw0]; simp only [List.append_assoc, List.cons_append, List.nil_append]) cpt S_C hcpt S_A S_H S_L fm hfm S_F
 · skip
   refine Runs.iload (g j0 89 rfl) rfl ?_
   refine Runs.ifN (g j0 90 rfl) (feq (by decide : ¬ ((1 : Int32) = (0 : Int32)))).1 ?_
   refine Runs.ldcT (vs := (own_T 423).map own_b) (z := Int32.ofNat (own_T 423).length) (n := 16) (by decide) (g j0 91 rfl) (own_k423 hw) (own_sa hw) (own_EW hw) (mi 5 rfl) ⟨own_c423, own_Tb own_c423⟩ (own_nn (by rw [own_L423]; decide)) (by rw [own_cl (by rw [own_L423]; decide), List.length_map]) (by rw [← own_Tlen, own_L423]; decide) (by decide) (by decide) (by decide) ?_
   intro h_85 s_86 t_87 k_88 K_89 O_90 A_91 dd_92
   have S_93 : Str Z h_85 s_86 t_87 k_88 (own_T 423) := ⟨O_90, A_91, own_Tl own_c423, by rw [own_L423]; decide⟩
   show Runs _ _ _ _ _ _ _ _ _ _ _ _ [b_36, b_2] h_85 50 2962 173 _ [(.ref s_86)]
   have SS := S_75.keep K_89 nin0 nin0
   refine Runs.goto (t := 178) (g j0 92 rfl) (by decide) ?_
   refine Runs.weak (D1 := []) (fun _ q => nomatch q) ?_
   refine Runs.mono (kc' := 50) (ks' := 2966) (by decide) (by decide) ?_
   exact own_lB_2 l Z a0 hw n0 _ _ _ _ _ _ _ _ _ _ _ b ub kb' _ s_86 t_87 k_88 (own_T 423) _ SS (Or.inl S_93) x0 x1 x3 x4 (by rw [own_L423]; decide) (by rw [own_q213, own_q275, own_q276, own_q402, own_q412, own_qw1]; simp only [List.append_assoc, List.cons_append, List.nil_append]) cpt S_C hcpt S_A S_H S_L fm hfm S_F
theorem own_l50 (hw : Wds Z a0) (n0 : Nat) (y0 y1 y2 y3 y4 : Slot) (p5 : Int32) (x0 x1 x2 x3 x4 : Int32) (hx0 : ¬ x0 < 0 ∧ ¬ (65535 : Int32) < x0) (hx1 : ¬ x1 < 0 ∧ ¬ (65535 : Int32) < x1) (hx2 : ¬ x2 < 0 ∧ ¬ (65535 : Int32) < x2) (hx3 : ¬ x3 < 0 ∧ ¬ (65535 : Int32) < x3) (hx4 : ¬ x4 < 0 ∧ ¬ (65535 : Int32) < x4) (z : Int32) (hz : z = 0 ∨ z = 1) (cpt : Int32) (S_C : SC Z cpt) (hcpt : ¬ cpt = 0) (S_A : SA Z) (S_H : SH Z) (S_L : SL Z) (fm : Value) (hfm : fm.isRef = true) (S_F : SF Z fm) (dE : Addr) (kE : ClassId) (S_D : Sta Z Z.heap S5_ S20_ S7_ (.ref dE)) (A_D : Arv Z Z.heap dE kE (.object S8_) 0 [] .null) (eM : Addr) (S_M : Sta Z Z.heap S12_ "EMPTY" S9_ (.ref eM)) (lM : eM < Z.heap.size) (eL : Addr) (S_E : Sta Z Z.heap S12_ "EMPTY_LIST" S19_ (.ref eL)) (eA : Addr) (kA : ClassId) (OE : Obj Z Z.heap eL S15_ [(S15_, "elements", S7_, (.ref eA))]) (AE : Arv Z Z.heap eA kA (.object S8_) 0 [] .null) (mr : Addr) (M : RoadKit.Mir Z S7_ mr) : Runs 1 l Z EL_ n0 x.cls x.name code maxLocals ret room_1 (fun v h D' => v = some (.int 1)) [] Z.heap 0 0 50 #[y0, y1, y2, y3, y4, vi p5, vi x0, vi x1, vi x2, vi x3, vi x4, vi z, .unset, .unset, .unset, .unset, .unset, .unset, .unset, .unset, .unset] [] := by
 refine Runs.iload (g j0 33 rfl) rfl ?_
 refine Runs.iconst (v := (1 : Int32)) (g j0 34 rfl) (by decide) ?_
 refine Runs.iushr (z := Jvm.Free.XT.ushr p5 1) (g j0 35 rfl) rfl ?_
 refine Runs.iconst (v := (3 : Int32)) (g j0 36 rfl) (by decide) ?_
 rcases own_mod3 p5 with h3 | h3 | h3
 · refine Runs.irem (z := 0) (g j0 37 rfl) (by decide) h3 ?_
   refine Runs.istore (ls' := #[y0, y1, y2, y3, y4, vi p5, vi x0, vi x1, vi x2, vi x3, vi x4, vi z, vi 0, .unset, .unset, .unset, .unset, .unset, .unset, .unset, .unset]) (g j0 38 rfl) rfl ?_
   exact own_lA_0 l Z a0 hw n0 _ _ _ _ _ _ x0 x1 x2 x3 x4 hx0 hx1 hx2 hx3 hx4 z hz cpt S_C hcpt S_A S_H S_L fm hfm S_F dE kE S_D A_D eM S_M lM eL S_E eA kA OE AE mr M
 · refine Runs.irem (z := 1) (g j0 37 rfl) (by decide) h3 ?_
   refine Runs.istore (ls' := #[y0, y1, y2, y3, y4, vi p5, vi x0, vi x1, vi x2, vi x3, vi x4, vi z, vi 1, .unset, .unset, .unset, .unset, .unset, .unset, .unset, .unset]) (g j0 38 rfl) rfl ?_
   exact own_lA_1 l Z a0 hw n0 _ _ _ _ _ _ x0 x1 x2 x3 x4 hx0 hx1 hx2 hx3 hx4 z hz cpt S_C hcpt S_A S_H S_L fm hfm S_F dE kE S_D A_D eM S_M lM eL S_E eA kA OE AE mr M
 · refine Runs.irem (z := 2) (g j0 37 rfl) (by decide) h3 ?_
   refine Runs.istore (ls' := #[y0, y1, y2, y3, y4, vi p5, vi x0, vi x1, vi x2, vi x3, vi x4, vi z, vi 2, .unset, .unset, .unset, .unset, .unset, .unset, .unset, .unset]) (g j0 38 rfl) rfl ?_
   exact own_lA_2 l Z a0 hw n0 _ _ _ _ _ _ x0 x1 x2 x3 x4 hx0 hx1 hx2 hx3 hx4 z hz cpt S_C hcpt S_A S_H S_L fm hfm S_F dE kE S_D A_D eM S_M lM eL S_E eA kA OE AE mr M
theorem own_law (hw : Wds Z a0) (n0 : Nat) (p0 p1 p2 p3 p4 p5 : Int32) (cpt : Int32) (S_C : SC Z cpt) (hcpt : ¬ cpt = 0) (S_A : SA Z) (S_H : SH Z) (S_L : SL Z) (fm : Value) (hfm : fm.isRef = true) (S_F : SF Z fm) (dE : Addr) (kE : ClassId) (S_D : Sta Z Z.heap S5_ S20_ S7_ (.ref dE)) (A_D : Arv Z Z.heap dE kE (.object S8_) 0 [] .null) (eM : Addr) (S_M : Sta Z Z.heap S12_ "EMPTY" S9_ (.ref eM)) (lM : eM < Z.heap.size) (eL : Addr) (S_E : Sta Z Z.heap S12_ "EMPTY_LIST" S19_ (.ref eL)) (eA : Addr) (kA : ClassId) (OE : Obj Z Z.heap eL S15_ [(S15_, "elements", S7_, (.ref eA))]) (AE : Arv Z Z.heap eA kA (.object S8_) 0 [] .null) (mr : Addr) (M : RoadKit.Mir Z S7_ mr) : Con 1 l Z EL_ n0 x code maxLocals ret room_1 #[(.int p0), (.int p1), (.int p2), (.int p3), (.int p4), (.int p5)] [] Z.heap (fun v h D' => v = some (.int 1)) := by
 refine Con.of_runs (ls := #[vi p0, vi p1, vi p2, vi p3, vi p4, vi p5, .unset, .unset, .unset, .unset, .unset, .unset, .unset, .unset, .unset, .unset, .unset, .unset, .unset, .unset, .unset]) (by decide +kernel) (ef rfl rfl) ?_
 refine Runs.iloadN (g j0 0 rfl) rfl ?_
 refine Runs.ldcI (g j0 1 rfl) (wd hw 0 rfl) ?_
 obtain ⟨x0, e0, hx0⟩ : ∃ x, p0 &&& (65535 : Int32) = x ∧ (¬ x < 0 ∧ ¬ (65535 : Int32) < x) := ⟨_, rfl, own_m16 p0⟩
 refine Runs.iand (z := x0) (g j0 2 rfl) e0 ?_
 refine Runs.i2c (z := x0) (g j0 3 rfl) (own_cc hx0) ?_
 refine Runs.istore (ls' := #[vi p0, vi p1, vi p2, vi p3, vi p4, vi p5, vi x0, .unset, .unset, .unset, .unset, .unset, .unset, .unset, .unset, .unset, .unset, .unset, .unset, .unset, .unset]) (g j0 4 rfl) rfl ?_
 refine Runs.iloadN (g j0 5 rfl) rfl ?_
 refine Runs.ldcI (g j0 6 rfl) (wd hw 0 rfl) ?_
 obtain ⟨x1, e1, hx1⟩ : ∃ x, p1 &&& (65535 : Int32) = x ∧ (¬ x < 0 ∧ ¬ (65535 : Int32) < x) := ⟨_, rfl, own_m16 p1⟩
 refine Runs.iand (z := x1) (g j0 7 rfl) e1 ?_
 refine Runs.i2c (z := x1) (g j0 8 rfl) (own_cc hx1) ?_
 refine Runs.istore (ls' := #[vi p0, vi p1, vi p2, vi p3, vi p4, vi p5, vi x0, vi x1, .unset, .unset, .unset, .unset, .unset, .unset, .unset, .unset, .unset, .unset, .unset, .unset, .unset]) (g j0 9 rfl) rfl ?_
 refine Runs.iloadN (g j0 10 rfl) rfl ?_
 refine Runs.ldcI (g j0 11 rfl) (wd hw 0 rfl) ?_
 obtain ⟨x2, e2, hx2⟩ : ∃ x, p2 &&& (65535 : Int32) = x ∧ (¬ x < 0 ∧ ¬ (65535 : Int32) < x) := ⟨_, rfl, own_m16 p2⟩
 refine Runs.iand (z := x2) (g j0 12 rfl) e2 ?_
 refine Runs.i2c (z := x2) (g j0 13 rfl) (own_cc hx2) ?_
 refine Runs.istore (ls' := #[vi p0, vi p1, vi p2, vi p3, vi p4, vi p5, vi x0, vi x1, vi x2, .unset, .unset, .unset, .unset, .unset, .unset, .unset, .unset, .unset, .unset, .unset, .unset]) (g j0 14 rfl) rfl ?_
 refine Runs.iloadN (g j0 15 rfl) rfl ?_
 refine Runs.ldcI (g j0 16 rfl) (wd hw 0 rfl) ?_
 obtain ⟨x3, e3, hx3⟩ : ∃ x, p3 &&& (65535 : Int32) = x ∧ (¬ x < 0 ∧ ¬ (65535 : Int32) < x) := ⟨_, rfl, own_m16 p3⟩
 refine Runs.iand (z := x3) (g j0 17 rfl) e3 ?_
 refine Runs.i2c (z := x3) (g j0 18 rfl) (own_cc hx3) ?_
 refine Runs.istore (ls' := #[vi p0, vi p1, vi p2, vi p3, vi p4, vi p5, vi x0, vi x1, vi x2, vi x3, .unset, .unset, .unset, .unset, .unset, .unset, .unset, .unset, .unset, .unset, .unset]) (g j0 19 rfl) rfl ?_
 refine Runs.iload (g j0 20 rfl) rfl ?_
 refine Runs.ldcI (g j0 21 rfl) (wd hw 0 rfl) ?_
 obtain ⟨x4, e4, hx4⟩ : ∃ x, p4 &&& (65535 : Int32) = x ∧ (¬ x < 0 ∧ ¬ (65535 : Int32) < x) := ⟨_, rfl, own_m16 p4⟩
 refine Runs.iand (z := x4) (g j0 22 rfl) e4 ?_
 refine Runs.i2c (z := x4) (g j0 23 rfl) (own_cc hx4) ?_
 refine Runs.istore (ls' := #[vi p0, vi p1, vi p2, vi p3, vi p4, vi p5, vi x0, vi x1, vi x2, vi x3, vi x4, .unset, .unset, .unset, .unset, .unset, .unset, .unset, .unset, .unset, .unset]) (g j0 24 rfl) rfl ?_
 refine Runs.iload (g j0 25 rfl) rfl ?_
 refine Runs.iconst (v := (1 : Int32)) (g j0 26 rfl) (by decide) ?_
 refine Runs.iand (z := p5 &&& 1) (g j0 27 rfl) rfl ?_
 by_cases hc40 : (p5 &&& 1) = (0 : Int32)
 · refine Runs.ifY (t := 47) (g j0 28 rfl) (by decide) (teq hc40).1 ?_
   refine Runs.iconst (v := (0 : Int32)) (g j0 31 rfl) (by decide) ?_
   refine Runs.istore (ls' := #[vi p0, vi p1, vi p2, vi p3, vi p4, vi p5, vi x0, vi x1, vi x2, vi x3, vi x4, vi 0, .unset, .unset, .unset, .unset, .unset, .unset, .unset, .unset, .unset]) (g j0 32 rfl) rfl ?_
   exact own_l50 l Z a0 hw n0 _ _ _ _ _ p5 x0 x1 x2 x3 x4 hx0 hx1 hx2 hx3 hx4 0 (Or.inl rfl) cpt S_C hcpt S_A S_H S_L fm hfm S_F dE kE S_D A_D eM S_M lM eL S_E eA kA OE AE mr M
 · refine Runs.ifN (g j0 28 rfl) (feq hc40).1 ?_
   refine Runs.iconst (v := (1 : Int32)) (g j0 29 rfl) (by decide) ?_
   refine Runs.goto (t := 48) (g j0 30 rfl) (by decide) ?_
   refine Runs.istore (ls' := #[vi p0, vi p1, vi p2, vi p3, vi p4, vi p5, vi x0, vi x1, vi x2, vi x3, vi x4, vi 1, .unset, .unset, .unset, .unset, .unset, .unset, .unset, .unset, .unset]) (g j0 32 rfl) rfl ?_
   exact own_l50 l Z a0 hw n0 _ _ _ _ _ p5 x0 x1 x2 x3 x4 hx0 hx1 hx2 hx3 hx4 1 (Or.inr rfl) cpt S_C hcpt S_A S_H S_L fm hfm S_F dE kE S_D A_D eM S_M lM eL S_E eA kA OE AE mr M
set_option maxHeartbeats 40000000 in
theorem comes_1 {Post : Tables → Env → Array Value → State → Outcome → State → Prop} (hpost : ∀ tb e args s v u, (limb_1_1.after args s (.returned v) u = true ∧ limb_1_2.after args s (.returned v) u = true ∧ True) → Jvm.Pilot.@@N@@.Jvm.D.FramedW s (.returned v) u (Jvm.fieldLocs frame_1_writes args s ++ Jvm.arrayLocs frame_1_arrays args s ++ Jvm.staticLocs frame_1_statics s) 96 14080 → Post tb e args s (.returned v) u) :
   ArmFor flags0 classFile x code maxLocals ret World_1 tables_1 room_1 Calls_1 rest_1 Pre_1 Post := by
 intro l hfl _ _ p e ha hc hk s m args below hf hA hF happ hP
 obtain ⟨hcalls, hrest, hpre⟩ := hP
 obtain ⟨-, -, -, hnamed, -, -, -, hat⟩ := (Spec.applies_iff hf).mp happ
 obtain ⟨hg, hn⟩ := and_e (Cond.before_iff.mp (show (Jvm.Cond.and given_1 narrow_1).before args s = true from hpre))
 obtain ⟨g1, g2⟩ := and_e hg
 obtain ⟨g3, g4⟩ := and_e g2
 obtain ⟨g5, g6⟩ := and_e g4
 obtain ⟨g7, g8⟩ := and_e g6
 obtain ⟨g9, g10⟩ := and_e g8
 obtain ⟨g11, g12⟩ := and_e g10
 obtain ⟨w0, w1, w2, w3, w4, w5, rfl⟩ : ∃ w0 w1 w2 w3 w4 w5 : Value, args = #[w0, w1, w2, w3, w4, w5] := by
   have hs : args.size = 6 := by simpa [Cond.value, given_1] using g1
   obtain ⟨L⟩ := args
   match L, hs with
   | [w0, w1, w2, w3, w4, w5], _ => exact ⟨w0, w1, w2, w3, w4, w5, rfl⟩
 have hw : Wds s _ := fun d (hd : d ∈ tables_1) => atoms_spec (ws := Jvm.Cond.code x code maxLocals ret :: tables_1) hat d (List.mem_cons_of_mem _ hd)
 obtain ⟨i0, ei0⟩ := is_v g3
 obtain rfl : w0 = (.int i0) := Option.some.inj ei0
 obtain ⟨i1, ei1⟩ := is_v g5
 obtain rfl : w1 = (.int i1) := Option.some.inj ei1
 obtain ⟨i2, ei2⟩ := is_v g7
 obtain rfl : w2 = (.int i2) := Option.some.inj ei2
 obtain ⟨i3, ei3⟩ := is_v g9
 obtain rfl : w3 = (.int i3) := Option.some.inj ei3
 obtain ⟨i4, ei4⟩ := is_v g11
 obtain rfl : w4 = (.int i4) := Option.some.inj ei4
 obtain ⟨i5, ei5⟩ := is_v g12
 obtain rfl : w5 = (.int i5) := Option.some.inj ei5
 obtain ⟨hsets, -⟩ := atoms_of _ (rest_1_c_eq ▸ (show rest_1_c.before _ s = true from hrest))
 obtain ⟨cpt, ev_cpt⟩ := is_v (Cond.before_iff.mp (hsets _ (mi 10 rfl)))
 have S_C : Sta s s.heap S6_ "COMPACT_STRINGS" "Z" (.int cpt) := Sta.start ev_cpt (Or.inl (hsets _ (mi 9 rfl)))
 have hcpt : ¬ cpt = 0 := gotF (own_eqI ev_cpt (Term.int_eval 0)) (not_v (Cond.before_iff.mp (hsets _ (mi 11 rfl))))
 obtain ⟨fm, ev_fm, hfm⟩ := isR_v (Cond.before_iff.mp (hsets _ (mi 17 rfl)))
 have S_F : Sta s s.heap "jdk/internal/util/Preconditions" "SIOOBE_FORMATTER" "Ljava/util/function/BiFunction;" fm := Sta.start ev_fm (Or.inl (hsets _ (mi 16 rfl)))
 have S_A : Sta s s.heap S17_ "$assertionsDisabled" "Z" (.int 1) := Sta.start (Cond.eq_int (hsets _ (mi 30 rfl)) rfl) (Or.inl (hsets _ (mi 29 rfl)))
 have S_H : Sta s s.heap S17_ "HI_BYTE_SHIFT" "I" (.int 0) := Sta.start (Cond.eq_int (hsets _ (mi 33 rfl)) rfl) (Or.inl (hsets _ (mi 32 rfl)))
 have S_L : Sta s s.heap S17_ "LO_BYTE_SHIFT" "I" (.int 8) := Sta.start (Cond.eq_int (hsets _ (mi 36 rfl)) rfl) (Or.inl (hsets _ (mi 35 rfl)))
 obtain ⟨dE, ev_D⟩ := exa_v (Cond.before_iff.mp (hsets _ (mi 7 rfl)))
 have S_D : Sta s s.heap S5_ S20_ S7_ (.ref dE) := Sta.start ev_D (Or.inr ⟨(wd hw 3 rfl), (hsets _ (mi 2 rfl))⟩)
 obtain ⟨kE, A_D⟩ := own_arr0 ev_D (Cond.before_iff.mp (hsets _ (mi 6 rfl))) (Cond.eq_int (hsets _ (mi 8 rfl)) rfl)
 obtain ⟨eM, ev_M⟩ := exa_v (Cond.before_iff.mp (hsets _ (mi 20 rfl)))
 have S_M : Sta s s.heap S12_ "EMPTY" S9_ (.ref eM) := Sta.start ev_M (Or.inl (hsets _ (mi 19 rfl)))
 have lM : eM < s.heap.size := Obj.lt (⟨Exa.start ev_M (Cond.before_iff.mp (hsets _ (mi 20 rfl))), fun f hf => nomatch hf⟩ : Obj s s.heap eM S8_ [])
 obtain ⟨eL, ev_E⟩ := exa_v (Cond.before_iff.mp (hsets _ (mi 26 rfl)))
 have S_E : Sta s s.heap S12_ "EMPTY_LIST" S19_ (.ref eL) := Sta.start ev_E (Or.inl (hsets _ (mi 25 rfl)))
 obtain ⟨eA, ev_A⟩ := exa_v (Cond.before_iff.mp (hsets _ (mi 41 rfl)))
 have OE : Obj s s.heap eL S15_ [(S15_, "elements", S7_, (.ref eA))] := ⟨Exa.start ev_E (Cond.before_iff.mp (hsets _ (mi 26 rfl))), List.forall_mem_singleton.mpr (Fld.start ((fld_at ev_E).symm.trans ev_A))⟩
 obtain ⟨kA, AE⟩ := own_arr0 ev_A (Cond.before_iff.mp (hsets _ (mi 40 rfl))) (Cond.eq_int (hsets _ (mi 42 rfl)) rfl)
 obtain ⟨mc, mk, mr, m1, m2, m3, m4⟩ := hcalls.1
 have M : RoadKit.Mir s S7_ mr := ⟨mc, mk, m1, m2, m3, m4⟩
 have hC : CHv s EL_ s.vm s.heap := CHv.start (own_EW hw) (fun p hp => hcalls.2.1 p hp) (hsets _ (mi 11 rfl)) (wd hw 41 rfl) (wd hw 37 rfl)
 obtain ⟨n, o, h1, h2, h3, v, L, D', rfl, rfl, -, N, -, hq⟩ := own_law l s _ hw s.heap.size i0 i1 i2 i3 i4 i5 cpt S_C hcpt S_A S_H S_L fm hfm S_F dE kE S_D A_D eM S_M lM eL S_E eA kA OE AE mr M tables_1 p e ha hc hk s m _ below hf ((Spec.applies_iff_loose hf).mp happ).1 ⟨rfl, State.Warmed39.refl s, rfl, Old.start s, ⟨_, own_EW hw⟩, hC, fun _ q => nomatch q⟩ (fun q => absurd q (by decide))
 have hq : ReturnedEndW s _ _ L _ _ := hq
 refine ⟨n, _, h1, h2, h3, hpost _ _ _ _ _ _ ⟨Cond.after_iff.mpr rfl, Cond.after_iff.mpr (eq_i res_at (Term.int_eval (1)) rfl), trivial⟩ ⟨hq.1, hq.2.1, hq.2.2.1, (hq.2.2.2.sift fun y hy => Or.inr (N y hy)).mono (by decide) (by decide)⟩⟩
theorem main_1_1 : Claimed_1_1 := comes_1 fun _ _ _ _ _ _ h hF => ⟨h.1, hF⟩
theorem main_1_2 : Claimed_1_2 := comes_1 fun _ _ _ _ _ _ h hF => ⟨h.2.1, hF⟩
end Jvm.Pilot.@@N@@
namespace Jvm.Pilot.@@N@@
open Jvm Jvm.ClassFile Sem Op Lib Jvm.Free Jvm.Stand Jvm.Pilot.@@N@@.Jvm.D
/-! MADE BY PROGRAM (witnessworld.py) out of the Statement's table words and the real class files: 44 classes; the members and pool entries that the words name. The judged class is class 1, her method 3. -/
set_option maxRecDepth 65536
namespace start1
open Jvm.ClassFile
def u (s : String) : CpInfo := .utf8 (stringToUtf16 s)
/-- a pool by its gaps: so many unusable entries, then the entry; so many at the end -/
def gap : Nat → List CpInfo → List CpInfo
  | 0, r => r
  | n + 1, r => .unusable :: gap n r
def poolList (es : List (Nat × CpInfo)) (last : Nat) : List CpInfo := es.foldr (fun e r => gap e.1 (e.2 :: r)) (gap last [])
def pool (es : List (Nat × CpInfo)) (last : Nat) : Array CpInfo := ⟨poolList es last⟩
def fileOf (pool : Array CpInfo) (this : Nat) (attrs : Array Attribute := #[]) (ms : Array MethodInfo := #[]) (fl : Nat := 33) (sup : Nat := 0) (ifs : Array Nat := #[]) (fds : Array FieldInfo := #[]) : ClassFile where
  minorVersion := 0
  majorVersion := 65
  constantPool := pool
  accessFlags := fl
  thisClass := this
  superClass := sup
  interfaces := ifs
  fields := fds
  methods := ms
  attributes := attrs
def plain (name : String) (sup : Option ClassId) : Class where
  name := name
  kind := .ordinary
  loader := none
  accessFlags := 33
  super := sup
  interfaces := #[]
  cf := none
  fields := #[]
  methods := #[]
  instanceTypes := #[]
  staticTypes := #[]
  resolved := #[]
  callSites := []
  init := .initialized
  statics := none
  mirror := none
def pool0 : Array CpInfo := pool [(5, u "<init>"), (0, u "()V"), (1, .class_ 10), (1, u "java/lang/Object"), (0, u "getClass"), (0, u "()Ljava/lang/Class;"), (5, u "()Ljava/lang/String;"), (18, u "toString"), (58, u "clone"), (0, u "()Ljava/lang/Object;")] 26
def k0c0 : Code := { maxStack := 0, maxLocals := 1, code := object_method_1_code, exceptionTable := #[], attributes := #[] }
def k0m0 : Method := { name := "<init>", desc := "()V", sig := { parameters := [], returnType := none }, accessFlags := 1, code := some k0c0 }
def k0m1 : Method := { name := "getClass", desc := "()Ljava/lang/Class;", sig := { parameters := [], returnType := some (.object "java/lang/Class") }, accessFlags := 273, code := none }
def k0m2 : Method := { name := "clone", desc := "()Ljava/lang/Object;", sig := { parameters := [], returnType := some (.object "java/lang/Object") }, accessFlags := 260, code := none }
def k0c3 : Code := { maxStack := 2, maxLocals := 1, code := ⟨#[0xbb, 0x00, 0x01, 0x59, 0xb7, 0x00, 0x03, 0x2a, 0xb6, 0x00, 0x07, 0xb6, 0x00, 0x0d, 0xb6, 0x00, 0x13, 0x12, 0x17, 0xb6, 0x00, 0x13, 0x2a, 0xb6, 0x00, 0x19, 0xb8, 0x00, 0x1d, 0xb6, 0x00, 0x13, 0xb6, 0x00, 0x23, 0xb0]⟩, exceptionTable := #[], attributes := #[] }
def k0m3 : Method := { name := "toString", desc := "()Ljava/lang/String;", sig := { parameters := [], returnType := some (.object "java/lang/String") }, accessFlags := 1, code := some k0c3 }
def k0 : Class := { plain "java/lang/Object" none with
  accessFlags := 33
  cf := some (fileOf pool0 8 #[] #[{ accessFlags := 1, nameIndex := 5, descriptorIndex := 6, attributes := #[] }, { accessFlags := 273, nameIndex := 11, descriptorIndex := 12, attributes := #[] }, { accessFlags := 260, nameIndex := 96, descriptorIndex := 97, attributes := #[] }, { accessFlags := 1, nameIndex := 37, descriptorIndex := 18, attributes := #[] }] 33 0 #[] #[])
  methods := #[k0m0, k0m1, k0m2, k0m3]
  resolved := Array.replicate 124 none }
def pool1 : Array CpInfo := pool [(2, .class_ 4), (0, .nameAndType 5 6), (0, u "java/lang/Object"), (0, u "<init>"), (0, u "()V"), (0, .methodref 8 9), (0, .class_ 10), (0, .nameAndType 11 12), (0, u "java/lang/String"), (0, u "length"), (0, u "()I"), (0, .methodref 8 14), (0, .nameAndType 15 16), (0, u "charAt"), (0, u "(I)C"), (0, .methodref 18 19), (0, .class_ 20), (0, .nameAndType 21 22), (0, u "com/example/gatewarden/gatewarden/model/ClientToStringPinLaw"), (0, u "c"), (0, u "(Ljava/lang/String;ILjava/lang/String;I)Z"), (0, .integer 65535), (0, .class_ 25), (0, u "java/util/ArrayList"), (0, .methodref 24 3), (0, .methodref 8 28), (0, .nameAndType 29 30), (0, u "valueOf"), (0, u "(C)Ljava/lang/String;"), (0, .methodref 24 32), (0, .nameAndType 33 34), (0, u "add"), (0, u "(Ljava/lang/Object;)Z"), (0, .class_ 36), (0, u "com/example/gatewarden/gatewarden/model/Client"), (0, .methodref 35 38), (0, .nameAndType 5 39), (0, u "(Ljava/lang/String;Ljava/lang/String;Ljava/lang/String;Ljava/util/List;Z)V"), (0, .methodref 35 41), (0, .nameAndType 42 43), (0, u "toString"), (0, u "()Ljava/lang/String;"), (0, .string 45), (0, u "true"), (0, .string 47), (0, u "false"), (0, .string 49), (0, u "Client[clientId="), (0, .methodref 18 51), (0, .nameAndType 52 53), (0, u "seg"), (0, u "(Ljava/lang/String;ILjava/lang/String;)Z"), (0, .string 55), (0, u ", clientName="), (0, .string 57), (0, u ", redirectUris="), (0, .string 59), (0, u ", offlineAccess="), (3, u "law"), (0, u "(IIIIII)Z")] 2
def k1m0 : Method := { name := "<init>", desc := "()V", sig := { parameters := [], returnType := none }, accessFlags := 1, code := none }
def k1c1 : Code := { maxStack := 3, maxLocals := 4, code := method_2_code, exceptionTable := #[], attributes := #[] }
def k1m1 : Method := { name := "c", desc := "(Ljava/lang/String;ILjava/lang/String;I)Z", sig := { parameters := [(.object "java/lang/String"), .int, (.object "java/lang/String"), .int], returnType := some .boolean }, accessFlags := 10, code := some k1c1 }
def k1c2 : Code := { maxStack := 4, maxLocals := 3, code := method_3_code, exceptionTable := #[], attributes := #[] }
def k1m2 : Method := { name := "seg", desc := "(Ljava/lang/String;ILjava/lang/String;)Z", sig := { parameters := [(.object "java/lang/String"), .int, (.object "java/lang/String")], returnType := some .boolean }, accessFlags := 10, code := some k1c2 }
def k1c3 : Code := { maxStack := 7, maxLocals := 21, code := code, exceptionTable := #[], attributes := #[] }
def k1m3 : Method := { name := "law", desc := "(IIIIII)Z", sig := { parameters := [.int, .int, .int, .int, .int, .int], returnType := some .boolean }, accessFlags := 9, code := some k1c3 }
def k1 : Class := { plain "com/example/gatewarden/gatewarden/model/ClientToStringPinLaw" (some 0) with
  accessFlags := 49
  cf := some (fileOf pool1 18 #[] #[{ accessFlags := 1, nameIndex := 5, descriptorIndex := 6, attributes := #[] }, { accessFlags := 10, nameIndex := 21, descriptorIndex := 22, attributes := #[] }, { accessFlags := 10, nameIndex := 52, descriptorIndex := 53, attributes := #[] }, { accessFlags := 9, nameIndex := 63, descriptorIndex := 64, attributes := #[] }] 49 2 #[] #[])
  methods := #[k1m0, k1m1, k1m2, k1m3]
  resolved := Array.replicate 67 none }
def pool2 : Array CpInfo := pool [(8, .class_ 10), (1, u "java/lang/Iterable"), (24, .class_ 36), (0, u "java/lang/Object")] 25
def k2 : Class := { plain "java/lang/Iterable" (some 0) with
  accessFlags := 1537
  cf := some (fileOf pool2 8 #[] #[] 1537 35 #[] #[])
  resolved := Array.replicate 62 none }
def pool3 : Array CpInfo := pool [(10, .class_ 12), (1, u "java/util/Collection"), (0, u "toArray"), (16, u "()Z"), (29, .class_ 61), (0, u "java/lang/Object"), (0, .class_ 63), (0, u "java/lang/Iterable"), (2, u "isEmpty"), (3, u "()[Ljava/lang/Object;")] 44
def k3m0 : Method := { name := "isEmpty", desc := "()Z", sig := { parameters := [], returnType := some .boolean }, accessFlags := 1025, code := none }
def k3m1 : Method := { name := "toArray", desc := "()[Ljava/lang/Object;", sig := { parameters := [], returnType := some (.array (.object "java/lang/Object")) }, accessFlags := 1025, code := none }
def k3 : Class := { plain "java/util/Collection" (some 0) with
  accessFlags := 1537
  interfaces := #[2]
  cf := some (fileOf pool3 10 #[] #[{ accessFlags := 1025, nameIndex := 66, descriptorIndex := 30, attributes := #[] }, { accessFlags := 1025, nameIndex := 13, descriptorIndex := 70, attributes := #[] }] 1537 60 #[62] #[])
  methods := #[k3m0, k3m1]
  resolved := Array.replicate 115 none }
def pool4 : Array CpInfo := pool [(1, .methodref 2 3), (0, .class_ 4), (0, .nameAndType 5 6), (0, u "java/lang/Object"), (0, u "<init>"), (0, u "()V"), (1, .class_ 10), (1, u "java/util/AbstractCollection"), (0, u "size"), (0, u "()I"), (0, .methodref 8 14), (0, .nameAndType 15 16), (0, u "iterator"), (0, u "()Ljava/util/Iterator;"), (0, .interfaceMethodref 18 19), (0, .class_ 20), (0, .nameAndType 21 22), (0, u "java/util/Iterator"), (0, u "hasNext"), (0, u "()Z"), (0, .interfaceMethodref 18 24), (0, .nameAndType 25 26), (0, u "next"), (0, u "()Ljava/lang/Object;"), (50, .class_ 78), (0, u "java/util/Collection"), (13, .string 93), (0, u "[]"), (0, .class_ 95), (0, u "java/lang/StringBuilder"), (0, .methodref 94 3), (0, .methodref 94 98), (0, .nameAndType 99 100), (0, u "append"), (0, u "(C)Ljava/lang/StringBuilder;"), (2, .methodref 94 104), (0, .nameAndType 99 105), (0, u "(Ljava/lang/Object;)Ljava/lang/StringBuilder;"), (0, .methodref 94 107), (0, .nameAndType 108 109), (0, u "toString"), (0, u "()Ljava/lang/String;")] 50
def k4c0 : Code := { maxStack := 1, maxLocals := 1, code := jdk_22_method_1_code, exceptionTable := #[], attributes := #[] }
def k4m0 : Method := { name := "<init>", desc := "()V", sig := { parameters := [], returnType := none }, accessFlags := 4, code := some k4c0 }
def k4m1 : Method := { name := "iterator", desc := "()Ljava/util/Iterator;", sig := { parameters := [], returnType := some (.object "java/util/Iterator") }, accessFlags := 1025, code := none }
def k4m2 : Method := { name := "size", desc := "()I", sig := { parameters := [], returnType := some .int }, accessFlags := 1025, code := none }
def k4c3 : Code := { maxStack := 3, maxLocals := 4, code := jdk_22_method_16_code, exceptionTable := #[], attributes := #[] }
def k4m3 : Method := { name := "toString", desc := "()Ljava/lang/String;", sig := { parameters := [], returnType := some (.object "java/lang/String") }, accessFlags := 1, code := some k4c3 }
def k4 : Class := { plain "java/util/AbstractCollection" (some 0) with
  accessFlags := 1057
  interfaces := #[3]
  cf := some (fileOf pool4 8 #[] #[{ accessFlags := 4, nameIndex := 5, descriptorIndex := 6, attributes := #[] }, { accessFlags := 1025, nameIndex := 15, descriptorIndex := 16, attributes := #[] }, { accessFlags := 1025, nameIndex := 11, descriptorIndex := 12, attributes := #[] }, { accessFlags := 1, nameIndex := 108, descriptorIndex := 109, attributes := #[] }] 1057 2 #[77] #[])
  methods := #[k4m0, k4m1, k4m2, k4m3]
  resolved := Array.replicate 160 none }
def pool5 : Array CpInfo := pool [(8, .class_ 10), (1, u "java/util/SequencedCollection"), (15, .class_ 27), (0, u "java/lang/Object"), (0, .class_ 29), (0, u "java/util/Collection")] 27
def k5 : Class := { plain "java/util/SequencedCollection" (some 0) with
  accessFlags := 1537
  interfaces := #[3]
  cf := some (fileOf pool5 8 #[] #[] 1537 26 #[28] #[])
  resolved := Array.replicate 57 none }
def pool6 : Array CpInfo := pool [(8, .class_ 10), (1, u "java/util/List"), (20, u "(Ljava/lang/Object;)V"), (16, u "<init>"), (26, u "get"), (0, u "(I)Ljava/lang/Object;"), (11, u "of"), (1, .fieldref 91 92), (0, .class_ 93), (0, .nameAndType 94 95), (0, u "java/util/ImmutableCollections"), (0, u "EMPTY_LIST"), (0, u "Ljava/util/ImmutableCollections$ListN;"), (0, .class_ 97), (0, u "java/util/ImmutableCollections$List12"), (0, .methodref 96 99), (0, .nameAndType 48 31), (0, .methodref 96 101), (0, .nameAndType 48 102), (0, u "(Ljava/lang/Object;Ljava/lang/Object;)V"), (0, .class_ 104), (0, u "java/lang/Object"), (3, u "([Ljava/lang/Object;)Ljava/util/List;"), (3, .methodref 91 113), (0, .nameAndType 114 115), (0, u "listCopy"), (0, u "(Ljava/util/Collection;)Ljava/util/List;"), (3, u "()Ljava/util/List;"), (0, .class_ 121), (0, u "java/util/SequencedCollection"), (112, u "copyOf")] 16
def k6m0 : Method := { name := "get", desc := "(I)Ljava/lang/Object;", sig := { parameters := [.int], returnType := some (.object "java/lang/Object") }, accessFlags := 1025, code := none }
def k6c1 : Code := { maxStack := 1, maxLocals := 0, code := jdk_40_method_36_code, exceptionTable := #[], attributes := #[] }
def k6m1 : Method := { name := "of", desc := "()Ljava/util/List;", sig := { parameters := [], returnType := some (.object "java/util/List") }, accessFlags := 9, code := some k6c1 }
def k6c2 : Code := { maxStack := 5, maxLocals := 2, code := jdk_40_method_47_code, exceptionTable := #[], attributes := #[] }
def k6m2 : Method := { name := "of", desc := "([Ljava/lang/Object;)Ljava/util/List;", sig := { parameters := [(.array (.object "java/lang/Object"))], returnType := some (.object "java/util/List") }, accessFlags := 137, code := some k6c2 }
def k6c3 : Code := { maxStack := 1, maxLocals := 1, code := jdk_40_method_48_code, exceptionTable := #[], attributes := #[] }
def k6m3 : Method := { name := "copyOf", desc := "(Ljava/util/Collection;)Ljava/util/List;", sig := { parameters := [(.object "java/util/Collection")], returnType := some (.object "java/util/List") }, accessFlags := 9, code := some k6c3 }
def k6 : Class := { plain "java/util/List" (some 0) with
  accessFlags := 1537
  interfaces := #[5]
  cf := some (fileOf pool6 8 #[] #[{ accessFlags := 1025, nameIndex := 75, descriptorIndex := 76, attributes := #[] }, { accessFlags := 9, nameIndex := 88, descriptorIndex := 119, attributes := #[] }, { accessFlags := 137, nameIndex := 88, descriptorIndex := 108, attributes := #[] }, { accessFlags := 9, nameIndex := 234, descriptorIndex := 115, attributes := #[] }] 1537 103 #[120] #[])
  methods := #[k6m0, k6m1, k6m2, k6m3]
  resolved := Array.replicate 251 none }
def pool7 : Array CpInfo := pool [(1, .methodref 2 3), (0, .class_ 4), (0, .nameAndType 5 6), (0, u "java/util/AbstractCollection"), (0, u "<init>"), (0, u "()V"), (0, .fieldref 8 9), (0, .class_ 10), (0, .nameAndType 11 12), (0, u "java/util/AbstractList"), (0, u "modCount"), (0, u "I"), (64, .class_ 78), (0, u "java/util/AbstractList$Itr"), (3, .class_ 83), (0, u "java/util/AbstractList$ListItr"), (9, .class_ 94), (0, u "java/util/AbstractList$RandomAccessSubList"), (3, .class_ 99), (0, u "java/util/AbstractList$SubList"), (33, .class_ 134), (0, u "java/util/List"), (73, .class_ 209), (0, u "java/util/AbstractList$SubList$1"), (0, .class_ 211), (0, u "java/util/AbstractList$RandomAccessSpliterator")] 6
def k7c0 : Code := { maxStack := 2, maxLocals := 1, code := jdk_39_method_1_code, exceptionTable := #[], attributes := #[] }
def k7m0 : Method := { name := "<init>", desc := "()V", sig := { parameters := [], returnType := none }, accessFlags := 4, code := some k7c0 }
def k7 : Class := { plain "java/util/AbstractList" (some 4) with
  accessFlags := 1057
  interfaces := #[6]
  cf := some (fileOf pool7 8 #[.nestMembers #[93, 98, 208, 210, 82, 77]] #[{ accessFlags := 4, nameIndex := 5, descriptorIndex := 6, attributes := #[] }] 1057 2 #[133] #[{ accessFlags := 132, nameIndex := 11, descriptorIndex := 12, attributes := #[] }])
  fields := #[{ name := "modCount", type := .int, accessFlags := 132, slot := 0, constantValue := 0 }]
  methods := #[k7m0]
  instanceTypes := #[.int]
  resolved := Array.replicate 218 none }
def pool8 : Array CpInfo := pool [(1, .class_ 2), (0, u "java/util/RandomAccess"), (0, .class_ 4), (0, u "java/lang/Object")] 2
def k8 : Class := { plain "java/util/RandomAccess" (some 0) with
  accessFlags := 1537
  cf := some (fileOf pool8 1 #[] #[] 1537 3 #[] #[])
  resolved := Array.replicate 7 none }
def pool9 : Array CpInfo := pool [(1, .class_ 2), (0, u "java/lang/Cloneable"), (0, .class_ 4), (0, u "java/lang/Object")] 2
def k9 : Class := { plain "java/lang/Cloneable" (some 0) with
  accessFlags := 1537
  cf := some (fileOf pool9 1 #[] #[] 1537 3 #[] #[])
  resolved := Array.replicate 7 none }
def pool10 : Array CpInfo := pool [(1, .class_ 2), (0, u "java/io/Serializable"), (0, .class_ 4), (0, u "java/lang/Object")] 2
def k10 : Class := { plain "java/io/Serializable" (some 0) with
  accessFlags := 1537
  cf := some (fileOf pool10 1 #[] #[] 1537 3 #[] #[])
  resolved := Array.replicate 7 none }
def pool11 : Array CpInfo := pool [(1, .methodref 2 3), (0, .class_ 4), (0, .nameAndType 5 6), (0, u "java/util/AbstractList"), (0, u "<init>"), (0, u "()V"), (0, .class_ 8), (0, u "java/lang/Object"), (0, .fieldref 10 11), (0, .class_ 12), (0, .nameAndType 13 14), (0, u "java/util/ArrayList"), (0, u "elementData"), (0, u "[Ljava/lang/Object;"), (2, u "EMPTY_ELEMENTDATA"), (21, .fieldref 10 40), (0, .nameAndType 41 14), (0, u "DEFAULTCAPACITY_EMPTY_ELEMENTDATA"), (4, u "toArray"), (0, u "()[Ljava/lang/Object;"), (0, .fieldref 10 49), (0, .nameAndType 50 51), (0, u "size"), (0, u "I"), (6, .class_ 60), (1, u "java/util/Arrays"), (0, u "copyOf"), (1, .fieldref 10 64), (0, .nameAndType 65 51), (0, u "modCount"), (0, .methodref 58 67), (0, .nameAndType 61 68), (0, u "([Ljava/lang/Object;I)[Ljava/lang/Object;"), (0, .methodref 10 70), (0, .nameAndType 71 72), (0, u "grow"), (0, u "(I)[Ljava/lang/Object;"), (6, .methodref 80 81), (0, .class_ 82), (0, .nameAndType 83 84), (0, u "java/lang/Math"), (0, u "max"), (0, u "(II)I"), (11, u "(Ljava/lang/Object;)Z"), (32, .methodref 10 130), (0, .nameAndType 71 47), (0, .methodref 10 132), (0, .nameAndType 133 134), (0, u "add"), (0, u "(Ljava/lang/Object;[Ljava/lang/Object;I)V"), (13, .class_ 149), (0, u "java/util/List"), (23, u "()Z"), (88, .class_ 263), (0, u "java/util/ArrayList$ListItr"), (3, .class_ 268), (0, u "java/util/ArrayList$Itr"), (7, .class_ 277), (0, u "java/util/ArrayList$SubList"), (12, .class_ 291), (0, u "java/util/ArrayList$ArrayListSpliterator"), (37, .class_ 330), (0, u "java/util/RandomAccess"), (0, .class_ 332), (0, u "java/lang/Cloneable"), (0, .class_ 334), (0, u "java/io/Serializable"), (0, u "serialVersionUID"), (0, u "J"), (3, u "DEFAULT_CAPACITY"), (22, u "isEmpty"), (136, .class_ 501), (0, u "java/util/ArrayList$SubList$2"), (0, .class_ 503), (0, u "java/util/ArrayList$SubList$1")] 5
def k11c0 : Code := { maxStack := 2, maxLocals := 1, code := jdk_38_method_2_code, exceptionTable := #[], attributes := #[] }
def k11m0 : Method := { name := "<init>", desc := "()V", sig := { parameters := [], returnType := none }, accessFlags := 1, code := some k11c0 }
def k11c1 : Code := { maxStack := 4, maxLocals := 4, code := jdk_38_method_6_code, exceptionTable := #[], attributes := #[] }
def k11m1 : Method := { name := "grow", desc := "(I)[Ljava/lang/Object;", sig := { parameters := [.int], returnType := some (.array (.object "java/lang/Object")) }, accessFlags := 2, code := some k11c1 }
def k11c2 : Code := { maxStack := 3, maxLocals := 1, code := jdk_38_method_7_code, exceptionTable := #[], attributes := #[] }
def k11m2 : Method := { name := "grow", desc := "()[Ljava/lang/Object;", sig := { parameters := [], returnType := some (.array (.object "java/lang/Object")) }, accessFlags := 2, code := some k11c2 }
def k11c3 : Code := { maxStack := 1, maxLocals := 1, code := jdk_38_method_9_code, exceptionTable := #[], attributes := #[] }
def k11m3 : Method := { name := "isEmpty", desc := "()Z", sig := { parameters := [], returnType := some .boolean }, accessFlags := 1, code := some k11c3 }
def k11c4 : Code := { maxStack := 2, maxLocals := 1, code := jdk_38_method_16_code, exceptionTable := #[], attributes := #[] }
def k11m4 : Method := { name := "toArray", desc := "()[Ljava/lang/Object;", sig := { parameters := [], returnType := some (.array (.object "java/lang/Object")) }, accessFlags := 1, code := some k11c4 }
def k11c5 : Code := { maxStack := 3, maxLocals := 4, code := jdk_38_method_24_code, exceptionTable := #[], attributes := #[] }
def k11m5 : Method := { name := "add", desc := "(Ljava/lang/Object;[Ljava/lang/Object;I)V", sig := { parameters := [(.object "java/lang/Object"), (.array (.object "java/lang/Object")), .int], returnType := none }, accessFlags := 2, code := some k11c5 }
def k11c6 : Code := { maxStack := 4, maxLocals := 2, code := jdk_38_method_25_code, exceptionTable := #[], attributes := #[] }
def k11m6 : Method := { name := "add", desc := "(Ljava/lang/Object;)Z", sig := { parameters := [(.object "java/lang/Object")], returnType := some .boolean }, accessFlags := 1, code := some k11c6 }
def k11 : Class := { plain "java/util/ArrayList" (some 7) with
  accessFlags := 33
  interfaces := #[6, 8, 9, 10]
  cf := some (fileOf pool11 10 #[.nestMembers #[290, 276, 500, 502, 262, 267]] #[{ accessFlags := 1, nameIndex := 5, descriptorIndex := 6, attributes := #[] }, { accessFlags := 2, nameIndex := 71, descriptorIndex := 72, attributes := #[] }, { accessFlags := 2, nameIndex := 71, descriptorIndex := 47, attributes := #[] }, { accessFlags := 1, nameIndex := 363, descriptorIndex := 173, attributes := #[] }, { accessFlags := 1, nameIndex := 46, descriptorIndex := 47, attributes := #[] }, { accessFlags := 2, nameIndex := 133, descriptorIndex := 134, attributes := #[] }, { accessFlags := 1, nameIndex := 133, descriptorIndex := 96, attributes := #[] }] 33 2 #[148, 329, 331, 333] #[{ accessFlags := 26, nameIndex := 335, descriptorIndex := 336, attributes := #[] }, { accessFlags := 26, nameIndex := 340, descriptorIndex := 51, attributes := #[] }, { accessFlags := 26, nameIndex := 17, descriptorIndex := 14, attributes := #[] }, { accessFlags := 26, nameIndex := 41, descriptorIndex := 14, attributes := #[] }, { accessFlags := 128, nameIndex := 13, descriptorIndex := 14, attributes := #[] }, { accessFlags := 2, nameIndex := 50, descriptorIndex := 51, attributes := #[] }])
  fields := #[{ name := "serialVersionUID", type := .long, accessFlags := 26, slot := 0, constantValue := 0 }, { name := "DEFAULT_CAPACITY", type := .int, accessFlags := 26, slot := 1, constantValue := 0 }, { name := "EMPTY_ELEMENTDATA", type := (.array (.object "java/lang/Object")), accessFlags := 26, slot := 2, constantValue := 0 }, { name := "DEFAULTCAPACITY_EMPTY_ELEMENTDATA", type := (.array (.object "java/lang/Object")), accessFlags := 26, slot := 3, constantValue := 0 }, { name := "elementData", type := (.array (.object "java/lang/Object")), accessFlags := 128, slot := 1, constantValue := 0 }, { name := "size", type := .int, accessFlags := 2, slot := 2, constantValue := 0 }]
  methods := #[k11m0, k11m1, k11m2, k11m3, k11m4, k11m5, k11m6]
  instanceTypes := #[.int, (.array (.object "java/lang/Object")), .int]
  staticTypes := #[.long, .int, (.array (.object "java/lang/Object")), (.array (.object "java/lang/Object"))]
  resolved := Array.replicate 509 none
  statics := some 0 }
def pool12 : Array CpInfo := pool [(1, .class_ 2), (0, u "java/lang/Comparable"), (0, .class_ 4), (0, u "java/lang/Object")] 7
def k12 : Class := { plain "java/lang/Comparable" (some 0) with
  accessFlags := 1537
  cf := some (fileOf pool12 1 #[] #[] 1537 3 #[] #[])
  resolved := Array.replicate 12 none }
def pool13 : Array CpInfo := pool [(2, .class_ 4), (1, u "java/lang/CharSequence"), (42, .class_ 48), (0, u "java/lang/CharSequence$1CodePointIterator"), (10, .class_ 60), (0, u "java/lang/CharSequence$1CharIterator"), (5, .class_ 67), (0, u "java/lang/Object")] 63
def k13 : Class := { plain "java/lang/CharSequence" (some 0) with
  accessFlags := 1537
  cf := some (fileOf pool13 2 #[.nestMembers #[47, 59]] #[] 1537 66 #[] #[])
  resolved := Array.replicate 131 none }
def pool14 : Array CpInfo := pool [(1, .class_ 2), (0, u "java/lang/constant/Constable"), (0, .class_ 4), (0, u "java/lang/Object")] 6
def k14 : Class := { plain "java/lang/constant/Constable" (some 0) with
  accessFlags := 1537
  cf := some (fileOf pool14 1 #[] #[] 1537 3 #[] #[])
  resolved := Array.replicate 11 none }
def pool15 : Array CpInfo := pool [(1, .class_ 2), (0, u "java/lang/constant/ConstantDesc"), (0, .class_ 4), (0, u "java/lang/Object")] 32
def k15 : Class := { plain "java/lang/constant/ConstantDesc" (some 0) with
  accessFlags := 1537
  cf := some (fileOf pool15 1 #[] #[] 1537 3 #[] #[])
  resolved := Array.replicate 37 none }
def pool16 : Array CpInfo := pool [(1, .methodref 2 3), (0, .class_ 4), (0, .nameAndType 5 6), (0, u "java/lang/Object"), (0, u "<init>"), (0, u "()V"), (2, .fieldref 10 11), (0, .class_ 12), (0, .nameAndType 13 14), (0, u "java/lang/String"), (0, u "value"), (0, u "[B"), (0, .fieldref 10 16), (0, .nameAndType 17 18), (0, u "coder"), (0, u "B"), (2, u "hash"), (0, u "I"), (2, u "hashIsZero"), (0, u "Z"), (9, u "checkBoundsOffCount"), (0, u "(III)I"), (0, .fieldref 10 39), (0, .nameAndType 40 26), (0, u "COMPACT_STRINGS"), (1, .class_ 44), (1, u "java/lang/StringUTF16"), (8, u "toBytes"), (0, .methodref 55 56), (0, .class_ 57), (0, .nameAndType 58 59), (0, u "java/util/Arrays"), (0, u "copyOfRange"), (0, u "([BII)[B"), (46, .methodref 107 108), (0, .class_ 109), (0, .nameAndType 110 111), (0, u "java/lang/StringLatin1"), (0, u "inflate"), (0, u "([BI[BII)V"), (30, u "()Z"), (50, .class_ 195), (1, u "java/lang/System"), (13, .methodref 10 210), (0, .nameAndType 5 211), (0, u "([BB)V"), (0, .methodref 193 213), (0, .nameAndType 214 215), (0, u "arraycopy"), (0, u "(Ljava/lang/Object;ILjava/lang/Object;II)V"), (118, u "()I"), (0, .methodref 10 336), (0, .nameAndType 17 337), (0, u "()B"), (2, u "()[B"), (22, u "([BI)C"), (5, u "(C)Z"), (21, u "(II)V"), (35, u "(I)C"), (34, .nameAndType 463 464), (0, u "toString"), (0, u "()Ljava/lang/String;"), (24, .methodref 10 490), (0, .nameAndType 5 491), (0, u "(Ljava/lang/AbstractStringBuilder;Ljava/lang/Void;)V"), (0, .methodref 10 493), (0, .nameAndType 494 142), (0, u "isLatin1"), (0, .methodref 107 496), (0, .nameAndType 497 363), (0, u "charAt"), (0, .methodref 42 496), (2, u "checkIndex"), (4, .nameAndType 507 334), (0, u "length"), (5, u "checkFromToIndex"), (9, u "checkBoundsBeginEnd"), (0, u "(III)V"), (7, u "getBytes"), (16, .methodref 550 506), (0, .class_ 551), (0, u "java/lang/AbstractStringBuilder"), (0, .methodref 550 553), (0, .nameAndType 554 340), (0, u "getValue"), (20, .class_ 576), (0, u "java/lang/CharSequence"), (22, u "CASE_INSENSITIVE_ORDER"), (0, u "Ljava/util/Comparator;"), (181, u "valueOf"), (0, u "(C)Ljava/lang/String;"), (24, u "(Ljava/lang/Object;)Ljava/lang/String;"), (12, u "([BIB)V"), (185, .methodref 2 462), (7, .methodref 107 1016), (0, .nameAndType 1017 369), (0, u "canEncode"), (0, .methodref 107 1019), (0, .nameAndType 53 1020), (0, u "(C)[B"), (0, .methodref 42 1019), (25, .methodref 550 493), (0, .fieldref 550 1049), (0, .nameAndType 1050 26), (0, u "maybeLatin1"), (2, .fieldref 1054 1055), (0, .class_ 1056), (0, .nameAndType 1057 1058), (0, u "jdk/internal/util/Preconditions"), (0, u "SIOOBE_FORMATTER"), (0, u "Ljava/util/function/BiFunction;"), (0, .methodref 1054 1060), (0, .nameAndType 501 1061), (0, u "(IILjava/util/function/BiFunction;)I"), (0, .methodref 1054 1063), (0, .nameAndType 513 1064), (0, u "(IIILjava/util/function/BiFunction;)I"), (0, .methodref 1054 1066), (0, .nameAndType 1067 1064), (0, u "checkFromIndexSize"), (33, u "serialPersistentFields"), (0, u "[Ljava/io/ObjectStreamField;"), (0, .class_ 1104), (0, u "java/lang/String$CaseInsensitiveComparator"), (1, .class_ 1107), (0, u "java/io/Serializable"), (0, .class_ 1109), (0, u "java/lang/Comparable"), (0, .class_ 1111), (0, u "java/lang/constant/Constable"), (0, .class_ 1113), (0, u "java/lang/constant/ConstantDesc"), (2, u "serialVersionUID"), (0, u "J"), (3, u "REPL"), (0, u "C"), (2, u "LATIN1"), (1, u "UTF16"), (105, u "(Ljava/lang/StringBuilder;)V")] 217
def k16m0 : Method := { name := "<init>", desc := "()V", sig := { parameters := [], returnType := none }, accessFlags := 1, code := none }
def k16c1 : Code := { maxStack := 3, maxLocals := 2, code := jdk_42_method_53_code, exceptionTable := #[], attributes := #[] }
def k16m1 : Method := { name := "<init>", desc := "(Ljava/lang/StringBuilder;)V", sig := { parameters := [(.object "java/lang/StringBuilder")], returnType := none }, accessFlags := 1, code := some k16c1 }
def k16c2 : Code := { maxStack := 2, maxLocals := 1, code := jdk_42_method_54_code, exceptionTable := #[], attributes := #[] }
def k16m2 : Method := { name := "length", desc := "()I", sig := { parameters := [], returnType := some .int }, accessFlags := 1, code := some k16c2 }
def k16c3 : Code := { maxStack := 2, maxLocals := 2, code := jdk_42_method_56_code, exceptionTable := #[], attributes := #[] }
def k16m3 : Method := { name := "charAt", desc := "(I)C", sig := { parameters := [.int], returnType := some .char }, accessFlags := 1, code := some k16c3 }
def k16c4 : Code := { maxStack := 1, maxLocals := 1, code := jdk_42_method_126_code, exceptionTable := #[], attributes := #[] }
def k16m4 : Method := { name := "toString", desc := "()Ljava/lang/String;", sig := { parameters := [], returnType := some (.object "java/lang/String") }, accessFlags := 1, code := some k16c4 }
def k16c5 : Code := { maxStack := 1, maxLocals := 1, code := jdk_42_method_133_code, exceptionTable := #[], attributes := #[] }
def k16m5 : Method := { name := "valueOf", desc := "(Ljava/lang/Object;)Ljava/lang/String;", sig := { parameters := [(.object "java/lang/Object")], returnType := some (.object "java/lang/String") }, accessFlags := 9, code := some k16c5 }
def k16c6 : Code := { maxStack := 4, maxLocals := 1, code := jdk_42_method_139_code, exceptionTable := #[], attributes := #[] }
def k16m6 : Method := { name := "valueOf", desc := "(C)Ljava/lang/String;", sig := { parameters := [.char], returnType := some (.object "java/lang/String") }, accessFlags := 9, code := some k16c6 }
def k16c7 : Code := { maxStack := 5, maxLocals := 4, code := jdk_42_method_147_code, exceptionTable := #[], attributes := #[] }
def k16m7 : Method := { name := "getBytes", desc := "([BIB)V", sig := { parameters := [(.array .byte), .int, .byte], returnType := none }, accessFlags := 0, code := some k16c7 }
def k16c8 : Code := { maxStack := 5, maxLocals := 5, code := jdk_42_method_150_code, exceptionTable := #[], attributes := #[] }
def k16m8 : Method := { name := "<init>", desc := "(Ljava/lang/AbstractStringBuilder;Ljava/lang/Void;)V", sig := { parameters := [(.object "java/lang/AbstractStringBuilder"), (.object "java/lang/Void")], returnType := none }, accessFlags := 0, code := some k16c8 }
def k16c9 : Code := { maxStack := 2, maxLocals := 3, code := jdk_42_method_151_code, exceptionTable := #[], attributes := #[] }
def k16m9 : Method := { name := "<init>", desc := "([BB)V", sig := { parameters := [(.array .byte), .byte], returnType := none }, accessFlags := 0, code := some k16c9 }
def k16c10 : Code := { maxStack := 1, maxLocals := 1, code := jdk_42_method_152_code, exceptionTable := #[], attributes := #[] }
def k16m10 : Method := { name := "coder", desc := "()B", sig := { parameters := [], returnType := some .byte }, accessFlags := 0, code := some k16c10 }
def k16c11 : Code := { maxStack := 1, maxLocals := 1, code := jdk_42_method_154_code, exceptionTable := #[], attributes := #[] }
def k16m11 : Method := { name := "isLatin1", desc := "()Z", sig := { parameters := [], returnType := some .boolean }, accessFlags := 0, code := some k16c11 }
def k16c12 : Code := { maxStack := 3, maxLocals := 2, code := jdk_42_method_155_code, exceptionTable := #[], attributes := #[] }
def k16m12 : Method := { name := "checkIndex", desc := "(II)V", sig := { parameters := [.int, .int], returnType := none }, accessFlags := 8, code := some k16c12 }
def k16c13 : Code := { maxStack := 4, maxLocals := 3, code := jdk_42_method_157_code, exceptionTable := #[], attributes := #[] }
def k16m13 : Method := { name := "checkBoundsOffCount", desc := "(III)I", sig := { parameters := [.int, .int, .int], returnType := some .int }, accessFlags := 8, code := some k16c13 }
def k16c14 : Code := { maxStack := 4, maxLocals := 3, code := jdk_42_method_158_code, exceptionTable := #[], attributes := #[] }
def k16m14 : Method := { name := "checkBoundsBeginEnd", desc := "(III)V", sig := { parameters := [.int, .int, .int], returnType := none }, accessFlags := 8, code := some k16c14 }
def k16 : Class := { plain "java/lang/String" (some 0) with
  accessFlags := 49
  interfaces := #[10, 12, 13, 14, 15]
  cf := some (fileOf pool16 10 #[.nestMembers #[1103]] #[{ accessFlags := 1, nameIndex := 5, descriptorIndex := 6, attributes := #[] }, { accessFlags := 1, nameIndex := 5, descriptorIndex := 1233, attributes := #[] }, { accessFlags := 1, nameIndex := 507, descriptorIndex := 334, attributes := #[] }, { accessFlags := 1, nameIndex := 497, descriptorIndex := 427, attributes := #[] }, { accessFlags := 1, nameIndex := 463, descriptorIndex := 464, attributes := #[] }, { accessFlags := 9, nameIndex := 782, descriptorIndex := 808, attributes := #[] }, { accessFlags := 9, nameIndex := 782, descriptorIndex := 783, attributes := #[] }, { accessFlags := 0, nameIndex := 532, descriptorIndex := 821, attributes := #[] }, { accessFlags := 0, nameIndex := 5, descriptorIndex := 491, attributes := #[] }, { accessFlags := 0, nameIndex := 5, descriptorIndex := 211, attributes := #[] }, { accessFlags := 0, nameIndex := 17, descriptorIndex := 337, attributes := #[] }, { accessFlags := 0, nameIndex := 494, descriptorIndex := 142, attributes := #[] }, { accessFlags := 8, nameIndex := 501, descriptorIndex := 391, attributes := #[] }, { accessFlags := 8, nameIndex := 36, descriptorIndex := 37, attributes := #[] }, { accessFlags := 8, nameIndex := 523, descriptorIndex := 524, attributes := #[] }] 49 2 #[1106, 1108, 575, 1110, 1112] #[{ accessFlags := 18, nameIndex := 13, descriptorIndex := 14, attributes := #[] }, { accessFlags := 18, nameIndex := 17, descriptorIndex := 18, attributes := #[] }, { accessFlags := 2, nameIndex := 21, descriptorIndex := 22, attributes := #[] }, { accessFlags := 2, nameIndex := 25, descriptorIndex := 26, attributes := #[] }, { accessFlags := 26, nameIndex := 1116, descriptorIndex := 1117, attributes := #[] }, { accessFlags := 24, nameIndex := 40, descriptorIndex := 26, attributes := #[] }, { accessFlags := 26, nameIndex := 1101, descriptorIndex := 1102, attributes := #[] }, { accessFlags := 26, nameIndex := 1121, descriptorIndex := 1122, attributes := #[] }, { accessFlags := 25, nameIndex := 599, descriptorIndex := 600, attributes := #[] }, { accessFlags := 24, nameIndex := 1125, descriptorIndex := 18, attributes := #[] }, { accessFlags := 24, nameIndex := 1127, descriptorIndex := 18, attributes := #[] }])
  fields := #[{ name := "value", type := (.array .byte), accessFlags := 18, slot := 0, constantValue := 0 }, { name := "coder", type := .byte, accessFlags := 18, slot := 1, constantValue := 0 }, { name := "hash", type := .int, accessFlags := 2, slot := 2, constantValue := 0 }, { name := "hashIsZero", type := .boolean, accessFlags := 2, slot := 3, constantValue := 0 }, { name := "serialVersionUID", type := .long, accessFlags := 26, slot := 0, constantValue := 0 }, { name := "COMPACT_STRINGS", type := .boolean, accessFlags := 24, slot := 1, constantValue := 0 }, { name := "serialPersistentFields", type := (.array (.object "java/io/ObjectStreamField")), accessFlags := 26, slot := 2, constantValue := 0 }, { name := "REPL", type := .char, accessFlags := 26, slot := 3, constantValue := 0 }, { name := "CASE_INSENSITIVE_ORDER", type := (.object "java/util/Comparator"), accessFlags := 25, slot := 4, constantValue := 0 }, { name := "LATIN1", type := .byte, accessFlags := 24, slot := 5, constantValue := 0 }, { name := "UTF16", type := .byte, accessFlags := 24, slot := 6, constantValue := 0 }]
  methods := #[k16m0, k16m1, k16m2, k16m3, k16m4, k16m5, k16m6, k16m7, k16m8, k16m9, k16m10, k16m11, k16m12, k16m13, k16m14]
  instanceTypes := #[(.array .byte), .byte, .int, .boolean]
  staticTypes := #[.long, .boolean, (.array (.object "java/io/ObjectStreamField")), .char, (.object "java/util/Comparator"), .byte, .byte]
  resolved := Array.replicate 1451 none
  statics := some 1 }
def pool17 : Array CpInfo := pool [(1, .class_ 2), (0, u "java/lang/String"), (1, .class_ 6), (1, u "java/lang/Object"), (0, u "<init>"), (0, u "()V"), (0, .methodref 1 10), (0, .nameAndType 11 12), (0, u "checkIndex"), (0, u "(II)V"), (1, .class_ 16), (1, u "java/lang/StringLatin1"), (0, u "inflate"), (2, .class_ 22), (1, u "java/lang/StringUTF16"), (3, .nameAndType 17 27), (0, u "([BI[BII)V"), (25, u "([BI)C"), (36, u "canEncode"), (14, u "(C)Z"), (15, u "$assertionsDisabled"), (0, u "Z"), (98, .class_ 223), (1, u "java/lang/StringLatin1$LinesSpliterator"), (16, .methodref 20 26), (11, u "charAt"), (127, u "toBytes"), (1, u "(C)[B"), (7, .class_ 391), (0, u "java/lang/StringLatin1$CharsSpliterator")] 3
def k17m0 : Method := { name := "<init>", desc := "()V", sig := { parameters := [], returnType := none }, accessFlags := 0, code := none }
def k17c1 : Code := { maxStack := 2, maxLocals := 2, code := jdk_43_method_2_code, exceptionTable := #[], attributes := #[] }
def k17m1 : Method := { name := "charAt", desc := "([BI)C", sig := { parameters := [(.array .byte), .int], returnType := some .char }, accessFlags := 9, code := some k17c1 }
def k17c2 : Code := { maxStack := 2, maxLocals := 1, code := jdk_43_method_3_code, exceptionTable := #[], attributes := #[] }
def k17m2 : Method := { name := "canEncode", desc := "(C)Z", sig := { parameters := [.char], returnType := some .boolean }, accessFlags := 9, code := some k17c2 }
def k17c3 : Code := { maxStack := 4, maxLocals := 1, code := jdk_43_method_46_code, exceptionTable := #[], attributes := #[] }
def k17m3 : Method := { name := "toBytes", desc := "(C)[B", sig := { parameters := [.char], returnType := some (.array .byte) }, accessFlags := 9, code := some k17c3 }
def k17c4 : Code := { maxStack := 5, maxLocals := 5, code := jdk_43_method_50_code, exceptionTable := #[], attributes := #[] }
def k17m4 : Method := { name := "inflate", desc := "([BI[BII)V", sig := { parameters := [(.array .byte), .int, (.array .byte), .int, .int], returnType := none }, accessFlags := 9, code := some k17c4 }
def k17 : Class := { plain "java/lang/StringLatin1" (some 0) with
  accessFlags := 48
  cf := some (fileOf pool17 14 #[.nestMembers #[390, 221]] #[{ accessFlags := 0, nameIndex := 7, descriptorIndex := 8, attributes := #[] }, { accessFlags := 9, nameIndex := 252, descriptorIndex := 53, attributes := #[] }, { accessFlags := 9, nameIndex := 90, descriptorIndex := 105, attributes := #[] }, { accessFlags := 9, nameIndex := 380, descriptorIndex := 382, attributes := #[] }, { accessFlags := 9, nameIndex := 17, descriptorIndex := 27, attributes := #[] }] 48 4 #[] #[{ accessFlags := 4120, nameIndex := 121, descriptorIndex := 122, attributes := #[] }])
  fields := #[{ name := "$assertionsDisabled", type := .boolean, accessFlags := 4120, slot := 0, constantValue := 0 }]
  methods := #[k17m0, k17m1, k17m2, k17m3, k17m4]
  staticTypes := #[.boolean]
  resolved := Array.replicate 395 none }
def pool18 : Array CpInfo := pool [(1, .class_ 2), (0, u "java/lang/Math"), (1, .class_ 6), (1, u "java/lang/Object"), (0, u "<init>"), (0, u "()V"), (89, .class_ 100), (1, u "java/lang/Math$RandomNumberGeneratorHolder"), (71, u "negativeZeroFloatBits"), (0, u "J"), (2, u "negativeZeroDoubleBits"), (21, u "max"), (2, u "min"), (43, u "$assertionsDisabled"), (0, u "Z"), (88, u "(II)I"), (2, u "twoToTheDoubleScaleDown"), (0, u "D"), (4, u "twoToTheDoubleScaleUp"), (9, u "E"), (3, u "PI"), (2, u "TAU"), (2, u "DEGREES_TO_RADIANS"), (0, u "RADIANS_TO_DEGREES")] 94
def k18m0 : Method := { name := "<init>", desc := "()V", sig := { parameters := [], returnType := none }, accessFlags := 2, code := none }
def k18c1 : Code := { maxStack := 2, maxLocals := 2, code := jdk_29_method_65_code, exceptionTable := #[], attributes := #[] }
def k18m1 : Method := { name := "max", desc := "(II)I", sig := { parameters := [.int, .int], returnType := some .int }, accessFlags := 9, code := some k18c1 }
def k18c2 : Code := { maxStack := 2, maxLocals := 2, code := jdk_29_method_69_code, exceptionTable := #[], attributes := #[] }
def k18m2 : Method := { name := "min", desc := "(II)I", sig := { parameters := [.int, .int], returnType := some .int }, accessFlags := 9, code := some k18c2 }
def k18 : Class := { plain "java/lang/Math" (some 0) with
  accessFlags := 49
  cf := some (fileOf pool18 1 #[.nestMembers #[98]] #[{ accessFlags := 2, nameIndex := 7, descriptorIndex := 8, attributes := #[] }, { accessFlags := 9, nameIndex := 198, descriptorIndex := 335, attributes := #[] }, { accessFlags := 9, nameIndex := 201, descriptorIndex := 335, attributes := #[] }] 49 4 #[] #[{ accessFlags := 25, nameIndex := 354, descriptorIndex := 339, attributes := #[] }, { accessFlags := 25, nameIndex := 358, descriptorIndex := 339, attributes := #[] }, { accessFlags := 25, nameIndex := 361, descriptorIndex := 339, attributes := #[] }, { accessFlags := 26, nameIndex := 364, descriptorIndex := 339, attributes := #[] }, { accessFlags := 26, nameIndex := 365, descriptorIndex := 339, attributes := #[] }, { accessFlags := 26, nameIndex := 172, descriptorIndex := 173, attributes := #[] }, { accessFlags := 26, nameIndex := 176, descriptorIndex := 173, attributes := #[] }, { accessFlags := 8, nameIndex := 344, descriptorIndex := 339, attributes := #[] }, { accessFlags := 8, nameIndex := 338, descriptorIndex := 339, attributes := #[] }, { accessFlags := 4120, nameIndex := 245, descriptorIndex := 246, attributes := #[] }])
  fields := #[{ name := "E", type := .double, accessFlags := 25, slot := 0, constantValue := 0 }, { name := "PI", type := .double, accessFlags := 25, slot := 1, constantValue := 0 }, { name := "TAU", type := .double, accessFlags := 25, slot := 2, constantValue := 0 }, { name := "DEGREES_TO_RADIANS", type := .double, accessFlags := 26, slot := 3, constantValue := 0 }, { name := "RADIANS_TO_DEGREES", type := .double, accessFlags := 26, slot := 4, constantValue := 0 }, { name := "negativeZeroFloatBits", type := .long, accessFlags := 26, slot := 5, constantValue := 0 }, { name := "negativeZeroDoubleBits", type := .long, accessFlags := 26, slot := 6, constantValue := 0 }, { name := "twoToTheDoubleScaleUp", type := .double, accessFlags := 8, slot := 7, constantValue := 0 }, { name := "twoToTheDoubleScaleDown", type := .double, accessFlags := 8, slot := 8, constantValue := 0 }, { name := "$assertionsDisabled", type := .boolean, accessFlags := 4120, slot := 9, constantValue := 0 }]
  methods := #[k18m0, k18m1, k18m2]
  staticTypes := #[.double, .double, .double, .double, .double, .long, .long, .double, .double, .boolean]
  resolved := Array.replicate 460 none }
def pool19 : Array CpInfo := pool [(1, .methodref 2 3), (0, .class_ 4), (0, .nameAndType 5 6), (0, u "java/lang/Object"), (0, u "<init>"), (0, u "()V"), (0, .class_ 8), (0, u "java/lang/Record")] 13
def k19c0 : Code := { maxStack := 1, maxLocals := 1, code := jdk_30_method_1_code, exceptionTable := #[], attributes := #[] }
def k19m0 : Method := { name := "<init>", desc := "()V", sig := { parameters := [], returnType := none }, accessFlags := 4, code := some k19c0 }
def k19 : Class := { plain "java/lang/Record" (some 0) with
  accessFlags := 1057
  cf := some (fileOf pool19 7 #[] #[{ accessFlags := 4, nameIndex := 5, descriptorIndex := 6, attributes := #[] }] 1057 2 #[] #[])
  methods := #[k19m0]
  resolved := Array.replicate 22 none }
def pool20 : Array CpInfo := pool [(1, .methodref 2 3), (0, .class_ 4), (0, .nameAndType 5 6), (0, u "java/lang/Record"), (0, u "<init>"), (0, u "()V"), (0, .interfaceMethodref 8 9), (0, .class_ 10), (0, .nameAndType 11 12), (0, u "java/util/List"), (0, u "copyOf"), (0, u "(Ljava/util/Collection;)Ljava/util/List;"), (0, .fieldref 14 15), (0, .class_ 16), (0, .nameAndType 17 18), (0, u "com/example/gatewarden/gatewarden/model/Client"), (0, u "clientId"), (0, u "Ljava/lang/String;"), (0, .fieldref 14 20), (0, .nameAndType 21 18), (0, u "clientName"), (0, .fieldref 14 23), (0, .nameAndType 24 18), (0, u "clientSecret"), (0, .fieldref 14 26), (0, .nameAndType 27 28), (0, u "redirectUris"), (0, u "Ljava/util/List;"), (0, .fieldref 14 30), (0, .nameAndType 31 32), (0, u "offlineAccess"), (0, u "Z"), (16, u "()Ljava/lang/String;"), (4, u "(Ljava/lang/String;Ljava/lang/String;Ljava/lang/String;Ljava/util/List;Z)V"), (0, .class_ 56), (0, u "java/lang/StringBuilder"), (0, .methodref 55 3), (0, .string 59), (0, u "Client[clientId="), (0, .methodref 55 61), (0, .nameAndType 62 63), (0, u "append"), (0, u "(Ljava/lang/String;)Ljava/lang/StringBuilder;"), (0, .string 65), (0, u ", clientName="), (0, .string 67), (0, u ", redirectUris="), (0, .methodref 55 69), (0, .nameAndType 62 70), (0, u "(Ljava/lang/Object;)Ljava/lang/StringBuilder;"), (0, .string 72), (0, u ", offlineAccess="), (0, .methodref 55 74), (0, .nameAndType 62 75), (0, u "(Z)Ljava/lang/StringBuilder;"), (0, .string 77), (0, u "]"), (0, .methodref 55 79), (0, .nameAndType 80 49), (0, u "toString")] 46
def k20c0 : Code := { maxStack := 2, maxLocals := 6, code := prog_23_method_1_code, exceptionTable := #[], attributes := #[] }
def k20m0 : Method := { name := "<init>", desc := "(Ljava/lang/String;Ljava/lang/String;Ljava/lang/String;Ljava/util/List;Z)V", sig := { parameters := [(.object "java/lang/String"), (.object "java/lang/String"), (.object "java/lang/String"), (.object "java/util/List"), .boolean], returnType := none }, accessFlags := 1, code := some k20c0 }
def k20c1 : Code := { maxStack := 2, maxLocals := 1, code := prog_23_method_3_code, exceptionTable := #[], attributes := #[] }
def k20m1 : Method := { name := "toString", desc := "()Ljava/lang/String;", sig := { parameters := [], returnType := some (.object "java/lang/String") }, accessFlags := 1, code := some k20c1 }
def k20 : Class := { plain "com/example/gatewarden/gatewarden/model/Client" (some 19) with
  accessFlags := 49
  cf := some (fileOf pool20 14 #[] #[{ accessFlags := 1, nameIndex := 5, descriptorIndex := 54, attributes := #[] }, { accessFlags := 1, nameIndex := 80, descriptorIndex := 49, attributes := #[] }] 49 2 #[] #[{ accessFlags := 18, nameIndex := 17, descriptorIndex := 18, attributes := #[] }, { accessFlags := 18, nameIndex := 21, descriptorIndex := 18, attributes := #[] }, { accessFlags := 18, nameIndex := 24, descriptorIndex := 18, attributes := #[] }, { accessFlags := 18, nameIndex := 27, descriptorIndex := 28, attributes := #[] }, { accessFlags := 18, nameIndex := 31, descriptorIndex := 32, attributes := #[] }])
  fields := #[{ name := "clientId", type := (.object "java/lang/String"), accessFlags := 18, slot := 0, constantValue := 0 }, { name := "clientName", type := (.object "java/lang/String"), accessFlags := 18, slot := 1, constantValue := 0 }, { name := "clientSecret", type := (.object "java/lang/String"), accessFlags := 18, slot := 2, constantValue := 0 }, { name := "redirectUris", type := (.object "java/util/List"), accessFlags := 18, slot := 3, constantValue := 0 }, { name := "offlineAccess", type := .boolean, accessFlags := 18, slot := 4, constantValue := 0 }]
  methods := #[k20m0, k20m1]
  instanceTypes := #[(.object "java/lang/String"), (.object "java/lang/String"), (.object "java/lang/String"), (.object "java/util/List"), .boolean]
  resolved := Array.replicate 127 none }
def pool21 : Array CpInfo := pool [(2, .class_ 4), (1, u "java/lang/Object"), (0, u "<init>"), (0, u "()V"), (3, .class_ 11), (0, u "java/util/ImmutableCollections$List12"), (0, .class_ 13), (0, u "java/util/ImmutableCollections$ListN"), (3, u "Z"), (0, .class_ 19), (0, u "java/util/List"), (0, .interfaceMethodref 21 22), (0, .class_ 23), (0, .nameAndType 24 25), (0, u "java/util/Collection"), (0, u "isEmpty"), (0, u "()Z"), (0, .interfaceMethodref 18 27), (0, .nameAndType 28 29), (0, u "of"), (0, u "()Ljava/util/List;"), (0, .interfaceMethodref 21 31), (0, .nameAndType 32 33), (0, u "toArray"), (0, u "()[Ljava/lang/Object;"), (0, .interfaceMethodref 18 35), (0, .nameAndType 28 36), (0, u "([Ljava/lang/Object;)Ljava/util/List;"), (10, .class_ 49), (1, u "java/util/ImmutableCollections"), (0, u "$assertionsDisabled"), (5, u "[Ljava/lang/Object;"), (5, u "EMPTY_LIST"), (0, u "Ljava/util/ImmutableCollections$ListN;"), (8, u "EMPTY_LIST_NULLS"), (22, u "SALT32L"), (0, u "J"), (2, u "REVERSE"), (6, u "archivedObjects"), (2, u "EMPTY"), (0, u "Ljava/lang/Object;"), (0, .class_ 112), (0, u "java/util/ImmutableCollections$SetN"), (5, u "EMPTY_SET"), (0, u "Ljava/util/ImmutableCollections$SetN;"), (0, .class_ 121), (0, u "java/util/ImmutableCollections$MapN"), (3, u "EMPTY_MAP"), (0, u "Ljava/util/ImmutableCollections$MapN;"), (4, u "EXPAND_FACTOR"), (0, u "I"), (9, u "listCopy"), (0, u "(Ljava/util/Collection;)Ljava/util/List;"), (25, .class_ 170), (0, u "java/util/ImmutableCollections$MapN$MapNIterator"), (0, .class_ 172), (0, u "java/util/ImmutableCollections$MapN$1"), (0, .class_ 174), (0, u "java/util/ImmutableCollections$Map1"), (0, .class_ 176), (0, u "java/util/ImmutableCollections$AbstractImmutableMap"), (0, .class_ 178), (0, u "java/util/ImmutableCollections$SetN$SetNIterator"), (0, .class_ 180), (0, u "java/util/ImmutableCollections$Set12"), (0, .class_ 182), (0, u "java/util/ImmutableCollections$Set12$1"), (0, .class_ 184), (0, u "java/util/ImmutableCollections$AbstractImmutableSet"), (0, .class_ 186), (0, u "java/util/ImmutableCollections$SubList"), (0, .class_ 188), (0, u "java/util/ImmutableCollections$ListItr"), (0, .class_ 190), (0, u "java/util/ImmutableCollections$AbstractImmutableList"), (0, .class_ 192), (0, u "java/util/ImmutableCollections$AbstractImmutableCollection"), (0, .class_ 194), (0, u "java/util/ImmutableCollections$Access"), (0, .class_ 196), (0, u "java/util/ImmutableCollections$Access$1")] 16
def k21m0 : Method := { name := "<init>", desc := "()V", sig := { parameters := [], returnType := none }, accessFlags := 2, code := none }
def k21c1 : Code := { maxStack := 1, maxLocals := 2, code := jdk_56_method_3_code, exceptionTable := #[], attributes := #[] }
def k21m1 : Method := { name := "listCopy", desc := "(Ljava/util/Collection;)Ljava/util/List;", sig := { parameters := [(.object "java/util/Collection")], returnType := some (.object "java/util/List") }, accessFlags := 8, code := some k21c1 }
def k21 : Class := { plain "java/util/ImmutableCollections" (some 0) with
  accessFlags := 32
  cf := some (fileOf pool21 47 #[.nestMembers #[120, 169, 171, 173, 175, 111, 177, 179, 181, 183, 12, 10, 185, 187, 189, 191, 193, 195]] #[{ accessFlags := 2, nameIndex := 5, descriptorIndex := 6, attributes := #[] }, { accessFlags := 8, nameIndex := 142, descriptorIndex := 143, attributes := #[] }] 32 2 #[] #[{ accessFlags := 26, nameIndex := 95, descriptorIndex := 96, attributes := #[] }, { accessFlags := 26, nameIndex := 99, descriptorIndex := 17, attributes := #[] }, { accessFlags := 10, nameIndex := 106, descriptorIndex := 56, attributes := #[] }, { accessFlags := 26, nameIndex := 109, descriptorIndex := 110, attributes := #[] }, { accessFlags := 24, nameIndex := 62, descriptorIndex := 63, attributes := #[] }, { accessFlags := 24, nameIndex := 72, descriptorIndex := 63, attributes := #[] }, { accessFlags := 24, nameIndex := 118, descriptorIndex := 119, attributes := #[] }, { accessFlags := 24, nameIndex := 125, descriptorIndex := 126, attributes := #[] }, { accessFlags := 24, nameIndex := 131, descriptorIndex := 132, attributes := #[] }, { accessFlags := 4120, nameIndex := 50, descriptorIndex := 17, attributes := #[] }])
  fields := #[{ name := "SALT32L", type := .long, accessFlags := 26, slot := 0, constantValue := 0 }, { name := "REVERSE", type := .boolean, accessFlags := 26, slot := 1, constantValue := 0 }, { name := "archivedObjects", type := (.array (.object "java/lang/Object")), accessFlags := 10, slot := 2, constantValue := 0 }, { name := "EMPTY", type := (.object "java/lang/Object"), accessFlags := 26, slot := 3, constantValue := 0 }, { name := "EMPTY_LIST", type := (.object "java/util/ImmutableCollections$ListN"), accessFlags := 24, slot := 4, constantValue := 0 }, { name := "EMPTY_LIST_NULLS", type := (.object "java/util/ImmutableCollections$ListN"), accessFlags := 24, slot := 5, constantValue := 0 }, { name := "EMPTY_SET", type := (.object "java/util/ImmutableCollections$SetN"), accessFlags := 24, slot := 6, constantValue := 0 }, { name := "EMPTY_MAP", type := (.object "java/util/ImmutableCollections$MapN"), accessFlags := 24, slot := 7, constantValue := 0 }, { name := "EXPAND_FACTOR", type := .int, accessFlags := 24, slot := 8, constantValue := 0 }, { name := "$assertionsDisabled", type := .boolean, accessFlags := 4120, slot := 9, constantValue := 0 }]
  methods := #[k21m0, k21m1]
  staticTypes := #[.long, .boolean, (.array (.object "java/lang/Object")), (.object "java/lang/Object"), (.object "java/util/ImmutableCollections$ListN"), (.object "java/util/ImmutableCollections$ListN"), (.object "java/util/ImmutableCollections$SetN"), (.object "java/util/ImmutableCollections$MapN"), .int, .boolean]
  resolved := Array.replicate 213 none
  statics := some 2 }
def pool22 : Array CpInfo := pool [(1, .methodref 2 3), (0, .class_ 4), (0, .nameAndType 5 6), (0, u "java/util/AbstractCollection"), (0, u "<init>"), (0, u "()V"), (1, .class_ 10), (1, u "java/util/ImmutableCollections"), (2, .class_ 14), (0, u "java/util/ImmutableCollections$AbstractImmutableCollection")] 41
def k22c0 : Code := { maxStack := 1, maxLocals := 1, code := jdk_47_method_1_code, exceptionTable := #[], attributes := #[] }
def k22m0 : Method := { name := "<init>", desc := "()V", sig := { parameters := [], returnType := none }, accessFlags := 0, code := some k22c0 }
def k22 : Class := { plain "java/util/ImmutableCollections$AbstractImmutableCollection" (some 4) with
  accessFlags := 1056
  cf := some (fileOf pool22 13 #[.nestHost 8] #[{ accessFlags := 0, nameIndex := 5, descriptorIndex := 6, attributes := #[] }] 1056 2 #[] #[])
  methods := #[k22m0]
  resolved := Array.replicate 56 none }
def pool23 : Array CpInfo := pool [(1, .methodref 2 3), (0, .class_ 4), (0, .nameAndType 5 6), (0, u "java/util/ImmutableCollections$AbstractImmutableCollection"), (0, u "<init>"), (0, u "()V"), (1, .class_ 10), (1, u "java/util/ImmutableCollections"), (2, .methodref 14 15), (0, .class_ 16), (0, .nameAndType 17 18), (0, u "java/util/ImmutableCollections$AbstractImmutableList"), (0, u "size"), (0, u "()I"), (42, .class_ 62), (0, u "java/util/ImmutableCollections$ListItr"), (0, .methodref 61 64), (0, .nameAndType 5 65), (0, u "(Ljava/util/List;I)V"), (11, .class_ 78), (0, u "java/util/List"), (2, u "iterator"), (0, u "()Ljava/util/Iterator;"), (41, .class_ 125), (0, u "java/util/RandomAccess")] 70
def k23c0 : Code := { maxStack := 1, maxLocals := 1, code := jdk_46_method_1_code, exceptionTable := #[], attributes := #[] }
def k23m0 : Method := { name := "<init>", desc := "()V", sig := { parameters := [], returnType := none }, accessFlags := 0, code := some k23c0 }
def k23c1 : Code := { maxStack := 4, maxLocals := 1, code := jdk_46_method_10_code, exceptionTable := #[], attributes := #[] }
def k23m1 : Method := { name := "iterator", desc := "()Ljava/util/Iterator;", sig := { parameters := [], returnType := some (.object "java/util/Iterator") }, accessFlags := 1, code := some k23c1 }
def k23 : Class := { plain "java/util/ImmutableCollections$AbstractImmutableList" (some 22) with
  accessFlags := 1056
  interfaces := #[6, 8]
  cf := some (fileOf pool23 14 #[.nestHost 8] #[{ accessFlags := 0, nameIndex := 5, descriptorIndex := 6, attributes := #[] }, { accessFlags := 1, nameIndex := 81, descriptorIndex := 82, attributes := #[] }] 1056 2 #[77, 124] #[])
  methods := #[k23m0, k23m1]
  resolved := Array.replicate 196 none }
def pool24 : Array CpInfo := pool [(1, .methodref 2 3), (0, .class_ 4), (0, .nameAndType 5 6), (0, u "java/util/ImmutableCollections$AbstractImmutableList"), (0, u "<init>"), (0, u "()V"), (0, .methodref 8 9), (0, .class_ 10), (0, .nameAndType 11 12), (0, u "java/util/Objects"), (0, u "requireNonNull"), (0, u "(Ljava/lang/Object;)Ljava/lang/Object;"), (0, .fieldref 14 15), (0, .class_ 16), (0, .nameAndType 17 18), (0, u "java/util/ImmutableCollections$List12"), (0, u "e0"), (0, u "Ljava/lang/Object;"), (0, .fieldref 20 21), (0, .class_ 22), (0, .nameAndType 23 18), (0, u "java/util/ImmutableCollections"), (0, u "EMPTY"), (0, .fieldref 14 25), (0, .nameAndType 26 18), (0, u "e1"), (24, u "size"), (0, u "()I"), (17, .class_ 71), (0, u "java/io/Serializable"), (4, u "(Ljava/lang/Object;)V"), (8, u "(Ljava/lang/Object;Ljava/lang/Object;)V"), (4, u "get"), (0, u "(I)Ljava/lang/Object;")] 33
def k24c0 : Code := { maxStack := 2, maxLocals := 2, code := jdk_44_method_1_code, exceptionTable := #[], attributes := #[] }
def k24m0 : Method := { name := "<init>", desc := "(Ljava/lang/Object;)V", sig := { parameters := [(.object "java/lang/Object")], returnType := none }, accessFlags := 0, code := some k24c0 }
def k24c1 : Code := { maxStack := 2, maxLocals := 3, code := jdk_44_method_2_code, exceptionTable := #[], attributes := #[] }
def k24m1 : Method := { name := "<init>", desc := "(Ljava/lang/Object;Ljava/lang/Object;)V", sig := { parameters := [(.object "java/lang/Object"), (.object "java/lang/Object")], returnType := none }, accessFlags := 0, code := some k24c1 }
def k24c2 : Code := { maxStack := 2, maxLocals := 1, code := jdk_44_method_3_code, exceptionTable := #[], attributes := #[] }
def k24m2 : Method := { name := "size", desc := "()I", sig := { parameters := [], returnType := some .int }, accessFlags := 1, code := some k24c2 }
def k24c3 : Code := { maxStack := 2, maxLocals := 2, code := jdk_44_method_5_code, exceptionTable := #[], attributes := #[] }
def k24m3 : Method := { name := "get", desc := "(I)Ljava/lang/Object;", sig := { parameters := [.int], returnType := some (.object "java/lang/Object") }, accessFlags := 1, code := some k24c3 }
def k24 : Class := { plain "java/util/ImmutableCollections$List12" (some 23) with
  accessFlags := 48
  interfaces := #[10]
  cf := some (fileOf pool24 14 #[.nestHost 20] #[{ accessFlags := 0, nameIndex := 5, descriptorIndex := 76, attributes := #[] }, { accessFlags := 0, nameIndex := 5, descriptorIndex := 85, attributes := #[] }, { accessFlags := 1, nameIndex := 51, descriptorIndex := 52, attributes := #[] }, { accessFlags := 1, nameIndex := 90, descriptorIndex := 91, attributes := #[] }] 48 2 #[70] #[{ accessFlags := 18, nameIndex := 17, descriptorIndex := 18, attributes := #[] }, { accessFlags := 18, nameIndex := 26, descriptorIndex := 18, attributes := #[] }])
  fields := #[{ name := "e0", type := (.object "java/lang/Object"), accessFlags := 18, slot := 0, constantValue := 0 }, { name := "e1", type := (.object "java/lang/Object"), accessFlags := 18, slot := 1, constantValue := 0 }]
  methods := #[k24m0, k24m1, k24m2, k24m3]
  instanceTypes := #[(.object "java/lang/Object"), (.object "java/lang/Object")]
  resolved := Array.replicate 125 none }
def pool25 : Array CpInfo := pool [(2, .class_ 4), (1, u "java/util/ImmutableCollections$AbstractImmutableList"), (2, .fieldref 8 9), (0, .class_ 10), (0, .nameAndType 11 12), (0, u "java/util/ImmutableCollections$ListN"), (0, u "elements"), (0, u "[Ljava/lang/Object;"), (2, u "allowNulls"), (0, u "Z"), (42, .class_ 60), (0, u "java/io/Serializable"), (16, u "size"), (0, u "()I"), (35, .class_ 115), (0, u "java/util/ImmutableCollections")] 3
def k25c0 : Code := { maxStack := 1, maxLocals := 1, code := jdk_45_method_3_code, exceptionTable := #[], attributes := #[] }
def k25m0 : Method := { name := "size", desc := "()I", sig := { parameters := [], returnType := some .int }, accessFlags := 1, code := some k25c0 }
def k25 : Class := { plain "java/util/ImmutableCollections$ListN" (some 23) with
  accessFlags := 48
  interfaces := #[10]
  cf := some (fileOf pool25 8 #[.nestHost 114] #[{ accessFlags := 1, nameIndex := 77, descriptorIndex := 78, attributes := #[] }] 48 2 #[59] #[{ accessFlags := 18, nameIndex := 11, descriptorIndex := 12, attributes := #[] }, { accessFlags := 18, nameIndex := 15, descriptorIndex := 16, attributes := #[] }])
  fields := #[{ name := "elements", type := (.array (.object "java/lang/Object")), accessFlags := 18, slot := 0, constantValue := 0 }, { name := "allowNulls", type := .boolean, accessFlags := 18, slot := 1, constantValue := 0 }]
  methods := #[k25m0]
  instanceTypes := #[(.array (.object "java/lang/Object")), .boolean]
  resolved := Array.replicate 119 none }
def pool26 : Array CpInfo := pool [(2, .class_ 4), (1, u "java/lang/Object"), (0, u "<init>"), (0, u "()V"), (7, .class_ 16), (1, u "java/util/Arrays"), (57, .class_ 76), (1, u "java/util/Arrays$NaturalOrder"), (9, .methodref 2 87), (0, .nameAndType 88 89), (0, u "getClass"), (0, u "()Ljava/lang/Class;"), (19, u "()Ljava/lang/Object;"), (0, .class_ 111), (0, u "[Ljava/lang/Object;"), (1, .class_ 115), (1, u "java/util/Arrays$LegacyMergeSort"), (1, u "Z"), (10, .nameAndType 129 109), (0, u "clone"), (9, u "copyOfRange"), (10, .methodref 151 152), (0, .class_ 153), (0, .nameAndType 154 155), (0, u "java/lang/System"), (0, u "arraycopy"), (0, u "(Ljava/lang/Object;ILjava/lang/Object;II)V"), (144, .methodref 14 301), (0, .nameAndType 302 303), (0, u "copyOf"), (0, u "([Ljava/lang/Object;ILjava/lang/Class;)[Ljava/lang/Object;"), (0, .methodref 305 306), (0, .class_ 307), (0, .nameAndType 308 309), (0, u "java/lang/Math"), (0, u "min"), (0, u "(II)I"), (0, .methodref 311 128), (0, .class_ 312), (0, u "[B"), (26, .methodref 14 340), (0, .nameAndType 341 342), (0, u "copyOfRangeByte"), (0, u "([BII)[B"), (0, .methodref 14 344), (0, .nameAndType 345 346), (0, u "checkLength"), (0, u "(II)V"), (28, .class_ 376), (0, u "java/util/Arrays$ArrayList"), (68, u "$assertionsDisabled"), (269, u "MIN_ARRAY_SORT_GRAN"), (0, u "I"), (2, u "INSERTIONSORT_THRESHOLD"), (140, u "([Ljava/lang/Object;I)[Ljava/lang/Object;"), (8, u "([BI)[B"), (105, .class_ 976), (0, u "java/util/Arrays$ArrayItr")] 52
def k26m0 : Method := { name := "<init>", desc := "()V", sig := { parameters := [], returnType := none }, accessFlags := 2, code := none }
def k26c1 : Code := { maxStack := 3, maxLocals := 2, code := jdk_65_method_119_code, exceptionTable := #[], attributes := #[] }
def k26m1 : Method := { name := "copyOf", desc := "([Ljava/lang/Object;I)[Ljava/lang/Object;", sig := { parameters := [(.array (.object "java/lang/Object")), .int], returnType := some (.array (.object "java/lang/Object")) }, accessFlags := 9, code := some k26c1 }
def k26c2 : Code := { maxStack := 6, maxLocals := 4, code := jdk_65_method_120_code, exceptionTable := #[], attributes := #[] }
def k26m2 : Method := { name := "copyOf", desc := "([Ljava/lang/Object;ILjava/lang/Class;)[Ljava/lang/Object;", sig := { parameters := [(.array (.object "java/lang/Object")), .int, (.object "java/lang/Class")], returnType := some (.array (.object "java/lang/Object")) }, accessFlags := 9, code := some k26c2 }
def k26c3 : Code := { maxStack := 6, maxLocals := 3, code := jdk_65_method_121_code, exceptionTable := #[], attributes := #[] }
def k26m3 : Method := { name := "copyOf", desc := "([BI)[B", sig := { parameters := [(.array .byte), .int], returnType := some (.array .byte) }, accessFlags := 9, code := some k26c3 }
def k26c4 : Code := { maxStack := 4, maxLocals := 2, code := jdk_65_method_131_code, exceptionTable := #[], attributes := #[] }
def k26m4 : Method := { name := "checkLength", desc := "(II)V", sig := { parameters := [.int, .int], returnType := none }, accessFlags := 10, code := some k26c4 }
def k26c5 : Code := { maxStack := 3, maxLocals := 3, code := jdk_65_method_132_code, exceptionTable := #[], attributes := #[] }
def k26m5 : Method := { name := "copyOfRange", desc := "([BII)[B", sig := { parameters := [(.array .byte), .int, .int], returnType := some (.array .byte) }, accessFlags := 9, code := some k26c5 }
def k26c6 : Code := { maxStack := 6, maxLocals := 5, code := jdk_65_method_133_code, exceptionTable := #[], attributes := #[] }
def k26m6 : Method := { name := "copyOfRangeByte", desc := "([BII)[B", sig := { parameters := [(.array .byte), .int, .int], returnType := some (.array .byte) }, accessFlags := 10, code := some k26c6 }
def k26 : Class := { plain "java/util/Arrays" (some 0) with
  accessFlags := 49
  cf := some (fileOf pool26 14 #[.nestMembers #[975, 375, 113, 74]] #[{ accessFlags := 2, nameIndex := 5, descriptorIndex := 6, attributes := #[] }, { accessFlags := 9, nameIndex := 302, descriptorIndex := 860, attributes := #[] }, { accessFlags := 9, nameIndex := 302, descriptorIndex := 303, attributes := #[] }, { accessFlags := 9, nameIndex := 302, descriptorIndex := 869, attributes := #[] }, { accessFlags := 10, nameIndex := 345, descriptorIndex := 346, attributes := #[] }, { accessFlags := 9, nameIndex := 139, descriptorIndex := 342, attributes := #[] }, { accessFlags := 10, nameIndex := 341, descriptorIndex := 342, attributes := #[] }] 49 2 #[] #[{ accessFlags := 26, nameIndex := 715, descriptorIndex := 716, attributes := #[] }, { accessFlags := 26, nameIndex := 719, descriptorIndex := 716, attributes := #[] }, { accessFlags := 4120, nameIndex := 445, descriptorIndex := 117, attributes := #[] }])
  fields := #[{ name := "MIN_ARRAY_SORT_GRAN", type := .int, accessFlags := 26, slot := 0, constantValue := 0 }, { name := "INSERTIONSORT_THRESHOLD", type := .int, accessFlags := 26, slot := 1, constantValue := 0 }, { name := "$assertionsDisabled", type := .boolean, accessFlags := 4120, slot := 2, constantValue := 0 }]
  methods := #[k26m0, k26m1, k26m2, k26m3, k26m4, k26m5, k26m6]
  staticTypes := #[.int, .int, .boolean]
  resolved := Array.replicate 1029 none }
def pool27 : Array CpInfo := pool [(2, .class_ 4), (1, u "java/lang/Object"), (0, u "<init>"), (0, u "()V"), (1, .class_ 10), (1, u "java/lang/System"), (0, u "allowSecurityManager"), (0, u "I"), (16, u "cons"), (0, u "Ljava/io/Console;"), (77, .class_ 110), (1, u "java/lang/System$CallersHolder"), (43, u "initialErrStream"), (0, u "Ljava/io/PrintStream;"), (19, u "security"), (0, u "Ljava/lang/SecurityManager;"), (31, .class_ 209), (0, u "java/lang/System$1"), (7, u "props"), (0, u "Ljava/util/Properties;"), (2, u "lineSeparator"), (0, u "Ljava/lang/String;"), (96, .class_ 321), (1, u "java/lang/System$LoggerFinder"), (5, .class_ 328), (0, u "java/lang/System$Logger"), (67, u "err"), (2, u "out"), (91, u "notSupportedJnuEncoding"), (15, u "in"), (17, u "initialIn"), (0, u "Ljava/io/InputStream;"), (35, u "bootLayer"), (0, u "Ljava/lang/ModuleLayer;"), (99, .class_ 664), (0, u "java/lang/System$2"), (9, u "NEVER"), (2, u "MAYBE"), (49, u "arraycopy"), (0, u "(Ljava/lang/Object;ILjava/lang/Object;II)V"), (72, .class_ 802), (0, u "java/lang/System$Logger$Level")] 31
def k27m0 : Method := { name := "<init>", desc := "()V", sig := { parameters := [], returnType := none }, accessFlags := 2, code := none }
def k27m1 : Method := { name := "arraycopy", desc := "(Ljava/lang/Object;ILjava/lang/Object;II)V", sig := { parameters := [(.object "java/lang/Object"), .int, (.object "java/lang/Object"), .int, .int], returnType := none }, accessFlags := 265, code := none }
def k27 : Class := { plain "java/lang/System" (some 0) with
  accessFlags := 49
  cf := some (fileOf pool27 8 #[.nestMembers #[319, 327, 801, 108, 663, 208]] #[{ accessFlags := 2, nameIndex := 5, descriptorIndex := 6, attributes := #[] }, { accessFlags := 265, nameIndex := 727, descriptorIndex := 728, attributes := #[] }] 49 2 #[] #[{ accessFlags := 25, nameIndex := 507, descriptorIndex := 526, attributes := #[] }, { accessFlags := 25, nameIndex := 399, descriptorIndex := 155, attributes := #[] }, { accessFlags := 25, nameIndex := 396, descriptorIndex := 155, attributes := #[] }, { accessFlags := 10, nameIndex := 525, descriptorIndex := 526, attributes := #[] }, { accessFlags := 26, nameIndex := 674, descriptorIndex := 12, attributes := #[] }, { accessFlags := 26, nameIndex := 677, descriptorIndex := 12, attributes := #[] }, { accessFlags := 10, nameIndex := 11, descriptorIndex := 12, attributes := #[] }, { accessFlags := 74, nameIndex := 175, descriptorIndex := 176, attributes := #[] }, { accessFlags := 10, nameIndex := 491, descriptorIndex := 222, attributes := #[] }, { accessFlags := 74, nameIndex := 29, descriptorIndex := 30, attributes := #[] }, { accessFlags := 74, nameIndex := 154, descriptorIndex := 155, attributes := #[] }, { accessFlags := 10, nameIndex := 217, descriptorIndex := 218, attributes := #[] }, { accessFlags := 10, nameIndex := 221, descriptorIndex := 222, attributes := #[] }, { accessFlags := 8, nameIndex := 562, descriptorIndex := 563, attributes := #[] }])
  fields := #[{ name := "in", type := (.object "java/io/InputStream"), accessFlags := 25, slot := 0, constantValue := 0 }, { name := "out", type := (.object "java/io/PrintStream"), accessFlags := 25, slot := 1, constantValue := 0 }, { name := "err", type := (.object "java/io/PrintStream"), accessFlags := 25, slot := 2, constantValue := 0 }, { name := "initialIn", type := (.object "java/io/InputStream"), accessFlags := 10, slot := 3, constantValue := 0 }, { name := "NEVER", type := .int, accessFlags := 26, slot := 4, constantValue := 0 }, { name := "MAYBE", type := .int, accessFlags := 26, slot := 5, constantValue := 0 }, { name := "allowSecurityManager", type := .int, accessFlags := 10, slot := 6, constantValue := 0 }, { name := "security", type := (.object "java/lang/SecurityManager"), accessFlags := 74, slot := 7, constantValue := 0 }, { name := "notSupportedJnuEncoding", type := (.object "java/lang/String"), accessFlags := 10, slot := 8, constantValue := 0 }, { name := "cons", type := (.object "java/io/Console"), accessFlags := 74, slot := 9, constantValue := 0 }, { name := "initialErrStream", type := (.object "java/io/PrintStream"), accessFlags := 74, slot := 10, constantValue := 0 }, { name := "props", type := (.object "java/util/Properties"), accessFlags := 10, slot := 11, constantValue := 0 }, { name := "lineSeparator", type := (.object "java/lang/String"), accessFlags := 10, slot := 12, constantValue := 0 }, { name := "bootLayer", type := (.object "java/lang/ModuleLayer"), accessFlags := 8, slot := 13, constantValue := 0 }]
  methods := #[k27m0, k27m1]
  staticTypes := #[(.object "java/io/InputStream"), (.object "java/io/PrintStream"), (.object "java/io/PrintStream"), (.object "java/io/InputStream"), .int, .int, .int, (.object "java/lang/SecurityManager"), (.object "java/lang/String"), (.object "java/io/Console"), (.object "java/io/PrintStream"), (.object "java/util/Properties"), (.object "java/lang/String"), (.object "java/lang/ModuleLayer")]
  resolved := Array.replicate 834 none }
def pool28 : Array CpInfo := pool [(2, .class_ 4), (1, u "java/lang/Object"), (0, u "<init>"), (0, u "()V"), (35, .class_ 44), (1, u "java/util/Objects"), (0, u "requireNonNull"), (0, u "(Ljava/lang/Object;)Ljava/lang/Object;")] 137
def k28m0 : Method := { name := "<init>", desc := "()V", sig := { parameters := [], returnType := none }, accessFlags := 2, code := none }
def k28c1 : Code := { maxStack := 2, maxLocals := 1, code := jdk_31_method_10_code, exceptionTable := #[], attributes := #[] }
def k28m1 : Method := { name := "requireNonNull", desc := "(Ljava/lang/Object;)Ljava/lang/Object;", sig := { parameters := [(.object "java/lang/Object")], returnType := some (.object "java/lang/Object") }, accessFlags := 9, code := some k28c1 }
def k28 : Class := { plain "java/util/Objects" (some 0) with
  accessFlags := 49
  cf := some (fileOf pool28 42 #[] #[{ accessFlags := 2, nameIndex := 5, descriptorIndex := 6, attributes := #[] }, { accessFlags := 9, nameIndex := 45, descriptorIndex := 46, attributes := #[] }] 49 2 #[] #[])
  methods := #[k28m0, k28m1]
  resolved := Array.replicate 184 none }
def pool29 : Array CpInfo := pool [(1, .class_ 2), (0, u "java/lang/Appendable"), (0, .class_ 4), (0, u "java/lang/Object")] 9
def k29 : Class := { plain "java/lang/Appendable" (some 0) with
  accessFlags := 1537
  cf := some (fileOf pool29 1 #[] #[] 1537 3 #[] #[])
  resolved := Array.replicate 14 none }
def pool30 : Array CpInfo := pool [(1, .class_ 2), (0, u "java/lang/String"), (0, .methodref 4 5), (0, .class_ 6), (0, .nameAndType 7 8), (0, u "java/lang/Object"), (0, u "<init>"), (0, u "()V"), (1, .class_ 12), (1, u "java/lang/AbstractStringBuilder"), (0, u "EMPTYVALUE"), (0, u "[B"), (0, .fieldref 10 16), (0, .nameAndType 17 14), (0, u "value"), (0, .fieldref 1 19), (0, .nameAndType 20 21), (0, u "COMPACT_STRINGS"), (0, u "Z"), (0, .fieldref 10 23), (0, .nameAndType 24 25), (0, u "coder"), (0, u "B"), (0, .methodref 27 28), (0, .class_ 29), (0, .nameAndType 30 31), (0, u "java/lang/StringUTF16"), (0, u "newBytesFor"), (0, u "(I)[B"), (0, .methodref 1 33), (0, .nameAndType 34 35), (0, u "length"), (0, u "()I"), (3, .integer 2147483647), (0, .methodref 1 41), (0, .nameAndType 24 42), (0, u "()B"), (2, u "append"), (0, u "(Ljava/lang/String;)Ljava/lang/AbstractStringBuilder;"), (1, .class_ 49), (0, u "java/lang/CharSequence"), (19, u "(Ljava/lang/String;)V"), (5, u "maybeLatin1"), (3, .fieldref 10 80), (0, .nameAndType 81 82), (0, u "count"), (0, u "I"), (0, .methodref 10 84), (0, .nameAndType 85 86), (0, u "isLatin1"), (0, u "()Z"), (1, .class_ 90), (1, u "java/lang/StringLatin1"), (9, .methodref 10 101), (0, .nameAndType 102 103), (0, u "ensureCapacityInternal"), (0, u "(I)V"), (0, .methodref 10 105), (0, .nameAndType 106 107), (0, u "newCapacity"), (0, u "(I)I"), (0, .methodref 109 110), (0, .class_ 111), (0, .nameAndType 112 113), (0, u "java/util/Arrays"), (0, u "copyOf"), (0, u "([BI)[B"), (0, .methodref 115 116), (0, .class_ 117), (0, .nameAndType 118 119), (0, u "jdk/internal/util/ArraysSupport"), (0, u "newLength"), (0, u "(III)I"), (5, .methodref 88 126), (0, .nameAndType 127 128), (0, u "inflate"), (0, u "([BI[BII)V"), (7, u "([BII)V"), (54, .methodref 88 192), (0, .nameAndType 193 194), (0, u "canEncode"), (0, u "(C)Z"), (0, .methodref 10 196), (0, .nameAndType 127 8), (0, .methodref 27 198), (0, .nameAndType 199 136), (0, u "putCharSB"), (8, .methodref 10 209), (0, .nameAndType 210 211), (0, u "putStringAt"), (0, u "(ILjava/lang/String;)V"), (5, u "inflateIfNeededFor"), (2, .nameAndType 221 222), (0, u "getBytes"), (0, u "([BIB)V"), (3, .methodref 27 227), (0, .nameAndType 228 229), (0, u "putCharsAt"), (0, u "([BICCCC)I"), (12, .methodref 27 243), (0, .nameAndType 228 244), (0, u "([BICCCCC)I"), (47, u "(C)Ljava/lang/AbstractStringBuilder;"), (104, .methodref 10 398), (0, .nameAndType 217 69), (0, .methodref 1 220), (3, u "()[B"), (40, .class_ 445), (0, u "java/lang/Appendable"), (62, u "(Z)Ljava/lang/AbstractStringBuilder;"), (43, u "getValue")] 56
def k30m0 : Method := { name := "<init>", desc := "()V", sig := { parameters := [], returnType := none }, accessFlags := 0, code := none }
def k30c1 : Code := { maxStack := 2, maxLocals := 2, code := jdk_68_method_2_code, exceptionTable := #[], attributes := #[] }
def k30m1 : Method := { name := "<init>", desc := "(I)V", sig := { parameters := [.int], returnType := none }, accessFlags := 0, code := some k30c1 }
def k30c2 : Code := { maxStack := 1, maxLocals := 1, code := jdk_68_method_6_code, exceptionTable := #[], attributes := #[] }
def k30m2 : Method := { name := "length", desc := "()I", sig := { parameters := [], returnType := some .int }, accessFlags := 1, code := some k30c2 }
def k30c3 : Code := { maxStack := 4, maxLocals := 3, code := jdk_68_method_9_code, exceptionTable := #[], attributes := #[] }
def k30m3 : Method := { name := "ensureCapacityInternal", desc := "(I)V", sig := { parameters := [.int], returnType := none }, accessFlags := 2, code := some k30c3 }
def k30c4 : Code := { maxStack := 5, maxLocals := 6, code := jdk_68_method_10_code, exceptionTable := #[], attributes := #[] }
def k30m4 : Method := { name := "newCapacity", desc := "(I)I", sig := { parameters := [.int], returnType := some .int }, accessFlags := 2, code := some k30c4 }
def k30c5 : Code := { maxStack := 5, maxLocals := 2, code := jdk_68_method_11_code, exceptionTable := #[], attributes := #[] }
def k30m5 : Method := { name := "inflate", desc := "()V", sig := { parameters := [], returnType := none }, accessFlags := 2, code := some k30c5 }
def k30c6 : Code := { maxStack := 3, maxLocals := 3, code := jdk_68_method_22_code, exceptionTable := #[], attributes := #[] }
def k30m6 : Method := { name := "append", desc := "(Ljava/lang/String;)Ljava/lang/AbstractStringBuilder;", sig := { parameters := [(.object "java/lang/String")], returnType := some (.object "java/lang/AbstractStringBuilder") }, accessFlags := 1, code := some k30c6 }
def k30c7 : Code := { maxStack := 7, maxLocals := 4, code := jdk_68_method_30_code, exceptionTable := #[], attributes := #[] }
def k30m7 : Method := { name := "append", desc := "(Z)Ljava/lang/AbstractStringBuilder;", sig := { parameters := [.boolean], returnType := some (.object "java/lang/AbstractStringBuilder") }, accessFlags := 1, code := some k30c7 }
def k30c8 : Code := { maxStack := 5, maxLocals := 2, code := jdk_68_method_31_code, exceptionTable := #[], attributes := #[] }
def k30m8 : Method := { name := "append", desc := "(C)Ljava/lang/AbstractStringBuilder;", sig := { parameters := [.char], returnType := some (.object "java/lang/AbstractStringBuilder") }, accessFlags := 1, code := some k30c8 }
def k30c9 : Code := { maxStack := 1, maxLocals := 1, code := jdk_68_method_64_code, exceptionTable := #[], attributes := #[] }
def k30m9 : Method := { name := "getValue", desc := "()[B", sig := { parameters := [], returnType := some (.array .byte) }, accessFlags := 16, code := some k30c9 }
def k30c10 : Code := { maxStack := 1, maxLocals := 1, code := jdk_68_method_68_code, exceptionTable := #[], attributes := #[] }
def k30m10 : Method := { name := "isLatin1", desc := "()Z", sig := { parameters := [], returnType := some .boolean }, accessFlags := 16, code := some k30c10 }
def k30c11 : Code := { maxStack := 2, maxLocals := 2, code := jdk_68_method_71_code, exceptionTable := #[], attributes := #[] }
def k30m11 : Method := { name := "inflateIfNeededFor", desc := "(Ljava/lang/String;)V", sig := { parameters := [(.object "java/lang/String")], returnType := none }, accessFlags := 2, code := some k30c11 }
def k30c12 : Code := { maxStack := 4, maxLocals := 3, code := jdk_68_method_73_code, exceptionTable := #[], attributes := #[] }
def k30m12 : Method := { name := "putStringAt", desc := "(ILjava/lang/String;)V", sig := { parameters := [.int, (.object "java/lang/String")], returnType := none }, accessFlags := 2, code := some k30c12 }
def k30 : Class := { plain "java/lang/AbstractStringBuilder" (some 0) with
  accessFlags := 1056
  interfaces := #[29, 13]
  cf := some (fileOf pool30 10 #[] #[{ accessFlags := 0, nameIndex := 7, descriptorIndex := 8, attributes := #[] }, { accessFlags := 0, nameIndex := 7, descriptorIndex := 103, attributes := #[] }, { accessFlags := 1, nameIndex := 34, descriptorIndex := 35, attributes := #[] }, { accessFlags := 2, nameIndex := 102, descriptorIndex := 103, attributes := #[] }, { accessFlags := 2, nameIndex := 106, descriptorIndex := 107, attributes := #[] }, { accessFlags := 2, nameIndex := 127, descriptorIndex := 8, attributes := #[] }, { accessFlags := 1, nameIndex := 45, descriptorIndex := 46, attributes := #[] }, { accessFlags := 1, nameIndex := 45, descriptorIndex := 508, attributes := #[] }, { accessFlags := 1, nameIndex := 45, descriptorIndex := 292, attributes := #[] }, { accessFlags := 16, nameIndex := 552, descriptorIndex := 403, attributes := #[] }, { accessFlags := 16, nameIndex := 85, descriptorIndex := 86, attributes := #[] }, { accessFlags := 2, nameIndex := 217, descriptorIndex := 69, attributes := #[] }, { accessFlags := 2, nameIndex := 210, descriptorIndex := 211, attributes := #[] }] 1056 4 #[444, 48] #[{ accessFlags := 0, nameIndex := 17, descriptorIndex := 14, attributes := #[] }, { accessFlags := 0, nameIndex := 24, descriptorIndex := 25, attributes := #[] }, { accessFlags := 0, nameIndex := 75, descriptorIndex := 21, attributes := #[] }, { accessFlags := 0, nameIndex := 81, descriptorIndex := 82, attributes := #[] }, { accessFlags := 26, nameIndex := 13, descriptorIndex := 14, attributes := #[] }])
  fields := #[{ name := "value", type := (.array .byte), accessFlags := 0, slot := 0, constantValue := 0 }, { name := "coder", type := .byte, accessFlags := 0, slot := 1, constantValue := 0 }, { name := "maybeLatin1", type := .boolean, accessFlags := 0, slot := 2, constantValue := 0 }, { name := "count", type := .int, accessFlags := 0, slot := 3, constantValue := 0 }, { name := "EMPTYVALUE", type := (.array .byte), accessFlags := 26, slot := 0, constantValue := 0 }]
  methods := #[k30m0, k30m1, k30m2, k30m3, k30m4, k30m5, k30m6, k30m7, k30m8, k30m9, k30m10, k30m11, k30m12]
  instanceTypes := #[(.array .byte), .byte, .boolean, .int]
  staticTypes := #[(.array .byte)]
  resolved := Array.replicate 609 none }
def pool31 : Array CpInfo := pool [(1, .methodref 2 3), (0, .class_ 4), (0, .nameAndType 5 6), (0, u "java/lang/AbstractStringBuilder"), (0, u "<init>"), (0, u "(I)V"), (10, .methodref 18 19), (0, .class_ 20), (0, .nameAndType 21 22), (0, u "java/lang/String"), (0, u "valueOf"), (0, u "(Ljava/lang/Object;)Ljava/lang/String;"), (0, .methodref 24 25), (0, .class_ 26), (0, .nameAndType 27 28), (0, u "java/lang/StringBuilder"), (0, u "append"), (0, u "(Ljava/lang/String;)Ljava/lang/StringBuilder;"), (0, .methodref 2 30), (0, .nameAndType 27 31), (0, u "(Ljava/lang/String;)Ljava/lang/AbstractStringBuilder;"), (15, .methodref 2 48), (0, .nameAndType 27 49), (0, u "(Z)Ljava/lang/AbstractStringBuilder;"), (0, .methodref 2 51), (0, .nameAndType 27 52), (0, u "(C)Ljava/lang/AbstractStringBuilder;"), (84, .methodref 18 138), (0, .nameAndType 5 139), (0, u "(Ljava/lang/StringBuilder;)V"), (5, u "()V"), (10, u "()I"), (129, u "(C)Ljava/lang/StringBuilder;"), (2, u "(Z)Ljava/lang/StringBuilder;"), (17, u "(Ljava/lang/Object;)Ljava/lang/StringBuilder;"), (35, .methodref 2 344), (0, .nameAndType 345 156), (0, u "length"), (3, .class_ 350), (0, u "java/lang/Appendable"), (0, .class_ 352), (0, u "java/io/Serializable"), (0, .class_ 354), (0, u "java/lang/Comparable"), (0, .class_ 356), (0, u "java/lang/CharSequence"), (0, u "serialVersionUID"), (0, u "J"), (40, u "toString"), (0, u "()Ljava/lang/String;")] 21
def k31c0 : Code := { maxStack := 2, maxLocals := 1, code := jdk_67_method_1_code, exceptionTable := #[], attributes := #[] }
def k31m0 : Method := { name := "<init>", desc := "()V", sig := { parameters := [], returnType := none }, accessFlags := 1, code := some k31c0 }
def k31c1 : Code := { maxStack := 2, maxLocals := 2, code := jdk_67_method_6_code, exceptionTable := #[], attributes := #[] }
def k31m1 : Method := { name := "append", desc := "(Ljava/lang/Object;)Ljava/lang/StringBuilder;", sig := { parameters := [(.object "java/lang/Object")], returnType := some (.object "java/lang/StringBuilder") }, accessFlags := 1, code := some k31c1 }
def k31c2 : Code := { maxStack := 2, maxLocals := 2, code := jdk_67_method_7_code, exceptionTable := #[], attributes := #[] }
def k31m2 : Method := { name := "append", desc := "(Ljava/lang/String;)Ljava/lang/StringBuilder;", sig := { parameters := [(.object "java/lang/String")], returnType := some (.object "java/lang/StringBuilder") }, accessFlags := 1, code := some k31c2 }
def k31c3 : Code := { maxStack := 2, maxLocals := 2, code := jdk_67_method_13_code, exceptionTable := #[], attributes := #[] }
def k31m3 : Method := { name := "append", desc := "(Z)Ljava/lang/StringBuilder;", sig := { parameters := [.boolean], returnType := some (.object "java/lang/StringBuilder") }, accessFlags := 1, code := some k31c3 }
def k31c4 : Code := { maxStack := 2, maxLocals := 2, code := jdk_67_method_14_code, exceptionTable := #[], attributes := #[] }
def k31m4 : Method := { name := "append", desc := "(C)Ljava/lang/StringBuilder;", sig := { parameters := [.char], returnType := some (.object "java/lang/StringBuilder") }, accessFlags := 1, code := some k31c4 }
def k31c5 : Code := { maxStack := 3, maxLocals := 1, code := jdk_67_method_42_code, exceptionTable := #[], attributes := #[] }
def k31m5 : Method := { name := "toString", desc := "()Ljava/lang/String;", sig := { parameters := [], returnType := some (.object "java/lang/String") }, accessFlags := 1, code := some k31c5 }
def k31c6 : Code := { maxStack := 1, maxLocals := 1, code := jdk_67_method_93_code, exceptionTable := #[], attributes := #[] }
def k31m6 : Method := { name := "length", desc := "()I", sig := { parameters := [], returnType := some .int }, accessFlags := 4161, code := some k31c6 }
def k31 : Class := { plain "java/lang/StringBuilder" (some 30) with
  accessFlags := 49
  interfaces := #[29, 10, 12, 13]
  cf := some (fileOf pool31 24 #[] #[{ accessFlags := 1, nameIndex := 5, descriptorIndex := 145, attributes := #[] }, { accessFlags := 1, nameIndex := 27, descriptorIndex := 307, attributes := #[] }, { accessFlags := 1, nameIndex := 27, descriptorIndex := 28, attributes := #[] }, { accessFlags := 1, nameIndex := 27, descriptorIndex := 289, attributes := #[] }, { accessFlags := 1, nameIndex := 27, descriptorIndex := 286, attributes := #[] }, { accessFlags := 1, nameIndex := 399, descriptorIndex := 400, attributes := #[] }, { accessFlags := 4161, nameIndex := 345, descriptorIndex := 156, attributes := #[] }] 49 2 #[349, 351, 353, 355] #[{ accessFlags := 24, nameIndex := 357, descriptorIndex := 358, attributes := #[] }])
  fields := #[{ name := "serialVersionUID", type := .long, accessFlags := 24, slot := 0, constantValue := 0 }]
  methods := #[k31m0, k31m1, k31m2, k31m3, k31m4, k31m5, k31m6]
  instanceTypes := #[(.array .byte), .byte, .boolean, .int]
  staticTypes := #[.long]
  resolved := Array.replicate 422 none }
def pool32 : Array CpInfo := pool [(9, u "<init>"), (6, .class_ 18), (1, u "java/lang/Object"), (0, u "()V"), (1, .class_ 23), (1, u "jdk/internal/util/ArraysSupport"), (0, u "LOG2_ARRAY_LONG_INDEX_SCALE"), (0, u "I"), (2, u "U"), (0, u "Ljdk/internal/misc/Unsafe;"), (8, u "BIG_ENDIAN"), (0, u "Z"), (8, u "LOG2_BYTE_BIT_SIZE"), (4, u "LOG2_ARRAY_INT_INDEX_SCALE"), (54, u "JLA"), (0, u "Ljdk/internal/access/JavaLangAccess;"), (11, u "LOG2_ARRAY_BOOLEAN_INDEX_SCALE"), (9, u "LOG2_ARRAY_BYTE_INDEX_SCALE"), (5, u "LOG2_ARRAY_CHAR_INDEX_SCALE"), (5, u "LOG2_ARRAY_SHORT_INDEX_SCALE"), (18, u "LOG2_ARRAY_FLOAT_INDEX_SCALE"), (24, u "LOG2_ARRAY_DOUBLE_INDEX_SCALE"), (6, .methodref 195 196), (0, .class_ 197), (0, .nameAndType 198 199), (0, u "java/lang/Math"), (0, u "max"), (0, u "(II)I"), (0, .integer 2147483639), (76, u "T_BOOLEAN"), (2, u "T_CHAR"), (1, u "T_FLOAT"), (1, u "T_DOUBLE"), (1, u "T_BYTE"), (1, u "T_SHORT"), (1, u "T_INT"), (1, u "T_LONG"), (1, u "SOFT_MAX_ARRAY_LENGTH"), (56, u "newLength"), (0, u "(III)I")] 25
def k32m0 : Method := { name := "<init>", desc := "()V", sig := { parameters := [], returnType := none }, accessFlags := 2, code := none }
def k32c1 : Code := { maxStack := 3, maxLocals := 4, code := jdk_48_method_27_code, exceptionTable := #[], attributes := #[] }
def k32m1 : Method := { name := "newLength", desc := "(III)I", sig := { parameters := [.int, .int, .int], returnType := some .int }, accessFlags := 9, code := some k32c1 }
def k32 : Class := { plain "jdk/internal/util/ArraysSupport" (some 0) with
  accessFlags := 33
  cf := some (fileOf pool32 21 #[] #[{ accessFlags := 2, nameIndex := 9, descriptorIndex := 19, attributes := #[] }, { accessFlags := 9, nameIndex := 351, descriptorIndex := 352, attributes := #[] }] 33 16 #[] #[{ accessFlags := 24, nameIndex := 28, descriptorIndex := 29, attributes := #[] }, { accessFlags := 26, nameIndex := 38, descriptorIndex := 39, attributes := #[] }, { accessFlags := 25, nameIndex := 121, descriptorIndex := 25, attributes := #[] }, { accessFlags := 25, nameIndex := 131, descriptorIndex := 25, attributes := #[] }, { accessFlags := 25, nameIndex := 137, descriptorIndex := 25, attributes := #[] }, { accessFlags := 25, nameIndex := 143, descriptorIndex := 25, attributes := #[] }, { accessFlags := 25, nameIndex := 53, descriptorIndex := 25, attributes := #[] }, { accessFlags := 25, nameIndex := 24, descriptorIndex := 25, attributes := #[] }, { accessFlags := 25, nameIndex := 162, descriptorIndex := 25, attributes := #[] }, { accessFlags := 25, nameIndex := 187, descriptorIndex := 25, attributes := #[] }, { accessFlags := 26, nameIndex := 48, descriptorIndex := 25, attributes := #[] }, { accessFlags := 25, nameIndex := 277, descriptorIndex := 25, attributes := #[] }, { accessFlags := 25, nameIndex := 280, descriptorIndex := 25, attributes := #[] }, { accessFlags := 25, nameIndex := 282, descriptorIndex := 25, attributes := #[] }, { accessFlags := 25, nameIndex := 284, descriptorIndex := 25, attributes := #[] }, { accessFlags := 25, nameIndex := 286, descriptorIndex := 25, attributes := #[] }, { accessFlags := 25, nameIndex := 288, descriptorIndex := 25, attributes := #[] }, { accessFlags := 25, nameIndex := 290, descriptorIndex := 25, attributes := #[] }, { accessFlags := 25, nameIndex := 292, descriptorIndex := 25, attributes := #[] }, { accessFlags := 26, nameIndex := 108, descriptorIndex := 109, attributes := #[] }, { accessFlags := 25, nameIndex := 294, descriptorIndex := 25, attributes := #[] }])
  fields := #[{ name := "U", type := (.object "jdk/internal/misc/Unsafe"), accessFlags := 24, slot := 0, constantValue := 0 }, { name := "BIG_ENDIAN", type := .boolean, accessFlags := 26, slot := 1, constantValue := 0 }, { name := "LOG2_ARRAY_BOOLEAN_INDEX_SCALE", type := .int, accessFlags := 25, slot := 2, constantValue := 0 }, { name := "LOG2_ARRAY_BYTE_INDEX_SCALE", type := .int, accessFlags := 25, slot := 3, constantValue := 0 }, { name := "LOG2_ARRAY_CHAR_INDEX_SCALE", type := .int, accessFlags := 25, slot := 4, constantValue := 0 }, { name := "LOG2_ARRAY_SHORT_INDEX_SCALE", type := .int, accessFlags := 25, slot := 5, constantValue := 0 }, { name := "LOG2_ARRAY_INT_INDEX_SCALE", type := .int, accessFlags := 25, slot := 6, constantValue := 0 }, { name := "LOG2_ARRAY_LONG_INDEX_SCALE", type := .int, accessFlags := 25, slot := 7, constantValue := 0 }, { name := "LOG2_ARRAY_FLOAT_INDEX_SCALE", type := .int, accessFlags := 25, slot := 8, constantValue := 0 }, { name := "LOG2_ARRAY_DOUBLE_INDEX_SCALE", type := .int, accessFlags := 25, slot := 9, constantValue := 0 }, { name := "LOG2_BYTE_BIT_SIZE", type := .int, accessFlags := 26, slot := 10, constantValue := 0 }, { name := "T_BOOLEAN", type := .int, accessFlags := 25, slot := 11, constantValue := 0 }, { name := "T_CHAR", type := .int, accessFlags := 25, slot := 12, constantValue := 0 }, { name := "T_FLOAT", type := .int, accessFlags := 25, slot := 13, constantValue := 0 }, { name := "T_DOUBLE", type := .int, accessFlags := 25, slot := 14, constantValue := 0 }, { name := "T_BYTE", type := .int, accessFlags := 25, slot := 15, constantValue := 0 }, { name := "T_SHORT", type := .int, accessFlags := 25, slot := 16, constantValue := 0 }, { name := "T_INT", type := .int, accessFlags := 25, slot := 17, constantValue := 0 }, { name := "T_LONG", type := .int, accessFlags := 25, slot := 18, constantValue := 0 }, { name := "JLA", type := (.object "jdk/internal/access/JavaLangAccess"), accessFlags := 26, slot := 19, constantValue := 0 }, { name := "SOFT_MAX_ARRAY_LENGTH", type := .int, accessFlags := 25, slot := 20, constantValue := 0 }]
  methods := #[k32m0, k32m1]
  staticTypes := #[(.object "jdk/internal/misc/Unsafe"), .boolean, .int, .int, .int, .int, .int, .int, .int, .int, .int, .int, .int, .int, .int, .int, .int, .int, .int, (.object "jdk/internal/access/JavaLangAccess"), .int]
  resolved := Array.replicate 378 none }
def pool33 : Array CpInfo := pool [(16, .class_ 18), (1, u "java/util/Iterator"), (0, u "hasNext"), (0, u "()Z"), (2, u "next"), (0, u "()Ljava/lang/Object;"), (6, .class_ 32), (0, u "java/lang/Object")] 20
def k33m0 : Method := { name := "hasNext", desc := "()Z", sig := { parameters := [], returnType := some .boolean }, accessFlags := 1025, code := none }
def k33m1 : Method := { name := "next", desc := "()Ljava/lang/Object;", sig := { parameters := [], returnType := some (.object "java/lang/Object") }, accessFlags := 1025, code := none }
def k33 : Class := { plain "java/util/Iterator" (some 0) with
  accessFlags := 1537
  cf := some (fileOf pool33 16 #[] #[{ accessFlags := 1025, nameIndex := 19, descriptorIndex := 20, attributes := #[] }, { accessFlags := 1025, nameIndex := 23, descriptorIndex := 24, attributes := #[] }] 1537 31 #[] #[])
  methods := #[k33m0, k33m1]
  resolved := Array.replicate 53 none }
def pool34 : Array CpInfo := pool [(1, .class_ 2), (0, u "java/util/ListIterator"), (0, .class_ 4), (0, u "java/lang/Object"), (0, .class_ 6), (0, u "java/util/Iterator")] 20
def k34 : Class := { plain "java/util/ListIterator" (some 0) with
  accessFlags := 1537
  interfaces := #[33]
  cf := some (fileOf pool34 1 #[] #[] 1537 3 #[5] #[])
  resolved := Array.replicate 27 none }
def pool35 : Array CpInfo := pool [(1, .methodref 2 3), (0, .class_ 4), (0, .nameAndType 5 6), (0, u "java/lang/Object"), (0, u "<init>"), (0, u "()V"), (0, .fieldref 8 9), (0, .class_ 10), (0, .nameAndType 11 12), (0, u "java/util/ImmutableCollections$ListItr"), (0, u "list"), (0, u "Ljava/util/List;"), (0, .fieldref 8 14), (0, .nameAndType 15 16), (0, u "size"), (0, u "I"), (0, .fieldref 8 18), (0, .nameAndType 19 16), (0, u "cursor"), (0, .fieldref 8 21), (0, .nameAndType 22 23), (0, u "isListIterator"), (0, u "Z"), (0, .interfaceMethodref 25 26), (0, .class_ 27), (0, .nameAndType 28 29), (0, u "java/util/List"), (0, u "get"), (0, u "(I)Ljava/lang/Object;"), (6, .class_ 38), (1, u "java/util/ImmutableCollections"), (2, .class_ 42), (0, u "java/util/ListIterator"), (4, u "(Ljava/util/List;I)V"), (11, u "hasNext"), (0, u "()Z"), (1, u "next"), (0, u "()Ljava/lang/Object;")] 22
def k35c0 : Code := { maxStack := 2, maxLocals := 3, code := jdk_53_method_1_code, exceptionTable := #[], attributes := #[] }
def k35m0 : Method := { name := "<init>", desc := "(Ljava/util/List;I)V", sig := { parameters := [(.object "java/util/List"), .int], returnType := none }, accessFlags := 0, code := some k35c0 }
def k35c1 : Code := { maxStack := 2, maxLocals := 1, code := jdk_53_method_3_code, exceptionTable := #[], attributes := #[] }
def k35m1 : Method := { name := "hasNext", desc := "()Z", sig := { parameters := [], returnType := some .boolean }, accessFlags := 1, code := some k35c1 }
def k35c2 : Code := { maxStack := 3, maxLocals := 3, code := jdk_53_method_4_code, exceptionTable := #[{ startPc := 0, endPc := 24, handlerPc := 25, catchType := 30 }], attributes := #[] }
def k35m2 : Method := { name := "next", desc := "()Ljava/lang/Object;", sig := { parameters := [], returnType := some (.object "java/lang/Object") }, accessFlags := 1, code := some k35c2 }
def k35 : Class := { plain "java/util/ImmutableCollections$ListItr" (some 0) with
  accessFlags := 48
  interfaces := #[34]
  cf := some (fileOf pool35 8 #[.nestHost 36] #[{ accessFlags := 0, nameIndex := 5, descriptorIndex := 47, attributes := #[] }, { accessFlags := 1, nameIndex := 59, descriptorIndex := 60, attributes := #[] }, { accessFlags := 1, nameIndex := 62, descriptorIndex := 63, attributes := #[] }] 48 2 #[41] #[{ accessFlags := 18, nameIndex := 11, descriptorIndex := 12, attributes := #[] }, { accessFlags := 18, nameIndex := 15, descriptorIndex := 16, attributes := #[] }, { accessFlags := 18, nameIndex := 22, descriptorIndex := 23, attributes := #[] }, { accessFlags := 2, nameIndex := 19, descriptorIndex := 16, attributes := #[] }])
  fields := #[{ name := "list", type := (.object "java/util/List"), accessFlags := 18, slot := 0, constantValue := 0 }, { name := "size", type := .int, accessFlags := 18, slot := 1, constantValue := 0 }, { name := "isListIterator", type := .boolean, accessFlags := 18, slot := 2, constantValue := 0 }, { name := "cursor", type := .int, accessFlags := 2, slot := 3, constantValue := 0 }]
  methods := #[k35m0, k35m1, k35m2]
  instanceTypes := #[(.object "java/util/List"), .int, .boolean, .int]
  resolved := Array.replicate 86 none }
def pool36 : Array CpInfo := pool [(2, .class_ 4), (1, u "java/lang/Object"), (0, u "<init>"), (0, u "()V"), (17, .class_ 26), (1, u "jdk/internal/util/Preconditions"), (6, u "checkIndex"), (13, u "checkFromToIndex"), (1, u "checkFromIndexSize"), (5, .class_ 56), (0, u "jdk/internal/util/Preconditions$4"), (57, .class_ 115), (0, u "jdk/internal/util/Preconditions$1"), (7, u "SIOOBE_FORMATTER"), (0, u "Ljava/util/function/BiFunction;"), (0, .class_ 126), (0, u "jdk/internal/util/Preconditions$2"), (3, u "AIOOBE_FORMATTER"), (0, .class_ 132), (0, u "jdk/internal/util/Preconditions$3"), (3, u "IOOBE_FORMATTER"), (41, u "(IILjava/util/function/BiFunction;)I"), (4, u "(IIILjava/util/function/BiFunction;)I")] 10
def k36m0 : Method := { name := "<init>", desc := "()V", sig := { parameters := [], returnType := none }, accessFlags := 1, code := none }
def k36c1 : Code := { maxStack := 3, maxLocals := 3, code := jdk_41_method_11_code, exceptionTable := #[], attributes := #[] }
def k36m1 : Method := { name := "checkIndex", desc := "(IILjava/util/function/BiFunction;)I", sig := { parameters := [.int, .int, (.object "java/util/function/BiFunction")], returnType := some .int }, accessFlags := 9, code := some k36c1 }
def k36c2 : Code := { maxStack := 4, maxLocals := 4, code := jdk_41_method_12_code, exceptionTable := #[], attributes := #[] }
def k36m2 : Method := { name := "checkFromToIndex", desc := "(IIILjava/util/function/BiFunction;)I", sig := { parameters := [.int, .int, .int, (.object "java/util/function/BiFunction")], returnType := some .int }, accessFlags := 9, code := some k36c2 }
def k36c3 : Code := { maxStack := 4, maxLocals := 4, code := jdk_41_method_13_code, exceptionTable := #[], attributes := #[] }
def k36m3 : Method := { name := "checkFromIndexSize", desc := "(IIILjava/util/function/BiFunction;)I", sig := { parameters := [.int, .int, .int, (.object "java/util/function/BiFunction")], returnType := some .int }, accessFlags := 9, code := some k36c3 }
def k36 : Class := { plain "jdk/internal/util/Preconditions" (some 0) with
  accessFlags := 33
  cf := some (fileOf pool36 24 #[.nestMembers #[55, 131, 125, 114]] #[{ accessFlags := 1, nameIndex := 5, descriptorIndex := 6, attributes := #[] }, { accessFlags := 9, nameIndex := 33, descriptorIndex := 178, attributes := #[] }, { accessFlags := 9, nameIndex := 47, descriptorIndex := 183, attributes := #[] }, { accessFlags := 9, nameIndex := 49, descriptorIndex := 183, attributes := #[] }] 33 2 #[] #[{ accessFlags := 25, nameIndex := 123, descriptorIndex := 124, attributes := #[] }, { accessFlags := 25, nameIndex := 130, descriptorIndex := 124, attributes := #[] }, { accessFlags := 25, nameIndex := 136, descriptorIndex := 124, attributes := #[] }])
  fields := #[{ name := "SIOOBE_FORMATTER", type := (.object "java/util/function/BiFunction"), accessFlags := 25, slot := 0, constantValue := 0 }, { name := "AIOOBE_FORMATTER", type := (.object "java/util/function/BiFunction"), accessFlags := 25, slot := 1, constantValue := 0 }, { name := "IOOBE_FORMATTER", type := (.object "java/util/function/BiFunction"), accessFlags := 25, slot := 2, constantValue := 0 }]
  methods := #[k36m0, k36m1, k36m2, k36m3]
  staticTypes := #[(.object "java/util/function/BiFunction"), (.object "java/util/function/BiFunction"), (.object "java/util/function/BiFunction")]
  resolved := Array.replicate 194 none
  statics := some 3 }
def pool37 : Array CpInfo := pool [(3, .class_ 4), (0, u "java/lang/String"), (1, .class_ 8), (1, u "java/lang/Object"), (0, u "<init>"), (0, u "()V"), (0, .methodref 12 13), (0, .class_ 14), (0, .nameAndType 15 16), (0, u "java/lang/StringUTF16"), (0, u "newBytesLength"), (0, u "(I)I"), (3, .integer 1073741823), (23, .fieldref 12 45), (0, .nameAndType 46 47), (0, u "$assertionsDisabled"), (0, u "Z"), (0, .methodref 12 49), (0, .nameAndType 50 51), (0, u "length"), (0, u "([B)I"), (7, .fieldref 12 60), (0, .nameAndType 61 62), (0, u "HI_BYTE_SHIFT"), (0, u "I"), (0, .fieldref 12 64), (0, .nameAndType 65 62), (0, u "LO_BYTE_SHIFT"), (1, .methodref 12 68), (0, .nameAndType 69 70), (0, u "checkIndex"), (0, u "(I[B)V"), (0, .methodref 12 72), (0, .nameAndType 73 74), (0, u "getChar"), (0, u "([BI)C"), (21, .methodref 12 97), (0, .nameAndType 98 99), (0, u "checkBoundsBeginEnd"), (0, u "(II[B)V"), (9, u "newBytesFor"), (0, u "(I)[B"), (0, .methodref 12 112), (0, .nameAndType 113 114), (0, u "putChar"), (0, u "([BII)V"), (6, u "toBytes"), (18, u "inflate"), (0, u "([BI[BII)V"), (31, .methodref 12 174), (0, .nameAndType 175 99), (0, u "checkBoundsOffCount"), (65, .methodref 3 242), (0, .nameAndType 98 243), (0, u "(III)V"), (37, u "(III)I"), (87, .class_ 371), (1, u "java/lang/StringUTF16$LinesSpliterator"), (20, u "charAt"), (21, .methodref 3 415), (0, .nameAndType 69 416), (0, u "(II)V"), (2, .methodref 3 420), (0, .nameAndType 175 281), (9, u "MAX_LENGTH"), (44, u "(C)[B"), (110, u "putCharSB"), (19, u "putCharsAt"), (0, u "([BICCCC)I"), (2, u "([BICCCCC)I"), (16, .class_ 628), (0, u "java/lang/StringUTF16$CodePointsSpliterator"), (0, .class_ 630), (0, u "java/lang/StringUTF16$CharsSpliterator")] 4
def k37m0 : Method := { name := "<init>", desc := "()V", sig := { parameters := [], returnType := none }, accessFlags := 0, code := none }
def k37c1 : Code := { maxStack := 1, maxLocals := 1, code := jdk_52_method_2_code, exceptionTable := #[], attributes := #[] }
def k37m1 : Method := { name := "newBytesFor", desc := "(I)[B", sig := { parameters := [.int], returnType := some (.array .byte) }, accessFlags := 9, code := some k37c1 }
def k37c2 : Code := { maxStack := 4, maxLocals := 1, code := jdk_52_method_3_code, exceptionTable := #[], attributes := #[] }
def k37m2 : Method := { name := "newBytesLength", desc := "(I)I", sig := { parameters := [.int], returnType := some .int }, accessFlags := 9, code := some k37c2 }
def k37c3 : Code := { maxStack := 4, maxLocals := 3, code := jdk_52_method_4_code, exceptionTable := #[], attributes := #[] }
def k37m3 : Method := { name := "putChar", desc := "([BII)V", sig := { parameters := [(.array .byte), .int, .int], returnType := none }, accessFlags := 8, code := some k37c3 }
def k37c4 : Code := { maxStack := 3, maxLocals := 2, code := jdk_52_method_5_code, exceptionTable := #[], attributes := #[] }
def k37m4 : Method := { name := "getChar", desc := "([BI)C", sig := { parameters := [(.array .byte), .int], returnType := some .char }, accessFlags := 8, code := some k37c4 }
def k37c5 : Code := { maxStack := 2, maxLocals := 1, code := jdk_52_method_6_code, exceptionTable := #[], attributes := #[] }
def k37m5 : Method := { name := "length", desc := "([B)I", sig := { parameters := [(.array .byte)], returnType := some .int }, accessFlags := 9, code := some k37c5 }
def k37c6 : Code := { maxStack := 3, maxLocals := 2, code := jdk_52_method_24_code, exceptionTable := #[], attributes := #[] }
def k37m6 : Method := { name := "toBytes", desc := "(C)[B", sig := { parameters := [.char], returnType := some (.array .byte) }, accessFlags := 9, code := some k37c6 }
def k37c7 : Code := { maxStack := 3, maxLocals := 3, code := jdk_52_method_71_code, exceptionTable := #[], attributes := #[] }
def k37m7 : Method := { name := "putCharSB", desc := "([BII)V", sig := { parameters := [(.array .byte), .int, .int], returnType := none }, accessFlags := 9, code := some k37c7 }
def k37c8 : Code := { maxStack := 3, maxLocals := 7, code := jdk_52_method_81_code, exceptionTable := #[], attributes := #[] }
def k37m8 : Method := { name := "putCharsAt", desc := "([BICCCC)I", sig := { parameters := [(.array .byte), .int, .char, .char, .char, .char], returnType := some .int }, accessFlags := 9, code := some k37c8 }
def k37c9 : Code := { maxStack := 3, maxLocals := 8, code := jdk_52_method_82_code, exceptionTable := #[], attributes := #[] }
def k37m9 : Method := { name := "putCharsAt", desc := "([BICCCCC)I", sig := { parameters := [(.array .byte), .int, .char, .char, .char, .char, .char], returnType := some .int }, accessFlags := 9, code := some k37c9 }
def k37c10 : Code := { maxStack := 2, maxLocals := 2, code := jdk_52_method_83_code, exceptionTable := #[], attributes := #[] }
def k37m10 : Method := { name := "charAt", desc := "([BI)C", sig := { parameters := [(.array .byte), .int], returnType := some .char }, accessFlags := 9, code := some k37c10 }
def k37c11 : Code := { maxStack := 4, maxLocals := 6, code := jdk_52_method_86_code, exceptionTable := #[], attributes := #[] }
def k37m11 : Method := { name := "inflate", desc := "([BI[BII)V", sig := { parameters := [(.array .byte), .int, (.array .byte), .int, .int], returnType := none }, accessFlags := 9, code := some k37c11 }
def k37c12 : Code := { maxStack := 2, maxLocals := 2, code := jdk_52_method_91_code, exceptionTable := #[], attributes := #[] }
def k37m12 : Method := { name := "checkIndex", desc := "(I[B)V", sig := { parameters := [.int, (.array .byte)], returnType := none }, accessFlags := 9, code := some k37c12 }
def k37c13 : Code := { maxStack := 3, maxLocals := 3, code := jdk_52_method_93_code, exceptionTable := #[], attributes := #[] }
def k37m13 : Method := { name := "checkBoundsBeginEnd", desc := "(II[B)V", sig := { parameters := [.int, .int, (.array .byte)], returnType := none }, accessFlags := 9, code := some k37c13 }
def k37c14 : Code := { maxStack := 3, maxLocals := 3, code := jdk_52_method_94_code, exceptionTable := #[], attributes := #[] }
def k37m14 : Method := { name := "checkBoundsOffCount", desc := "(II[B)V", sig := { parameters := [.int, .int, (.array .byte)], returnType := none }, accessFlags := 9, code := some k37c14 }
def k37 : Class := { plain "java/lang/StringUTF16" (some 0) with
  accessFlags := 48
  cf := some (fileOf pool37 12 #[.nestMembers #[627, 629, 369]] #[{ accessFlags := 0, nameIndex := 9, descriptorIndex := 10, attributes := #[] }, { accessFlags := 9, nameIndex := 109, descriptorIndex := 110, attributes := #[] }, { accessFlags := 9, nameIndex := 15, descriptorIndex := 16, attributes := #[] }, { accessFlags := 8, nameIndex := 113, descriptorIndex := 114, attributes := #[] }, { accessFlags := 8, nameIndex := 73, descriptorIndex := 74, attributes := #[] }, { accessFlags := 9, nameIndex := 50, descriptorIndex := 51, attributes := #[] }, { accessFlags := 9, nameIndex := 121, descriptorIndex := 475, attributes := #[] }, { accessFlags := 9, nameIndex := 586, descriptorIndex := 114, attributes := #[] }, { accessFlags := 9, nameIndex := 606, descriptorIndex := 607, attributes := #[] }, { accessFlags := 9, nameIndex := 606, descriptorIndex := 610, attributes := #[] }, { accessFlags := 9, nameIndex := 392, descriptorIndex := 74, attributes := #[] }, { accessFlags := 9, nameIndex := 140, descriptorIndex := 141, attributes := #[] }, { accessFlags := 9, nameIndex := 69, descriptorIndex := 70, attributes := #[] }, { accessFlags := 9, nameIndex := 98, descriptorIndex := 99, attributes := #[] }, { accessFlags := 9, nameIndex := 175, descriptorIndex := 99, attributes := #[] }] 48 6 #[] #[{ accessFlags := 26, nameIndex := 61, descriptorIndex := 62, attributes := #[] }, { accessFlags := 26, nameIndex := 65, descriptorIndex := 62, attributes := #[] }, { accessFlags := 24, nameIndex := 430, descriptorIndex := 62, attributes := #[] }, { accessFlags := 4120, nameIndex := 46, descriptorIndex := 47, attributes := #[] }])
  fields := #[{ name := "HI_BYTE_SHIFT", type := .int, accessFlags := 26, slot := 0, constantValue := 0 }, { name := "LO_BYTE_SHIFT", type := .int, accessFlags := 26, slot := 1, constantValue := 0 }, { name := "MAX_LENGTH", type := .int, accessFlags := 24, slot := 2, constantValue := 0 }, { name := "$assertionsDisabled", type := .boolean, accessFlags := 4120, slot := 3, constantValue := 0 }]
  methods := #[k37m0, k37m1, k37m2, k37m3, k37m4, k37m5, k37m6, k37m7, k37m8, k37m9, k37m10, k37m11, k37m12, k37m13, k37m14]
  staticTypes := #[.int, .int, .int, .boolean]
  resolved := Array.replicate 635 none
  statics := some 4 }
def pool38 : Array CpInfo := pool [(1, u "java/lang/Class"), (0, .class_ 1), (0, u "java/lang/Object"), (0, .class_ 3)] 0
def k38 : Class := { plain "java/lang/Class" (some 0) with
  accessFlags := 49
  cf := some (fileOf pool38 2 #[] #[] 49 4 #[] #[])
  resolved := Array.replicate 5 none }
def k39 : Class := { plain "byte" none with kind := .primitive 'B', accessFlags := 0x411 }
def k40 : Class := { plain "[B" (some 0) with kind := .array 39 .byte, interfaces := #[9, 10], accessFlags := 1041 }
def k41 : Class := { plain "int" none with kind := .primitive 'I', accessFlags := 0x411 }
def k42 : Class := { plain "[I" (some 0) with kind := .array 41 .int, interfaces := #[9, 10], accessFlags := 1041 }
def k43 : Class := { plain "[Ljava/lang/Object;" (some 0) with kind := .array 0 (.object "java/lang/Object"), interfaces := #[9, 10], accessFlags := 1041, mirror := some 5 }
def heap : Heap := #[{ cls := 11, slots := #[.long 0, .int 0, .ref 8, .ref 9], vm := .statics 11 },
  { cls := 16, slots := #[.long 0, .int 1, .null, .int 0, .null, .int 0, .int 0], vm := .statics 16 },
  { cls := 21, slots := #[.long 0, .int 0, .null, .ref 10, .ref 7, .null, .null, .null, .int 0, .int 1], vm := .statics 21 },
  { cls := 36, slots := #[.null, .null, .null], vm := .statics 36 },
  { cls := 37, slots := #[.int 0, .int 8, .int 0, .int 1], vm := .statics 37 },
  { cls := 38, slots := #[], vm := .mirror 43 },
  { cls := 43, slots := #[], vm := .none },
  { cls := 25, slots := #[.ref 6, .int 0], vm := .none },
  { cls := 43, slots := #[], vm := .none },
  { cls := 43, slots := #[], vm := .none },
  { cls := 0, slots := #[], vm := .none }]
def classes : Array Class := #[k0, k1, k2, k3, k4, k5, k6, k7, k8, k9, k10, k11, k12, k13, k14, k15, k16, k17, k18, k19, k20, k21, k22, k23, k24, k25, k26, k27, k28, k29, k30, k31, k32, k33, k34, k35, k36, k37, k38, k39, k40, k41, k42, k43]
def interned : List (Array UInt16 × Addr) := []
def slotsUsed : Nat := 30
def theMethod : MethodId := ⟨1, 3⟩
def args0 : Array Value := #[.int 65, .int 66, .int 67, .int 68, .int 69, .int 3]
def aboutOver (below : List Frame) : State where
  vm := { classes := classes, interned := interned.toArray }
  heap := heap
  slotsUsed := slotsUsed
  threads := #[{ frames := .invoking theMethod args0 :: below }]
def below0 : List Frame := [.native { method := ⟨0, 0⟩, args := #[] }]
def about1 : State := aboutOver below0
def p0 : Program := .bare "" "" ""
def e0 : Env := launch0.env 0 0 0
theorem w_frames : about1.frames = Frame.invoking theMethod args0 :: below0 := rfl
theorem w_args : argsFit about1.vm theMethod args0 = true := by decide +kernel
theorem w_heap : heapFits about1 = true := by decide +kernel
theorem w_runnable : about1.curStatus? = some .runnable := by decide +kernel
theorem w_alone : about1.alone = true := by decide +kernel
theorem w_named : about1.methodNamed? x = some theMethod := by decide +kernel
theorem w_hears : about1.hears theMethod below0 = true := by decide +kernel
theorem w_ripe : about1.ripe theMethod args0 below0 = true := by decide +kernel
theorem w_running : about1.status = .running := rfl
theorem w_room : about1.hasRoom e0.platform room_1 = true :=
  launch0.hasRoom_least _ room_1 (by decide +kernel) (by decide +kernel) (by decide +kernel) (by decide +kernel) (by decide +kernel) (by decide +kernel)
theorem allAtoms_all (ts : List Jvm.Cond) (a : Array Jvm.Value) (st : Jvm.State) : (allAtoms ts).before a st = ts.all (fun c => c.before a st) := by
  induction ts with
  | nil => rfl
  | cons c t ih =>
    show (Jvm.Cond.and c (allAtoms t)).before a st = _
    rw [Jvm.Cond.before_and, ih, List.all_cons]
def words1 : List Jvm.Cond := Jvm.Cond.code x code maxLocals ret :: tables_1
/-- a 'code' word, met by the world's own term for the bytes: nothing is compared byte by byte -/
theorem code_word {y : MethodName} {bytes : ByteArray} {mx : Nat} {rt : Option FieldType} {a : Array Value} {s : State} {m : MethodId} {meth : Method} {c : Code} (h1 : s.methodNamed? y = some m) (h2 : s.vm.method? m = some meth) (h3 : meth.code = some c) (h4 : c.code = bytes)
    (h5 : (c.maxLocals == mx && c.exceptionTable.isEmpty && decide (c.maxStack ≤ mostOperands) && decide (meth.sig.returnType = rt) && !meth.locks && decide (parseMethodDescriptor y.desc = some meth.sig)) = true) : (Jvm.Cond.code y bytes mx rt).before a s = true := by
  simp only [Bool.and_eq_true, beq_iff_eq, Bool.not_eq_true', decide_eq_true_eq] at h5
  obtain ⟨⟨⟨⟨⟨g1, g2⟩, g3⟩, g4⟩, g5⟩, g6⟩ := h5
  simp [Cond.before, Cond.holds, Cond.value, h1, h2, h3, h4, g1, g2, g3, g4, g5, g6]
def isCode : Jvm.Cond → Bool
  | .code _ _ _ _ => true
  | .codeWith _ _ _ _ _ => true
  | _ => false
theorem all_split {L : List Jvm.Cond} {P : Jvm.Cond → Bool} (h1 : L.all (fun c => isCode c || P c) = true) (h2 : ∀ c ∈ L.filter isCode, P c = true) : L.all P = true := by
  refine List.all_eq_true.mpr fun c hc => ?_
  have h := List.all_eq_true.mp h1 c hc
  rcases Bool.eq_false_or_eq_true (isCode c) with hi | hi
  · exact h2 c (List.mem_filter.mpr ⟨hc, hi⟩)
  · simpa [hi] using h
theorem w_c0 : (Jvm.Cond.code x code maxLocals ret).before args0 about1 = true := code_word (m := ⟨1, 3⟩) (meth := k1m3) (c := k1c3) (by decide +kernel) rfl rfl rfl (by decide +kernel)
theorem w_c1 : (Jvm.Cond.code ⟨"java/util/ArrayList", "<init>", "()V"⟩ jdk_38_method_2_code 1 none).before args0 about1 = true := code_word (m := ⟨11, 0⟩) (meth := k11m0) (c := k11c0) (by decide +kernel) rfl rfl rfl (by decide +kernel)
theorem w_c2 : (Jvm.Cond.code ⟨"java/util/AbstractList", "<init>", "()V"⟩ jdk_39_method_1_code 1 none).before args0 about1 = true := code_word (m := ⟨7, 0⟩) (meth := k7m0) (c := k7c0) (by decide +kernel) rfl rfl rfl (by decide +kernel)
theorem w_c3 : (Jvm.Cond.code ⟨"java/util/AbstractCollection", "<init>", "()V"⟩ jdk_22_method_1_code 1 none).before args0 about1 = true := code_word (m := ⟨4, 0⟩) (meth := k4m0) (c := k4c0) (by decide +kernel) rfl rfl rfl (by decide +kernel)
theorem w_c4 : (Jvm.Cond.code ⟨"java/lang/Object", "<init>", "()V"⟩ object_method_1_code 1 none).before args0 about1 = true := code_word (m := ⟨0, 0⟩) (meth := k0m0) (c := k0c0) (by decide +kernel) rfl rfl rfl (by decide +kernel)
theorem w_c5 : (Jvm.Cond.code ⟨"java/lang/String", "valueOf", "(C)Ljava/lang/String;"⟩ jdk_42_method_139_code 1 (some (.object "java/lang/String"))).before args0 about1 = true := code_word (m := ⟨16, 6⟩) (meth := k16m6) (c := k16c6) (by decide +kernel) rfl rfl rfl (by decide +kernel)
theorem w_c6 : (Jvm.Cond.code ⟨"java/lang/StringLatin1", "canEncode", "(C)Z"⟩ jdk_43_method_3_code 1 (some .boolean)).before args0 about1 = true := code_word (m := ⟨17, 2⟩) (meth := k17m2) (c := k17c2) (by decide +kernel) rfl rfl rfl (by decide +kernel)
theorem w_c7 : (Jvm.Cond.code ⟨"java/lang/StringLatin1", "toBytes", "(C)[B"⟩ jdk_43_method_46_code 1 (some (.array .byte))).before args0 about1 = true := code_word (m := ⟨17, 3⟩) (meth := k17m3) (c := k17c3) (by decide +kernel) rfl rfl rfl (by decide +kernel)
theorem w_c8 : (Jvm.Cond.code ⟨"java/lang/String", "<init>", "([BB)V"⟩ jdk_42_method_151_code 3 none).before args0 about1 = true := code_word (m := ⟨16, 9⟩) (meth := k16m9) (c := k16c9) (by decide +kernel) rfl rfl rfl (by decide +kernel)
theorem w_c9 : (Jvm.Cond.code ⟨"java/util/ArrayList", "add", "(Ljava/lang/Object;)Z"⟩ jdk_38_method_25_code 2 (some .boolean)).before args0 about1 = true := code_word (m := ⟨11, 6⟩) (meth := k11m6) (c := k11c6) (by decide +kernel) rfl rfl rfl (by decide +kernel)
theorem w_c10 : (Jvm.Cond.code ⟨"java/util/ArrayList", "add", "(Ljava/lang/Object;[Ljava/lang/Object;I)V"⟩ jdk_38_method_24_code 4 none).before args0 about1 = true := code_word (m := ⟨11, 5⟩) (meth := k11m5) (c := k11c5) (by decide +kernel) rfl rfl rfl (by decide +kernel)
theorem w_c11 : (Jvm.Cond.code ⟨"java/util/ArrayList", "grow", "()[Ljava/lang/Object;"⟩ jdk_38_method_7_code 1 (some (.array (.object "java/lang/Object")))).before args0 about1 = true := code_word (m := ⟨11, 2⟩) (meth := k11m2) (c := k11c2) (by decide +kernel) rfl rfl rfl (by decide +kernel)
theorem w_c12 : (Jvm.Cond.code ⟨"java/util/ArrayList", "grow", "(I)[Ljava/lang/Object;"⟩ jdk_38_method_6_code 4 (some (.array (.object "java/lang/Object")))).before args0 about1 = true := code_word (m := ⟨11, 1⟩) (meth := k11m1) (c := k11c1) (by decide +kernel) rfl rfl rfl (by decide +kernel)
theorem w_c13 : (Jvm.Cond.code ⟨"java/lang/Math", "max", "(II)I"⟩ jdk_29_method_65_code 2 (some .int)).before args0 about1 = true := code_word (m := ⟨18, 1⟩) (meth := k18m1) (c := k18c1) (by decide +kernel) rfl rfl rfl (by decide +kernel)
theorem w_c14 : (Jvm.Cond.code ⟨"com/example/gatewarden/gatewarden/model/Client", "<init>", "(Ljava/lang/String;Ljava/lang/String;Ljava/lang/String;Ljava/util/List;Z)V"⟩ prog_23_method_1_code 6 none).before args0 about1 = true := code_word (m := ⟨20, 0⟩) (meth := k20m0) (c := k20c0) (by decide +kernel) rfl rfl rfl (by decide +kernel)
theorem w_c15 : (Jvm.Cond.code ⟨"java/lang/Record", "<init>", "()V"⟩ jdk_30_method_1_code 1 none).before args0 about1 = true := code_word (m := ⟨19, 0⟩) (meth := k19m0) (c := k19c0) (by decide +kernel) rfl rfl rfl (by decide +kernel)
theorem w_c16 : (Jvm.Cond.code ⟨"java/util/List", "copyOf", "(Ljava/util/Collection;)Ljava/util/List;"⟩ jdk_40_method_48_code 1 (some (.object "java/util/List"))).before args0 about1 = true := code_word (m := ⟨6, 3⟩) (meth := k6m3) (c := k6c3) (by decide +kernel) rfl rfl rfl (by decide +kernel)
theorem w_c17 : (Jvm.Cond.code ⟨"java/util/ImmutableCollections", "listCopy", "(Ljava/util/Collection;)Ljava/util/List;"⟩ jdk_56_method_3_code 2 (some (.object "java/util/List"))).before args0 about1 = true := code_word (m := ⟨21, 1⟩) (meth := k21m1) (c := k21c1) (by decide +kernel) rfl rfl rfl (by decide +kernel)
theorem w_c18 : (Jvm.Cond.code ⟨"java/util/ArrayList", "isEmpty", "()Z"⟩ jdk_38_method_9_code 1 (some .boolean)).before args0 about1 = true := code_word (m := ⟨11, 3⟩) (meth := k11m3) (c := k11c3) (by decide +kernel) rfl rfl rfl (by decide +kernel)
theorem w_c19 : (Jvm.Cond.code ⟨"java/util/ArrayList", "toArray", "()[Ljava/lang/Object;"⟩ jdk_38_method_16_code 1 (some (.array (.object "java/lang/Object")))).before args0 about1 = true := code_word (m := ⟨11, 4⟩) (meth := k11m4) (c := k11c4) (by decide +kernel) rfl rfl rfl (by decide +kernel)
theorem w_c20 : (Jvm.Cond.code ⟨"java/util/Arrays", "copyOf", "([Ljava/lang/Object;I)[Ljava/lang/Object;"⟩ jdk_65_method_119_code 2 (some (.array (.object "java/lang/Object")))).before args0 about1 = true := code_word (m := ⟨26, 1⟩) (meth := k26m1) (c := k26c1) (by decide +kernel) rfl rfl rfl (by decide +kernel)
theorem w_c21 : (Jvm.Cond.code ⟨"java/util/Arrays", "copyOf", "([Ljava/lang/Object;ILjava/lang/Class;)[Ljava/lang/Object;"⟩ jdk_65_method_120_code 4 (some (.array (.object "java/lang/Object")))).before args0 about1 = true := code_word (m := ⟨26, 2⟩) (meth := k26m2) (c := k26c2) (by decide +kernel) rfl rfl rfl (by decide +kernel)
theorem w_c22 : (Jvm.Cond.code ⟨"java/lang/Math", "min", "(II)I"⟩ jdk_29_method_69_code 2 (some .int)).before args0 about1 = true := code_word (m := ⟨18, 2⟩) (meth := k18m2) (c := k18c2) (by decide +kernel) rfl rfl rfl (by decide +kernel)
theorem w_c23 : (Jvm.Cond.code ⟨"java/util/List", "of", "([Ljava/lang/Object;)Ljava/util/List;"⟩ jdk_40_method_47_code 2 (some (.object "java/util/List"))).before args0 about1 = true := code_word (m := ⟨6, 2⟩) (meth := k6m2) (c := k6c2) (by decide +kernel) rfl rfl rfl (by decide +kernel)
theorem w_c24 : (Jvm.Cond.code ⟨"java/util/ImmutableCollections$List12", "<init>", "(Ljava/lang/Object;)V"⟩ jdk_44_method_1_code 2 none).before args0 about1 = true := code_word (m := ⟨24, 0⟩) (meth := k24m0) (c := k24c0) (by decide +kernel) rfl rfl rfl (by decide +kernel)
theorem w_c25 : (Jvm.Cond.code ⟨"java/util/ImmutableCollections$AbstractImmutableList", "<init>", "()V"⟩ jdk_46_method_1_code 1 none).before args0 about1 = true := code_word (m := ⟨23, 0⟩) (meth := k23m0) (c := k23c0) (by decide +kernel) rfl rfl rfl (by decide +kernel)
theorem w_c26 : (Jvm.Cond.code ⟨"java/util/ImmutableCollections$AbstractImmutableCollection", "<init>", "()V"⟩ jdk_47_method_1_code 1 none).before args0 about1 = true := code_word (m := ⟨22, 0⟩) (meth := k22m0) (c := k22c0) (by decide +kernel) rfl rfl rfl (by decide +kernel)
theorem w_c27 : (Jvm.Cond.code ⟨"java/util/Objects", "requireNonNull", "(Ljava/lang/Object;)Ljava/lang/Object;"⟩ jdk_31_method_10_code 1 (some (.object "java/lang/Object"))).before args0 about1 = true := code_word (m := ⟨28, 1⟩) (meth := k28m1) (c := k28c1) (by decide +kernel) rfl rfl rfl (by decide +kernel)
theorem w_c28 : (Jvm.Cond.code ⟨"com/example/gatewarden/gatewarden/model/Client", "toString", "()Ljava/lang/String;"⟩ prog_23_method_3_code 1 (some (.object "java/lang/String"))).before args0 about1 = true := code_word (m := ⟨20, 1⟩) (meth := k20m1) (c := k20c1) (by decide +kernel) rfl rfl rfl (by decide +kernel)
theorem w_c29 : (Jvm.Cond.code ⟨"java/lang/StringBuilder", "<init>", "()V"⟩ jdk_67_method_1_code 1 none).before args0 about1 = true := code_word (m := ⟨31, 0⟩) (meth := k31m0) (c := k31c0) (by decide +kernel) rfl rfl rfl (by decide +kernel)
theorem w_c30 : (Jvm.Cond.code ⟨"java/lang/AbstractStringBuilder", "<init>", "(I)V"⟩ jdk_68_method_2_code 2 none).before args0 about1 = true := code_word (m := ⟨30, 1⟩) (meth := k30m1) (c := k30c1) (by decide +kernel) rfl rfl rfl (by decide +kernel)
theorem w_c31 : (Jvm.Cond.code ⟨"java/lang/StringBuilder", "append", "(Ljava/lang/String;)Ljava/lang/StringBuilder;"⟩ jdk_67_method_7_code 2 (some (.object "java/lang/StringBuilder"))).before args0 about1 = true := code_word (m := ⟨31, 2⟩) (meth := k31m2) (c := k31c2) (by decide +kernel) rfl rfl rfl (by decide +kernel)
theorem w_c32 : (Jvm.Cond.code ⟨"java/lang/AbstractStringBuilder", "append", "(Ljava/lang/String;)Ljava/lang/AbstractStringBuilder;"⟩ jdk_68_method_22_code 3 (some (.object "java/lang/AbstractStringBuilder"))).before args0 about1 = true := code_word (m := ⟨30, 6⟩) (meth := k30m6) (c := k30c6) (by decide +kernel) rfl rfl rfl (by decide +kernel)
theorem w_c33 : (Jvm.Cond.code ⟨"java/lang/String", "length", "()I"⟩ jdk_42_method_54_code 1 (some .int)).before args0 about1 = true := code_word (m := ⟨16, 2⟩) (meth := k16m2) (c := k16c2) (by decide +kernel) rfl rfl rfl (by decide +kernel)
theorem w_c34 : (Jvm.Cond.code ⟨"java/lang/String", "coder", "()B"⟩ jdk_42_method_152_code 1 (some .byte)).before args0 about1 = true := code_word (m := ⟨16, 10⟩) (meth := k16m10) (c := k16c10) (by decide +kernel) rfl rfl rfl (by decide +kernel)
theorem w_c35 : (Jvm.Cond.code ⟨"java/lang/AbstractStringBuilder", "ensureCapacityInternal", "(I)V"⟩ jdk_68_method_9_code 3 none).before args0 about1 = true := code_word (m := ⟨30, 3⟩) (meth := k30m3) (c := k30c3) (by decide +kernel) rfl rfl rfl (by decide +kernel)
theorem w_c36 : (Jvm.Cond.code ⟨"java/lang/AbstractStringBuilder", "putStringAt", "(ILjava/lang/String;)V"⟩ jdk_68_method_73_code 3 none).before args0 about1 = true := code_word (m := ⟨30, 12⟩) (meth := k30m12) (c := k30c12) (by decide +kernel) rfl rfl rfl (by decide +kernel)
theorem w_c37 : (Jvm.Cond.code ⟨"java/lang/AbstractStringBuilder", "inflateIfNeededFor", "(Ljava/lang/String;)V"⟩ jdk_68_method_71_code 2 none).before args0 about1 = true := code_word (m := ⟨30, 11⟩) (meth := k30m11) (c := k30c11) (by decide +kernel) rfl rfl rfl (by decide +kernel)
theorem w_c38 : (Jvm.Cond.code ⟨"java/lang/String", "getBytes", "([BIB)V"⟩ jdk_42_method_147_code 4 none).before args0 about1 = true := code_word (m := ⟨16, 7⟩) (meth := k16m7) (c := k16c7) (by decide +kernel) rfl rfl rfl (by decide +kernel)
theorem w_c39 : (Jvm.Cond.code ⟨"java/lang/AbstractStringBuilder", "newCapacity", "(I)I"⟩ jdk_68_method_10_code 6 (some .int)).before args0 about1 = true := code_word (m := ⟨30, 4⟩) (meth := k30m4) (c := k30c4) (by decide +kernel) rfl rfl rfl (by decide +kernel)
theorem w_c40 : (Jvm.Cond.code ⟨"jdk/internal/util/ArraysSupport", "newLength", "(III)I"⟩ jdk_48_method_27_code 4 (some .int)).before args0 about1 = true := code_word (m := ⟨32, 1⟩) (meth := k32m1) (c := k32c1) (by decide +kernel) rfl rfl rfl (by decide +kernel)
theorem w_c41 : (Jvm.Cond.code ⟨"java/util/Arrays", "copyOf", "([BI)[B"⟩ jdk_65_method_121_code 3 (some (.array .byte))).before args0 about1 = true := code_word (m := ⟨26, 3⟩) (meth := k26m3) (c := k26c3) (by decide +kernel) rfl rfl rfl (by decide +kernel)
theorem w_c42 : (Jvm.Cond.code ⟨"java/lang/StringBuilder", "append", "(Ljava/lang/Object;)Ljava/lang/StringBuilder;"⟩ jdk_67_method_6_code 2 (some (.object "java/lang/StringBuilder"))).before args0 about1 = true := code_word (m := ⟨31, 1⟩) (meth := k31m1) (c := k31c1) (by decide +kernel) rfl rfl rfl (by decide +kernel)
theorem w_c43 : (Jvm.Cond.code ⟨"java/lang/String", "valueOf", "(Ljava/lang/Object;)Ljava/lang/String;"⟩ jdk_42_method_133_code 1 (some (.object "java/lang/String"))).before args0 about1 = true := code_word (m := ⟨16, 5⟩) (meth := k16m5) (c := k16c5) (by decide +kernel) rfl rfl rfl (by decide +kernel)
theorem w_c44 : (Jvm.Cond.code ⟨"java/util/AbstractCollection", "toString", "()Ljava/lang/String;"⟩ jdk_22_method_16_code 4 (some (.object "java/lang/String"))).before args0 about1 = true := code_word (m := ⟨4, 3⟩) (meth := k4m3) (c := k4c3) (by decide +kernel) rfl rfl rfl (by decide +kernel)
theorem w_c45 : (Jvm.Cond.code ⟨"java/util/ImmutableCollections$AbstractImmutableList", "iterator", "()Ljava/util/Iterator;"⟩ jdk_46_method_10_code 1 (some (.object "java/util/Iterator"))).before args0 about1 = true := code_word (m := ⟨23, 1⟩) (meth := k23m1) (c := k23c1) (by decide +kernel) rfl rfl rfl (by decide +kernel)
theorem w_c46 : (Jvm.Cond.code ⟨"java/util/ImmutableCollections$List12", "size", "()I"⟩ jdk_44_method_3_code 1 (some .int)).before args0 about1 = true := code_word (m := ⟨24, 2⟩) (meth := k24m2) (c := k24c2) (by decide +kernel) rfl rfl rfl (by decide +kernel)
theorem w_c47 : (Jvm.Cond.code ⟨"java/util/ImmutableCollections$ListItr", "<init>", "(Ljava/util/List;I)V"⟩ jdk_53_method_1_code 3 none).before args0 about1 = true := code_word (m := ⟨35, 0⟩) (meth := k35m0) (c := k35c0) (by decide +kernel) rfl rfl rfl (by decide +kernel)
theorem w_c48 : (Jvm.Cond.code ⟨"java/util/ImmutableCollections$ListItr", "hasNext", "()Z"⟩ jdk_53_method_3_code 1 (some .boolean)).before args0 about1 = true := code_word (m := ⟨35, 1⟩) (meth := k35m1) (c := k35c1) (by decide +kernel) rfl rfl rfl (by decide +kernel)
theorem w_c49 : (Jvm.Cond.code ⟨"java/lang/StringBuilder", "append", "(C)Ljava/lang/StringBuilder;"⟩ jdk_67_method_14_code 2 (some (.object "java/lang/StringBuilder"))).before args0 about1 = true := code_word (m := ⟨31, 4⟩) (meth := k31m4) (c := k31c4) (by decide +kernel) rfl rfl rfl (by decide +kernel)
theorem w_c50 : (Jvm.Cond.code ⟨"java/lang/AbstractStringBuilder", "append", "(C)Ljava/lang/AbstractStringBuilder;"⟩ jdk_68_method_31_code 2 (some (.object "java/lang/AbstractStringBuilder"))).before args0 about1 = true := code_word (m := ⟨30, 8⟩) (meth := k30m8) (c := k30c8) (by decide +kernel) rfl rfl rfl (by decide +kernel)
theorem w_c51 : (Jvm.Cond.code ⟨"java/lang/AbstractStringBuilder", "isLatin1", "()Z"⟩ jdk_68_method_68_code 1 (some .boolean)).before args0 about1 = true := code_word (m := ⟨30, 10⟩) (meth := k30m10) (c := k30c10) (by decide +kernel) rfl rfl rfl (by decide +kernel)
theorem w_c52 : (Jvm.Cond.code ⟨"java/util/ImmutableCollections$List12", "get", "(I)Ljava/lang/Object;"⟩ jdk_44_method_5_code 2 (some (.object "java/lang/Object"))).before args0 about1 = true := code_word (m := ⟨24, 3⟩) (meth := k24m3) (c := k24c3) (by decide +kernel) rfl rfl rfl (by decide +kernel)
theorem w_c53 : (Jvm.Cond.code ⟨"java/lang/String", "toString", "()Ljava/lang/String;"⟩ jdk_42_method_126_code 1 (some (.object "java/lang/String"))).before args0 about1 = true := code_word (m := ⟨16, 4⟩) (meth := k16m4) (c := k16c4) (by decide +kernel) rfl rfl rfl (by decide +kernel)
theorem w_c54 : (Jvm.Cond.code ⟨"java/lang/StringBuilder", "toString", "()Ljava/lang/String;"⟩ jdk_67_method_42_code 1 (some (.object "java/lang/String"))).before args0 about1 = true := code_word (m := ⟨31, 5⟩) (meth := k31m5) (c := k31c5) (by decide +kernel) rfl rfl rfl (by decide +kernel)
theorem w_c55 : (Jvm.Cond.code ⟨"java/lang/String", "<init>", "(Ljava/lang/StringBuilder;)V"⟩ jdk_42_method_53_code 2 none).before args0 about1 = true := code_word (m := ⟨16, 1⟩) (meth := k16m1) (c := k16c1) (by decide +kernel) rfl rfl rfl (by decide +kernel)
theorem w_c56 : (Jvm.Cond.code ⟨"java/lang/String", "<init>", "(Ljava/lang/AbstractStringBuilder;Ljava/lang/Void;)V"⟩ jdk_42_method_150_code 5 none).before args0 about1 = true := code_word (m := ⟨16, 8⟩) (meth := k16m8) (c := k16c8) (by decide +kernel) rfl rfl rfl (by decide +kernel)
theorem w_c57 : (Jvm.Cond.code ⟨"java/lang/AbstractStringBuilder", "getValue", "()[B"⟩ jdk_68_method_64_code 1 (some (.array .byte))).before args0 about1 = true := code_word (m := ⟨30, 9⟩) (meth := k30m9) (c := k30c9) (by decide +kernel) rfl rfl rfl (by decide +kernel)
theorem w_c58 : (Jvm.Cond.code ⟨"java/lang/StringBuilder", "length", "()I"⟩ jdk_67_method_93_code 1 (some .int)).before args0 about1 = true := code_word (m := ⟨31, 6⟩) (meth := k31m6) (c := k31c6) (by decide +kernel) rfl rfl rfl (by decide +kernel)
theorem w_c59 : (Jvm.Cond.code ⟨"java/lang/AbstractStringBuilder", "length", "()I"⟩ jdk_68_method_6_code 1 (some .int)).before args0 about1 = true := code_word (m := ⟨30, 2⟩) (meth := k30m2) (c := k30c2) (by decide +kernel) rfl rfl rfl (by decide +kernel)
theorem w_c60 : (Jvm.Cond.code ⟨"java/util/Arrays", "copyOfRange", "([BII)[B"⟩ jdk_65_method_132_code 3 (some (.array .byte))).before args0 about1 = true := code_word (m := ⟨26, 5⟩) (meth := k26m5) (c := k26c5) (by decide +kernel) rfl rfl rfl (by decide +kernel)
theorem w_c61 : (Jvm.Cond.code ⟨"java/util/Arrays", "copyOfRangeByte", "([BII)[B"⟩ jdk_65_method_133_code 5 (some (.array .byte))).before args0 about1 = true := code_word (m := ⟨26, 6⟩) (meth := k26m6) (c := k26c6) (by decide +kernel) rfl rfl rfl (by decide +kernel)
theorem w_c62 : (Jvm.Cond.code ⟨"java/util/Arrays", "checkLength", "(II)V"⟩ jdk_65_method_131_code 2 none).before args0 about1 = true := code_word (m := ⟨26, 4⟩) (meth := k26m4) (c := k26c4) (by decide +kernel) rfl rfl rfl (by decide +kernel)
theorem w_c63 : (Jvm.Cond.code ⟨"java/lang/StringBuilder", "append", "(Z)Ljava/lang/StringBuilder;"⟩ jdk_67_method_13_code 2 (some (.object "java/lang/StringBuilder"))).before args0 about1 = true := code_word (m := ⟨31, 3⟩) (meth := k31m3) (c := k31c3) (by decide +kernel) rfl rfl rfl (by decide +kernel)
theorem w_c64 : (Jvm.Cond.code ⟨"java/lang/AbstractStringBuilder", "append", "(Z)Ljava/lang/AbstractStringBuilder;"⟩ jdk_68_method_30_code 4 (some (.object "java/lang/AbstractStringBuilder"))).before args0 about1 = true := code_word (m := ⟨30, 7⟩) (meth := k30m7) (c := k30c7) (by decide +kernel) rfl rfl rfl (by decide +kernel)
theorem w_c65 : (Jvm.Cond.code ⟨"java/lang/String", "charAt", "(I)C"⟩ jdk_42_method_56_code 2 (some .char)).before args0 about1 = true := code_word (m := ⟨16, 3⟩) (meth := k16m3) (c := k16c3) (by decide +kernel) rfl rfl rfl (by decide +kernel)
theorem w_c66 : (Jvm.Cond.code ⟨"java/lang/String", "isLatin1", "()Z"⟩ jdk_42_method_154_code 1 (some .boolean)).before args0 about1 = true := code_word (m := ⟨16, 11⟩) (meth := k16m11) (c := k16c11) (by decide +kernel) rfl rfl rfl (by decide +kernel)
theorem w_c67 : (Jvm.Cond.code ⟨"java/lang/StringLatin1", "charAt", "([BI)C"⟩ jdk_43_method_2_code 2 (some .char)).before args0 about1 = true := code_word (m := ⟨17, 1⟩) (meth := k17m1) (c := k17c1) (by decide +kernel) rfl rfl rfl (by decide +kernel)
theorem w_c68 : (Jvm.Cond.code ⟨"java/lang/String", "checkIndex", "(II)V"⟩ jdk_42_method_155_code 2 none).before args0 about1 = true := code_word (m := ⟨16, 12⟩) (meth := k16m12) (c := k16c12) (by decide +kernel) rfl rfl rfl (by decide +kernel)
theorem w_c69 : (Jvm.Cond.code ⟨"jdk/internal/util/Preconditions", "checkIndex", "(IILjava/util/function/BiFunction;)I"⟩ jdk_41_method_11_code 3 (some .int)).before args0 about1 = true := code_word (m := ⟨36, 1⟩) (meth := k36m1) (c := k36c1) (by decide +kernel) rfl rfl rfl (by decide +kernel)
theorem w_c70 : (Jvm.Cond.code ⟨"com/example/gatewarden/gatewarden/model/ClientToStringPinLaw", "seg", "(Ljava/lang/String;ILjava/lang/String;)Z"⟩ method_3_code 3 (some .boolean)).before args0 about1 = true := code_word (m := ⟨1, 2⟩) (meth := k1m2) (c := k1c2) (by decide +kernel) rfl rfl rfl (by decide +kernel)
theorem w_c71 : (Jvm.Cond.code ⟨"com/example/gatewarden/gatewarden/model/ClientToStringPinLaw", "c", "(Ljava/lang/String;ILjava/lang/String;I)Z"⟩ method_2_code 4 (some .boolean)).before args0 about1 = true := code_word (m := ⟨1, 1⟩) (meth := k1m1) (c := k1c1) (by decide +kernel) rfl rfl rfl (by decide +kernel)
theorem w_c72 : (Jvm.Cond.code ⟨"java/lang/StringUTF16", "toBytes", "(C)[B"⟩ jdk_52_method_24_code 2 (some (.array .byte))).before args0 about1 = true := code_word (m := ⟨37, 6⟩) (meth := k37m6) (c := k37c6) (by decide +kernel) rfl rfl rfl (by decide +kernel)
theorem w_c73 : (Jvm.Cond.code ⟨"java/lang/StringUTF16", "putChar", "([BII)V"⟩ jdk_52_method_4_code 3 none).before args0 about1 = true := code_word (m := ⟨37, 3⟩) (meth := k37m3) (c := k37c3) (by decide +kernel) rfl rfl rfl (by decide +kernel)
theorem w_c74 : (Jvm.Cond.code ⟨"java/util/List", "of", "()Ljava/util/List;"⟩ jdk_40_method_36_code 0 (some (.object "java/util/List"))).before args0 about1 = true := code_word (m := ⟨6, 1⟩) (meth := k6m1) (c := k6c1) (by decide +kernel) rfl rfl rfl (by decide +kernel)
theorem w_c75 : (Jvm.Cond.code ⟨"java/lang/AbstractStringBuilder", "inflate", "()V"⟩ jdk_68_method_11_code 2 none).before args0 about1 = true := code_word (m := ⟨30, 5⟩) (meth := k30m5) (c := k30c5) (by decide +kernel) rfl rfl rfl (by decide +kernel)
theorem w_c76 : (Jvm.Cond.code ⟨"java/lang/StringUTF16", "newBytesFor", "(I)[B"⟩ jdk_52_method_2_code 1 (some (.array .byte))).before args0 about1 = true := code_word (m := ⟨37, 1⟩) (meth := k37m1) (c := k37c1) (by decide +kernel) rfl rfl rfl (by decide +kernel)
theorem w_c77 : (Jvm.Cond.code ⟨"java/lang/StringUTF16", "newBytesLength", "(I)I"⟩ jdk_52_method_3_code 1 (some .int)).before args0 about1 = true := code_word (m := ⟨37, 2⟩) (meth := k37m2) (c := k37c2) (by decide +kernel) rfl rfl rfl (by decide +kernel)
theorem w_c78 : (Jvm.Cond.code ⟨"java/lang/StringLatin1", "inflate", "([BI[BII)V"⟩ jdk_43_method_50_code 5 none).before args0 about1 = true := code_word (m := ⟨17, 4⟩) (meth := k17m4) (c := k17c4) (by decide +kernel) rfl rfl rfl (by decide +kernel)
theorem w_c79 : (Jvm.Cond.code ⟨"java/lang/StringUTF16", "inflate", "([BI[BII)V"⟩ jdk_52_method_86_code 6 none).before args0 about1 = true := code_word (m := ⟨37, 11⟩) (meth := k37m11) (c := k37c11) (by decide +kernel) rfl rfl rfl (by decide +kernel)
theorem w_c80 : (Jvm.Cond.code ⟨"java/lang/StringUTF16", "checkBoundsOffCount", "(II[B)V"⟩ jdk_52_method_94_code 3 none).before args0 about1 = true := code_word (m := ⟨37, 14⟩) (meth := k37m14) (c := k37c14) (by decide +kernel) rfl rfl rfl (by decide +kernel)
theorem w_c81 : (Jvm.Cond.code ⟨"java/lang/StringUTF16", "length", "([B)I"⟩ jdk_52_method_6_code 1 (some .int)).before args0 about1 = true := code_word (m := ⟨37, 5⟩) (meth := k37m5) (c := k37c5) (by decide +kernel) rfl rfl rfl (by decide +kernel)
theorem w_c82 : (Jvm.Cond.code ⟨"java/lang/String", "checkBoundsOffCount", "(III)I"⟩ jdk_42_method_157_code 3 (some .int)).before args0 about1 = true := code_word (m := ⟨16, 13⟩) (meth := k16m13) (c := k16c13) (by decide +kernel) rfl rfl rfl (by decide +kernel)
theorem w_c83 : (Jvm.Cond.code ⟨"jdk/internal/util/Preconditions", "checkFromIndexSize", "(IIILjava/util/function/BiFunction;)I"⟩ jdk_41_method_13_code 4 (some .int)).before args0 about1 = true := code_word (m := ⟨36, 3⟩) (meth := k36m3) (c := k36c3) (by decide +kernel) rfl rfl rfl (by decide +kernel)
theorem w_c84 : (Jvm.Cond.code ⟨"java/util/ImmutableCollections$ListN", "size", "()I"⟩ jdk_45_method_3_code 1 (some .int)).before args0 about1 = true := code_word (m := ⟨25, 0⟩) (meth := k25m0) (c := k25c0) (by decide +kernel) rfl rfl rfl (by decide +kernel)
theorem w_c85 : (Jvm.Cond.code ⟨"java/lang/StringUTF16", "putCharsAt", "([BICCCC)I"⟩ jdk_52_method_81_code 7 (some .int)).before args0 about1 = true := code_word (m := ⟨37, 8⟩) (meth := k37m8) (c := k37c8) (by decide +kernel) rfl rfl rfl (by decide +kernel)
theorem w_c86 : (Jvm.Cond.code ⟨"java/lang/StringUTF16", "checkBoundsBeginEnd", "(II[B)V"⟩ jdk_52_method_93_code 3 none).before args0 about1 = true := code_word (m := ⟨37, 13⟩) (meth := k37m13) (c := k37c13) (by decide +kernel) rfl rfl rfl (by decide +kernel)
theorem w_c87 : (Jvm.Cond.code ⟨"java/lang/String", "checkBoundsBeginEnd", "(III)V"⟩ jdk_42_method_158_code 3 none).before args0 about1 = true := code_word (m := ⟨16, 14⟩) (meth := k16m14) (c := k16c14) (by decide +kernel) rfl rfl rfl (by decide +kernel)
theorem w_c88 : (Jvm.Cond.code ⟨"jdk/internal/util/Preconditions", "checkFromToIndex", "(IIILjava/util/function/BiFunction;)I"⟩ jdk_41_method_12_code 4 (some .int)).before args0 about1 = true := code_word (m := ⟨36, 2⟩) (meth := k36m2) (c := k36c2) (by decide +kernel) rfl rfl rfl (by decide +kernel)
theorem w_c89 : (Jvm.Cond.code ⟨"java/lang/StringUTF16", "charAt", "([BI)C"⟩ jdk_52_method_83_code 2 (some .char)).before args0 about1 = true := code_word (m := ⟨37, 10⟩) (meth := k37m10) (c := k37c10) (by decide +kernel) rfl rfl rfl (by decide +kernel)
theorem w_c90 : (Jvm.Cond.code ⟨"java/lang/StringUTF16", "checkIndex", "(I[B)V"⟩ jdk_52_method_91_code 2 none).before args0 about1 = true := code_word (m := ⟨37, 12⟩) (meth := k37m12) (c := k37c12) (by decide +kernel) rfl rfl rfl (by decide +kernel)
theorem w_c91 : (Jvm.Cond.code ⟨"java/lang/StringUTF16", "getChar", "([BI)C"⟩ jdk_52_method_5_code 2 (some .char)).before args0 about1 = true := code_word (m := ⟨37, 4⟩) (meth := k37m4) (c := k37c4) (by decide +kernel) rfl rfl rfl (by decide +kernel)
theorem w_c92 : (Jvm.Cond.code ⟨"java/lang/StringUTF16", "putCharsAt", "([BICCCCC)I"⟩ jdk_52_method_82_code 8 (some .int)).before args0 about1 = true := code_word (m := ⟨37, 9⟩) (meth := k37m9) (c := k37c9) (by decide +kernel) rfl rfl rfl (by decide +kernel)
theorem w_c93 : (Jvm.Cond.code ⟨"java/lang/StringUTF16", "putCharSB", "([BII)V"⟩ jdk_52_method_71_code 3 none).before args0 about1 = true := code_word (m := ⟨37, 7⟩) (meth := k37m7) (c := k37c7) (by decide +kernel) rfl rfl rfl (by decide +kernel)
theorem w_c94 : (Jvm.Cond.code ⟨"java/util/ImmutableCollections$List12", "<init>", "(Ljava/lang/Object;Ljava/lang/Object;)V"⟩ jdk_44_method_2_code 3 none).before args0 about1 = true := code_word (m := ⟨24, 1⟩) (meth := k24m1) (c := k24c1) (by decide +kernel) rfl rfl rfl (by decide +kernel)
def codes1 : List Jvm.Cond := [Jvm.Cond.code x code maxLocals ret, Jvm.Cond.code ⟨"java/util/ArrayList", "<init>", "()V"⟩ jdk_38_method_2_code 1 none, Jvm.Cond.code ⟨"java/util/AbstractList", "<init>", "()V"⟩ jdk_39_method_1_code 1 none, Jvm.Cond.code ⟨"java/util/AbstractCollection", "<init>", "()V"⟩ jdk_22_method_1_code 1 none, Jvm.Cond.code ⟨"java/lang/Object", "<init>", "()V"⟩ object_method_1_code 1 none, Jvm.Cond.code ⟨"java/lang/String", "valueOf", "(C)Ljava/lang/String;"⟩ jdk_42_method_139_code 1 (some (.object "java/lang/String")), Jvm.Cond.code ⟨"java/lang/StringLatin1", "canEncode", "(C)Z"⟩ jdk_43_method_3_code 1 (some .boolean), Jvm.Cond.code ⟨"java/lang/StringLatin1", "toBytes", "(C)[B"⟩ jdk_43_method_46_code 1 (some (.array .byte)), Jvm.Cond.code ⟨"java/lang/String", "<init>", "([BB)V"⟩ jdk_42_method_151_code 3 none, Jvm.Cond.code ⟨"java/util/ArrayList", "add", "(Ljava/lang/Object;)Z"⟩ jdk_38_method_25_code 2 (some .boolean), Jvm.Cond.code ⟨"java/util/ArrayList", "add", "(Ljava/lang/Object;[Ljava/lang/Object;I)V"⟩ jdk_38_method_24_code 4 none, Jvm.Cond.code ⟨"java/util/ArrayList", "grow", "()[Ljava/lang/Object;"⟩ jdk_38_method_7_code 1 (some (.array (.object "java/lang/Object"))), Jvm.Cond.code ⟨"java/util/ArrayList", "grow", "(I)[Ljava/lang/Object;"⟩ jdk_38_method_6_code 4 (some (.array (.object "java/lang/Object"))), Jvm.Cond.code ⟨"java/lang/Math", "max", "(II)I"⟩ jdk_29_method_65_code 2 (some .int), Jvm.Cond.code ⟨"com/example/gatewarden/gatewarden/model/Client", "<init>", "(Ljava/lang/String;Ljava/lang/String;Ljava/lang/String;Ljava/util/List;Z)V"⟩ prog_23_method_1_code 6 none, Jvm.Cond.code ⟨"java/lang/Record", "<init>", "()V"⟩ jdk_30_method_1_code 1 none, Jvm.Cond.code ⟨"java/util/List", "copyOf", "(Ljava/util/Collection;)Ljava/util/List;"⟩ jdk_40_method_48_code 1 (some (.object "java/util/List")), Jvm.Cond.code ⟨"java/util/ImmutableCollections", "listCopy", "(Ljava/util/Collection;)Ljava/util/List;"⟩ jdk_56_method_3_code 2 (some (.object "java/util/List")), Jvm.Cond.code ⟨"java/util/ArrayList", "isEmpty", "()Z"⟩ jdk_38_method_9_code 1 (some .boolean), Jvm.Cond.code ⟨"java/util/ArrayList", "toArray", "()[Ljava/lang/Object;"⟩ jdk_38_method_16_code 1 (some (.array (.object "java/lang/Object"))), Jvm.Cond.code ⟨"java/util/Arrays", "copyOf", "([Ljava/lang/Object;I)[Ljava/lang/Object;"⟩ jdk_65_method_119_code 2 (some (.array (.object "java/lang/Object"))), Jvm.Cond.code ⟨"java/util/Arrays", "copyOf", "([Ljava/lang/Object;ILjava/lang/Class;)[Ljava/lang/Object;"⟩ jdk_65_method_120_code 4 (some (.array (.object "java/lang/Object"))), Jvm.Cond.code ⟨"java/lang/Math", "min", "(II)I"⟩ jdk_29_method_69_code 2 (some .int), Jvm.Cond.code ⟨"java/util/List", "of", "([Ljava/lang/Object;)Ljava/util/List;"⟩ jdk_40_method_47_code 2 (some (.object "java/util/List")), Jvm.Cond.code ⟨"java/util/ImmutableCollections$List12", "<init>", "(Ljava/lang/Object;)V"⟩ jdk_44_method_1_code 2 none, Jvm.Cond.code ⟨"java/util/ImmutableCollections$AbstractImmutableList", "<init>", "()V"⟩ jdk_46_method_1_code 1 none, Jvm.Cond.code ⟨"java/util/ImmutableCollections$AbstractImmutableCollection", "<init>", "()V"⟩ jdk_47_method_1_code 1 none, Jvm.Cond.code ⟨"java/util/Objects", "requireNonNull", "(Ljava/lang/Object;)Ljava/lang/Object;"⟩ jdk_31_method_10_code 1 (some (.object "java/lang/Object")), Jvm.Cond.code ⟨"com/example/gatewarden/gatewarden/model/Client", "toString", "()Ljava/lang/String;"⟩ prog_23_method_3_code 1 (some (.object "java/lang/String")), Jvm.Cond.code ⟨"java/lang/StringBuilder", "<init>", "()V"⟩ jdk_67_method_1_code 1 none, Jvm.Cond.code ⟨"java/lang/AbstractStringBuilder", "<init>", "(I)V"⟩ jdk_68_method_2_code 2 none, Jvm.Cond.code ⟨"java/lang/StringBuilder", "append", "(Ljava/lang/String;)Ljava/lang/StringBuilder;"⟩ jdk_67_method_7_code 2 (some (.object "java/lang/StringBuilder")), Jvm.Cond.code ⟨"java/lang/AbstractStringBuilder", "append", "(Ljava/lang/String;)Ljava/lang/AbstractStringBuilder;"⟩ jdk_68_method_22_code 3 (some (.object "java/lang/AbstractStringBuilder")), Jvm.Cond.code ⟨"java/lang/String", "length", "()I"⟩ jdk_42_method_54_code 1 (some .int), Jvm.Cond.code ⟨"java/lang/String", "coder", "()B"⟩ jdk_42_method_152_code 1 (some .byte), Jvm.Cond.code ⟨"java/lang/AbstractStringBuilder", "ensureCapacityInternal", "(I)V"⟩ jdk_68_method_9_code 3 none, Jvm.Cond.code ⟨"java/lang/AbstractStringBuilder", "putStringAt", "(ILjava/lang/String;)V"⟩ jdk_68_method_73_code 3 none, Jvm.Cond.code ⟨"java/lang/AbstractStringBuilder", "inflateIfNeededFor", "(Ljava/lang/String;)V"⟩ jdk_68_method_71_code 2 none, Jvm.Cond.code ⟨"java/lang/String", "getBytes", "([BIB)V"⟩ jdk_42_method_147_code 4 none, Jvm.Cond.code ⟨"java/lang/AbstractStringBuilder", "newCapacity", "(I)I"⟩ jdk_68_method_10_code 6 (some .int), Jvm.Cond.code ⟨"jdk/internal/util/ArraysSupport", "newLength", "(III)I"⟩ jdk_48_method_27_code 4 (some .int), Jvm.Cond.code ⟨"java/util/Arrays", "copyOf", "([BI)[B"⟩ jdk_65_method_121_code 3 (some (.array .byte)), Jvm.Cond.code ⟨"java/lang/StringBuilder", "append", "(Ljava/lang/Object;)Ljava/lang/StringBuilder;"⟩ jdk_67_method_6_code 2 (some (.object "java/lang/StringBuilder")), Jvm.Cond.code ⟨"java/lang/String", "valueOf", "(Ljava/lang/Object;)Ljava/lang/String;"⟩ jdk_42_method_133_code 1 (some (.object "java/lang/String")), Jvm.Cond.code ⟨"java/util/AbstractCollection", "toString", "()Ljava/lang/String;"⟩ jdk_22_method_16_code 4 (some (.object "java/lang/String")), Jvm.Cond.code ⟨"java/util/ImmutableCollections$AbstractImmutableList", "iterator", "()Ljava/util/Iterator;"⟩ jdk_46_method_10_code 1 (some (.object "java/util/Iterator")), Jvm.Cond.code ⟨"java/util/ImmutableCollections$List12", "size", "()I"⟩ jdk_44_method_3_code 1 (some .int), Jvm.Cond.code ⟨"java/util/ImmutableCollections$ListItr", "<init>", "(Ljava/util/List;I)V"⟩ jdk_53_method_1_code 3 none, Jvm.Cond.code ⟨"java/util/ImmutableCollections$ListItr", "hasNext", "()Z"⟩ jdk_53_method_3_code 1 (some .boolean), Jvm.Cond.code ⟨"java/lang/StringBuilder", "append", "(C)Ljava/lang/StringBuilder;"⟩ jdk_67_method_14_code 2 (some (.object "java/lang/StringBuilder")), Jvm.Cond.code ⟨"java/lang/AbstractStringBuilder", "append", "(C)Ljava/lang/AbstractStringBuilder;"⟩ jdk_68_method_31_code 2 (some (.object "java/lang/AbstractStringBuilder")), Jvm.Cond.code ⟨"java/lang/AbstractStringBuilder", "isLatin1", "()Z"⟩ jdk_68_method_68_code 1 (some .boolean), Jvm.Cond.codeWith ⟨"java/util/ImmutableCollections$ListItr", "next", "()Ljava/lang/Object;"⟩ jdk_53_method_4_code 3 (some (.object "java/lang/Object")) [((0 : Nat), (24 : Nat), (25 : Nat), (30 : Nat))], Jvm.Cond.code ⟨"java/util/ImmutableCollections$List12", "get", "(I)Ljava/lang/Object;"⟩ jdk_44_method_5_code 2 (some (.object "java/lang/Object")), Jvm.Cond.code ⟨"java/lang/String", "toString", "()Ljava/lang/String;"⟩ jdk_42_method_126_code 1 (some (.object "java/lang/String")), Jvm.Cond.code ⟨"java/lang/StringBuilder", "toString", "()Ljava/lang/String;"⟩ jdk_67_method_42_code 1 (some (.object "java/lang/String")), Jvm.Cond.code ⟨"java/lang/String", "<init>", "(Ljava/lang/StringBuilder;)V"⟩ jdk_42_method_53_code 2 none, Jvm.Cond.code ⟨"java/lang/String", "<init>", "(Ljava/lang/AbstractStringBuilder;Ljava/lang/Void;)V"⟩ jdk_42_method_150_code 5 none, Jvm.Cond.code ⟨"java/lang/AbstractStringBuilder", "getValue", "()[B"⟩ jdk_68_method_64_code 1 (some (.array .byte)), Jvm.Cond.code ⟨"java/lang/StringBuilder", "length", "()I"⟩ jdk_67_method_93_code 1 (some .int), Jvm.Cond.code ⟨"java/lang/AbstractStringBuilder", "length", "()I"⟩ jdk_68_method_6_code 1 (some .int), Jvm.Cond.code ⟨"java/util/Arrays", "copyOfRange", "([BII)[B"⟩ jdk_65_method_132_code 3 (some (.array .byte)), Jvm.Cond.code ⟨"java/util/Arrays", "copyOfRangeByte", "([BII)[B"⟩ jdk_65_method_133_code 5 (some (.array .byte)), Jvm.Cond.code ⟨"java/util/Arrays", "checkLength", "(II)V"⟩ jdk_65_method_131_code 2 none, Jvm.Cond.code ⟨"java/lang/StringBuilder", "append", "(Z)Ljava/lang/StringBuilder;"⟩ jdk_67_method_13_code 2 (some (.object "java/lang/StringBuilder")), Jvm.Cond.code ⟨"java/lang/AbstractStringBuilder", "append", "(Z)Ljava/lang/AbstractStringBuilder;"⟩ jdk_68_method_30_code 4 (some (.object "java/lang/AbstractStringBuilder")), Jvm.Cond.code ⟨"java/lang/String", "charAt", "(I)C"⟩ jdk_42_method_56_code 2 (some .char), Jvm.Cond.code ⟨"java/lang/String", "isLatin1", "()Z"⟩ jdk_42_method_154_code 1 (some .boolean), Jvm.Cond.code ⟨"java/lang/StringLatin1", "charAt", "([BI)C"⟩ jdk_43_method_2_code 2 (some .char), Jvm.Cond.code ⟨"java/lang/String", "checkIndex", "(II)V"⟩ jdk_42_method_155_code 2 none, Jvm.Cond.code ⟨"jdk/internal/util/Preconditions", "checkIndex", "(IILjava/util/function/BiFunction;)I"⟩ jdk_41_method_11_code 3 (some .int), Jvm.Cond.code ⟨"com/example/gatewarden/gatewarden/model/ClientToStringPinLaw", "seg", "(Ljava/lang/String;ILjava/lang/String;)Z"⟩ method_3_code 3 (some .boolean), Jvm.Cond.code ⟨"com/example/gatewarden/gatewarden/model/ClientToStringPinLaw", "c", "(Ljava/lang/String;ILjava/lang/String;I)Z"⟩ method_2_code 4 (some .boolean), Jvm.Cond.code ⟨"java/lang/StringUTF16", "toBytes", "(C)[B"⟩ jdk_52_method_24_code 2 (some (.array .byte)), Jvm.Cond.code ⟨"java/lang/StringUTF16", "putChar", "([BII)V"⟩ jdk_52_method_4_code 3 none, Jvm.Cond.code ⟨"java/util/List", "of", "()Ljava/util/List;"⟩ jdk_40_method_36_code 0 (some (.object "java/util/List")), Jvm.Cond.code ⟨"java/lang/AbstractStringBuilder", "inflate", "()V"⟩ jdk_68_method_11_code 2 none, Jvm.Cond.code ⟨"java/lang/StringUTF16", "newBytesFor", "(I)[B"⟩ jdk_52_method_2_code 1 (some (.array .byte)), Jvm.Cond.code ⟨"java/lang/StringUTF16", "newBytesLength", "(I)I"⟩ jdk_52_method_3_code 1 (some .int), Jvm.Cond.code ⟨"java/lang/StringLatin1", "inflate", "([BI[BII)V"⟩ jdk_43_method_50_code 5 none, Jvm.Cond.code ⟨"java/lang/StringUTF16", "inflate", "([BI[BII)V"⟩ jdk_52_method_86_code 6 none, Jvm.Cond.code ⟨"java/lang/StringUTF16", "checkBoundsOffCount", "(II[B)V"⟩ jdk_52_method_94_code 3 none, Jvm.Cond.code ⟨"java/lang/StringUTF16", "length", "([B)I"⟩ jdk_52_method_6_code 1 (some .int), Jvm.Cond.code ⟨"java/lang/String", "checkBoundsOffCount", "(III)I"⟩ jdk_42_method_157_code 3 (some .int), Jvm.Cond.code ⟨"jdk/internal/util/Preconditions", "checkFromIndexSize", "(IIILjava/util/function/BiFunction;)I"⟩ jdk_41_method_13_code 4 (some .int), Jvm.Cond.code ⟨"java/util/ImmutableCollections$ListN", "size", "()I"⟩ jdk_45_method_3_code 1 (some .int), Jvm.Cond.code ⟨"java/lang/StringUTF16", "putCharsAt", "([BICCCC)I"⟩ jdk_52_method_81_code 7 (some .int), Jvm.Cond.code ⟨"java/lang/StringUTF16", "checkBoundsBeginEnd", "(II[B)V"⟩ jdk_52_method_93_code 3 none, Jvm.Cond.code ⟨"java/lang/String", "checkBoundsBeginEnd", "(III)V"⟩ jdk_42_method_158_code 3 none, Jvm.Cond.code ⟨"jdk/internal/util/Preconditions", "checkFromToIndex", "(IIILjava/util/function/BiFunction;)I"⟩ jdk_41_method_12_code 4 (some .int), Jvm.Cond.code ⟨"java/lang/StringUTF16", "charAt", "([BI)C"⟩ jdk_52_method_83_code 2 (some .char), Jvm.Cond.code ⟨"java/lang/StringUTF16", "checkIndex", "(I[B)V"⟩ jdk_52_method_91_code 2 none, Jvm.Cond.code ⟨"java/lang/StringUTF16", "getChar", "([BI)C"⟩ jdk_52_method_5_code 2 (some .char), Jvm.Cond.code ⟨"java/lang/StringUTF16", "putCharsAt", "([BICCCCC)I"⟩ jdk_52_method_82_code 8 (some .int), Jvm.Cond.code ⟨"java/lang/StringUTF16", "putCharSB", "([BII)V"⟩ jdk_52_method_71_code 3 none, Jvm.Cond.code ⟨"java/util/ImmutableCollections$List12", "<init>", "(Ljava/lang/Object;Ljava/lang/Object;)V"⟩ jdk_44_method_2_code 3 none]
theorem codes_eq : words1.filter isCode = codes1 := rfl
theorem codeWith_word {y : MethodName} {bytes : ByteArray} {mx : Nat} {rt : Option FieldType} {hs : List (Nat × Nat × Nat × Nat)} {a : Array Value} {s : State} {m : MethodId} {meth : Method} {c : Code} (h1 : s.methodNamed? y = some m) (h2 : s.vm.method? m = some meth) (h3 : meth.code = some c) (h4 : c.code = bytes)
    (h6 : c.exceptionTable.toList.map (fun h => (h.startPc, h.endPc, h.handlerPc, h.catchType)) = hs) (h5 : (c.maxLocals == mx && decide (c.maxStack ≤ mostOperands) && decide (meth.sig.returnType = rt) && !meth.locks && decide (parseMethodDescriptor y.desc = some meth.sig)) = true) : (Jvm.Cond.codeWith y bytes mx rt hs).before a s = true := by
  simp only [Bool.and_eq_true, beq_iff_eq, Bool.not_eq_true', decide_eq_true_eq] at h5
  obtain ⟨⟨⟨⟨g1, g3⟩, g4⟩, g5⟩, g6⟩ := h5
  subst h6
  simp [Cond.before, Cond.holds, Cond.value, h1, h2, h3, h4, g1, g3, g4, g5, g6]
theorem w_cw : (Jvm.Cond.codeWith ⟨"java/util/ImmutableCollections$ListItr", "next", "()Ljava/lang/Object;"⟩ jdk_53_method_4_code 3 (some (.object "java/lang/Object")) [((0 : Nat), (24 : Nat), (25 : Nat), (30 : Nat))]).before args0 about1 = true := codeWith_word (m := ⟨35, 2⟩) (meth := k35m2) (c := k35c2) (by decide +kernel) rfl rfl rfl rfl (by decide +kernel)
theorem w_codes : ∀ c ∈ words1.filter isCode, c.before args0 about1 = true := by
  rw [codes_eq]
  intro c hc
  simp only [codes1, List.mem_cons, List.not_mem_nil, or_false] at hc
  rcases hc with rfl | rfl | rfl | rfl | rfl | rfl | rfl | rfl | rfl | rfl | rfl | rfl | rfl | rfl | rfl | rfl | rfl | rfl | rfl | rfl | rfl | rfl | rfl | rfl | rfl | rfl | rfl | rfl | rfl | rfl | rfl | rfl | rfl | rfl | rfl | rfl | rfl | rfl | rfl | rfl | rfl | rfl | rfl | rfl | rfl | rfl | rfl | rfl | rfl | rfl | rfl | rfl | rfl | rfl | rfl | rfl | rfl | rfl | rfl | rfl | rfl | rfl | rfl | rfl | rfl | rfl | rfl | rfl | rfl | rfl | rfl | rfl | rfl | rfl | rfl | rfl | rfl | rfl | rfl | rfl | rfl | rfl | rfl | rfl | rfl | rfl | rfl | rfl | rfl | rfl | rfl | rfl | rfl | rfl | rfl | rfl
  · exact w_c0
  · exact w_c1
  · exact w_c2
  · exact w_c3
  · exact w_c4
  · exact w_c5
  · exact w_c6
  · exact w_c7
  · exact w_c8
  · exact w_c9
  · exact w_c10
  · exact w_c11
  · exact w_c12
  · exact w_c13
  · exact w_c14
  · exact w_c15
  · exact w_c16
  · exact w_c17
  · exact w_c18
  · exact w_c19
  · exact w_c20
  · exact w_c21
  · exact w_c22
  · exact w_c23
  · exact w_c24
  · exact w_c25
  · exact w_c26
  · exact w_c27
  · exact w_c28
  · exact w_c29
  · exact w_c30
  · exact w_c31
  · exact w_c32
  · exact w_c33
  · exact w_c34
  · exact w_c35
  · exact w_c36
  · exact w_c37
  · exact w_c38
  · exact w_c39
  · exact w_c40
  · exact w_c41
  · exact w_c42
  · exact w_c43
  · exact w_c44
  · exact w_c45
  · exact w_c46
  · exact w_c47
  · exact w_c48
  · exact w_c49
  · exact w_c50
  · exact w_c51
  · exact w_cw
  · exact w_c52
  · exact w_c53
  · exact w_c54
  · exact w_c55
  · exact w_c56
  · exact w_c57
  · exact w_c58
  · exact w_c59
  · exact w_c60
  · exact w_c61
  · exact w_c62
  · exact w_c63
  · exact w_c64
  · exact w_c65
  · exact w_c66
  · exact w_c67
  · exact w_c68
  · exact w_c69
  · exact w_c70
  · exact w_c71
  · exact w_c72
  · exact w_c73
  · exact w_c74
  · exact w_c75
  · exact w_c76
  · exact w_c77
  · exact w_c78
  · exact w_c79
  · exact w_c80
  · exact w_c81
  · exact w_c82
  · exact w_c83
  · exact w_c84
  · exact w_c85
  · exact w_c86
  · exact w_c87
  · exact w_c88
  · exact w_c89
  · exact w_c90
  · exact w_c91
  · exact w_c92
  · exact w_c93
  · exact w_c94
theorem w_t1 : (words1.take 24).all (fun c => isCode c || c.before args0 about1) = true := by decide +kernel
theorem w_t2 : ((words1.drop 24).take 24).all (fun c => isCode c || c.before args0 about1) = true := by decide +kernel
theorem w_t3 : (((words1.drop 24).drop 24).take 24).all (fun c => isCode c || c.before args0 about1) = true := by decide +kernel
theorem w_t4 : ((((words1.drop 24).drop 24).drop 24).take 24).all (fun c => isCode c || c.before args0 about1) = true := by decide +kernel
theorem w_t5 : (((((words1.drop 24).drop 24).drop 24).drop 24).take 24).all (fun c => isCode c || c.before args0 about1) = true := by decide +kernel
theorem w_t6 : ((((((words1.drop 24).drop 24).drop 24).drop 24).drop 24).take 24).all (fun c => isCode c || c.before args0 about1) = true := by decide +kernel
theorem w_t7 : (((((((words1.drop 24).drop 24).drop 24).drop 24).drop 24).drop 24).take 24).all (fun c => isCode c || c.before args0 about1) = true := by decide +kernel
theorem w_t8 : ((((((((words1.drop 24).drop 24).drop 24).drop 24).drop 24).drop 24).drop 24).take 24).all (fun c => isCode c || c.before args0 about1) = true := by decide +kernel
theorem w_t9 : (((((((((words1.drop 24).drop 24).drop 24).drop 24).drop 24).drop 24).drop 24).drop 24).take 24).all (fun c => isCode c || c.before args0 about1) = true := by decide +kernel
theorem w_t10 : ((((((((((words1.drop 24).drop 24).drop 24).drop 24).drop 24).drop 24).drop 24).drop 24).drop 24).take 24).all (fun c => isCode c || c.before args0 about1) = true := by decide +kernel
theorem w_t11 : (((((((((((words1.drop 24).drop 24).drop 24).drop 24).drop 24).drop 24).drop 24).drop 24).drop 24).drop 24).take 24).all (fun c => isCode c || c.before args0 about1) = true := by decide +kernel
theorem w_t12 : ((((((((((((words1.drop 24).drop 24).drop 24).drop 24).drop 24).drop 24).drop 24).drop 24).drop 24).drop 24).drop 24).take 24).all (fun c => isCode c || c.before args0 about1) = true := by decide +kernel
theorem w_t13 : (((((((((((((words1.drop 24).drop 24).drop 24).drop 24).drop 24).drop 24).drop 24).drop 24).drop 24).drop 24).drop 24).drop 24).take 24).all (fun c => isCode c || c.before args0 about1) = true := by decide +kernel
theorem w_t14 : ((((((((((((((words1.drop 24).drop 24).drop 24).drop 24).drop 24).drop 24).drop 24).drop 24).drop 24).drop 24).drop 24).drop 24).drop 24).take 24).all (fun c => isCode c || c.before args0 about1) = true := by decide +kernel
theorem w_t15 : (((((((((((((((words1.drop 24).drop 24).drop 24).drop 24).drop 24).drop 24).drop 24).drop 24).drop 24).drop 24).drop 24).drop 24).drop 24).drop 24).take 24).all (fun c => isCode c || c.before args0 about1) = true := by decide +kernel
theorem w_t16 : ((((((((((((((((words1.drop 24).drop 24).drop 24).drop 24).drop 24).drop 24).drop 24).drop 24).drop 24).drop 24).drop 24).drop 24).drop 24).drop 24).drop 24).take 24).all (fun c => isCode c || c.before args0 about1) = true := by decide +kernel
theorem w_t17 : (((((((((((((((((words1.drop 24).drop 24).drop 24).drop 24).drop 24).drop 24).drop 24).drop 24).drop 24).drop 24).drop 24).drop 24).drop 24).drop 24).drop 24).drop 24).take 24).all (fun c => isCode c || c.before args0 about1) = true := by decide +kernel
theorem w_t18 : ((((((((((((((((((words1.drop 24).drop 24).drop 24).drop 24).drop 24).drop 24).drop 24).drop 24).drop 24).drop 24).drop 24).drop 24).drop 24).drop 24).drop 24).drop 24).drop 24).take 24).all (fun c => isCode c || c.before args0 about1) = true := by decide +kernel
theorem w_t19 : (((((((((((((((((((words1.drop 24).drop 24).drop 24).drop 24).drop 24).drop 24).drop 24).drop 24).drop 24).drop 24).drop 24).drop 24).drop 24).drop 24).drop 24).drop 24).drop 24).drop 24).take 24).all (fun c => isCode c || c.before args0 about1) = true := by decide +kernel
theorem w_t20 : ((((((((((((((((((((words1.drop 24).drop 24).drop 24).drop 24).drop 24).drop 24).drop 24).drop 24).drop 24).drop 24).drop 24).drop 24).drop 24).drop 24).drop 24).drop 24).drop 24).drop 24).drop 24).take 24).all (fun c => isCode c || c.before args0 about1) = true := by decide +kernel
theorem w_t21 : (((((((((((((((((((((words1.drop 24).drop 24).drop 24).drop 24).drop 24).drop 24).drop 24).drop 24).drop 24).drop 24).drop 24).drop 24).drop 24).drop 24).drop 24).drop 24).drop 24).drop 24).drop 24).drop 24).take 24).all (fun c => isCode c || c.before args0 about1) = true := by decide +kernel
theorem w_t22 : ((((((((((((((((((((((words1.drop 24).drop 24).drop 24).drop 24).drop 24).drop 24).drop 24).drop 24).drop 24).drop 24).drop 24).drop 24).drop 24).drop 24).drop 24).drop 24).drop 24).drop 24).drop 24).drop 24).drop 24).take 24).all (fun c => isCode c || c.before args0 about1) = true := by decide +kernel
theorem w_t23 : ((((((((((((((((((((((words1.drop 24).drop 24).drop 24).drop 24).drop 24).drop 24).drop 24).drop 24).drop 24).drop 24).drop 24).drop 24).drop 24).drop 24).drop 24).drop 24).drop 24).drop 24).drop 24).drop 24).drop 24).drop 24).all (fun c => isCode c || c.before args0 about1) = true := by decide +kernel
theorem w_tables : (allAtoms (Jvm.Cond.code x code maxLocals ret :: tables_1)).before args0 about1 = true := by
  rw [allAtoms_all]
  show words1.all (fun c => c.before args0 about1) = true
  refine all_split ?_ w_codes
  rw [← List.take_append_drop 24 words1, List.all_append, w_t1, ← List.take_append_drop 24 (words1.drop 24), List.all_append, w_t2, ← List.take_append_drop 24 ((words1.drop 24).drop 24), List.all_append, w_t3, ← List.take_append_drop 24 (((words1.drop 24).drop 24).drop 24), List.all_append, w_t4, ← List.take_append_drop 24 ((((words1.drop 24).drop 24).drop 24).drop 24), List.all_append, w_t5, ← List.take_append_drop 24 (((((words1.drop 24).drop 24).drop 24).drop 24).drop 24), List.all_append, w_t6, ← List.take_append_drop 24 ((((((words1.drop 24).drop 24).drop 24).drop 24).drop 24).drop 24), List.all_append, w_t7, ← List.take_append_drop 24 (((((((words1.drop 24).drop 24).drop 24).drop 24).drop 24).drop 24).drop 24), List.all_append, w_t8, ← List.take_append_drop 24 ((((((((words1.drop 24).drop 24).drop 24).drop 24).drop 24).drop 24).drop 24).drop 24), List.all_append, w_t9, ← List.take_append_drop 24 (((((((((words1.drop 24).drop 24).drop 24).drop 24).drop 24).drop 24).drop 24).drop 24).drop 24), List.all_append, w_t10, ← List.take_append_drop 24 ((((((((((words1.drop 24).drop 24).drop 24).drop 24).drop 24).drop 24).drop 24).drop 24).drop 24).drop 24), List.all_append, w_t11, ← List.take_append_drop 24 (((((((((((words1.drop 24).drop 24).drop 24).drop 24).drop 24).drop 24).drop 24).drop 24).drop 24).drop 24).drop 24), List.all_append, w_t12, ← List.take_append_drop 24 ((((((((((((words1.drop 24).drop 24).drop 24).drop 24).drop 24).drop 24).drop 24).drop 24).drop 24).drop 24).drop 24).drop 24), List.all_append, w_t13, ← List.take_append_drop 24 (((((((((((((words1.drop 24).drop 24).drop 24).drop 24).drop 24).drop 24).drop 24).drop 24).drop 24).drop 24).drop 24).drop 24).drop 24), List.all_append, w_t14, ← List.take_append_drop 24 ((((((((((((((words1.drop 24).drop 24).drop 24).drop 24).drop 24).drop 24).drop 24).drop 24).drop 24).drop 24).drop 24).drop 24).drop 24).drop 24), List.all_append, w_t15, ← List.take_append_drop 24 (((((((((((((((words1.drop 24).drop 24).drop 24).drop 24).drop 24).drop 24).drop 24).drop 24).drop 24).drop 24).drop 24).drop 24).drop 24).drop 24).drop 24), List.all_append, w_t16, ← List.take_append_drop 24 ((((((((((((((((words1.drop 24).drop 24).drop 24).drop 24).drop 24).drop 24).drop 24).drop 24).drop 24).drop 24).drop 24).drop 24).drop 24).drop 24).drop 24).drop 24), List.all_append, w_t17, ← List.take_append_drop 24 (((((((((((((((((words1.drop 24).drop 24).drop 24).drop 24).drop 24).drop 24).drop 24).drop 24).drop 24).drop 24).drop 24).drop 24).drop 24).drop 24).drop 24).drop 24).drop 24), List.all_append, w_t18, ← List.take_append_drop 24 ((((((((((((((((((words1.drop 24).drop 24).drop 24).drop 24).drop 24).drop 24).drop 24).drop 24).drop 24).drop 24).drop 24).drop 24).drop 24).drop 24).drop 24).drop 24).drop 24).drop 24), List.all_append, w_t19, ← List.take_append_drop 24 (((((((((((((((((((words1.drop 24).drop 24).drop 24).drop 24).drop 24).drop 24).drop 24).drop 24).drop 24).drop 24).drop 24).drop 24).drop 24).drop 24).drop 24).drop 24).drop 24).drop 24).drop 24), List.all_append, w_t20, ← List.take_append_drop 24 ((((((((((((((((((((words1.drop 24).drop 24).drop 24).drop 24).drop 24).drop 24).drop 24).drop 24).drop 24).drop 24).drop 24).drop 24).drop 24).drop 24).drop 24).drop 24).drop 24).drop 24).drop 24).drop 24), List.all_append, w_t21, ← List.take_append_drop 24 (((((((((((((((((((((words1.drop 24).drop 24).drop 24).drop 24).drop 24).drop 24).drop 24).drop 24).drop 24).drop 24).drop 24).drop 24).drop 24).drop 24).drop 24).drop 24).drop 24).drop 24).drop 24).drop 24).drop 24), List.all_append, w_t22, w_t23]
  rfl
theorem w_rest : rest_1_c.before args0 about1 = true := by decide +kernel
theorem w_case : (Jvm.Cond.and given_1 narrow_1).before args0 about1 = true := by decide +kernel
theorem w_consts : constsHeld consts_1 about1 := Jvm.Lit.constsHeldB_iff.mp (by decide +kernel)
theorem w_applies : (headSpec (Jvm.Cond.code x code maxLocals ret :: tables_1) room_1).applies x e0.platform about1 = true :=
  (Spec.applies_iff w_frames).mpr ⟨w_running, w_runnable, w_alone, w_named, w_hears, w_ripe, w_room, w_tables⟩
theorem atStart : AtStart classFile x code maxLocals ret World_1 tables_1 room_1 Calls_1 rest_1 Pre_1 launch0 p0 e0 about1 theMethod args0 below0 :=
  ⟨lists_1, trivial, launch0.admits_env _ _ _, launch0.least_env, fairChoices_fair.cas, fairChoices_fair.clock, w_frames, w_args, w_heap, w_applies, ⟨⟨43, k43, 5, by decide +kernel, rfl, rfl, _, rfl, rfl⟩, ⟨w_consts, trivial⟩⟩, w_rest, w_case⟩
end start1
theorem witness_1 : WitnessClaimed_1 := ⟨start1.p0, start1.e0, start1.about1, start1.theMethod, start1.args0, start1.below0, start1.atStart⟩
end Jvm.Pilot.@@N@@
