import JvmDerived
import JvmDerived.Pilot.@@N@@Statement
import JvmDerived.Pilot.@@N@@Code
set_option linter.unusedVariables false
set_option linter.unusedSimpArgs false

namespace Jvm.OwnW
open Sem ClassFile Op Lib Jvm.Stand Jvm.Free Jvm.LawKit Jvm.RoadKit
/-- the instruction i stands at pc, n bytes long; the next one stands at nx -/
def Ins (code : ByteArray) (pc : Nat) (i : Instr) (n nx : Nat) : Prop := decode code pc = .ok (i, n) ∧ pc + n = nx
/-- a jump by o from pc leads to t -/
def Jmp (pc : Nat) (o : Int) (t : Nat) : Prop := 0 ≤ (pc : Int) + o ∧ ((pc : Int) + o).toNat = t
instance {pc : Nat} {o : Int} {t : Nat} : Decidable (Jmp pc o t) := inferInstanceAs (Decidable (_ ∧ _))
/-- what is fixed through a body's walk -/
def Ctx (p : Program) (s : State) (m : MethodId) (meth : Method) (c : Code) (Z : State) (own nm : String) (code : ByteArray) (ml : Nat) (ret : Option FieldType) : Prop :=
  p.tables.exec = Jvm.exec ∧ Z.Warmed39 s.vm ∧ c.code = code ∧ c.maxLocals = ml ∧ s.vm.findClass own = some m.cls ∧ meth.sig.returnType = ret ∧ meth.locks = false ∧ meth.name = nm ∧ ThS Z s.heap
/-- what is carried unseen: the tables since the start; the constants that are held; D: arrays and Strings of our own, which no constant names -/
def Hid (w : Nat) (Z : State) (EL : List (String × Nat)) (D : List Addr) (s : State) (vm0 : Vm) (h : Heap) : Prop :=
  (if w = 0 then vm0 = s.vm else ∃ k0, s.Since vm0 k0 ∧ k0 ≤ h.size) ∧ (∃ a0, EW Z a0 EL) ∧ CHr Z EL s.vm s.heap vm0 h ∧ ∀ x ∈ D, x < h.size ∧ Safe Z EL vm0 h x
def En (w : Nat) (s : State) (o : Outcome) (t : State) (L : List Loc) (k n : Nat) : Prop := if w = 0 then FrameEnd s o t L k n else ReturnedEndW s o t L k n
/-- how a body ends -/
def Done (w : Nat) (Z : State) (EL : List (String × Nat)) (n0 : Nat) (R : Room) (Q : Option Value → Heap → List Addr → Prop) (s : State) (o : Outcome) (t : State) : Prop :=
  ∃ v L D', o = .returned v ∧ Q v t.heap D' ∧ Old Z n0 t.heap ∧ Fr n0 L ∧ (CHr Z EL s.vm s.heap t.vm t.heap ∧ ∀ x ∈ D', x < t.heap.size ∧ Safe Z EL t.vm t.heap x) ∧ En w s o t L R.cells R.slots
/-- what a stack trace asks -/
def Kn (w : Nat) (Z : State) (below : List Frame) : Prop := w = 2 → Z.vm.MethodsKnown ∧ Z.vm.FramesKnown below
/-- from pc, with these locals, this stack and this heap, the body comes to an end that Q allows -/
def Runs (w : Nat) (l : Launch) (Z : State) (EL : List (String × Nat)) (n0 : Nat) (own nm : String) (code : ByteArray) (ml : Nat) (ret : Option FieldType) (R : Room) (Q : Option Value → Heap → List Addr → Prop) (D : List Addr) (h : Heap) (kc ks pc : Nat) (ls : Array Slot) (st : List Value) : Prop :=
  ∀ (p : Program) (e : Env) (s : State) (vm0 : Vm) (m : MethodId) (args : Array Value) (below : List Frame) (meth : Method) (c : Code) (T : State) (locs : List Loc),
    Ctx p (s.setVm vm0) m meth c Z own nm code ml ret → Stand p l e R (s.setVm vm0) m args below meth c T locs kc ks → T.heap = h → Fr n0 locs → Old Z n0 h → Hid w Z EL D s vm0 h → Kn w Z below →
    ∃ s₂ o, Steps p.tables e below (T.setTop (mkF m pc ls st)) s₂ ∧ s₂.status = .running ∧ Ended s₂ below o ∧ Done w Z EL n0 R Q s o s₂
/-- a method's contract -/
def Con (w : Nat) (l : Launch) (Z : State) (EL : List (String × Nat)) (n0 : Nat) (y : MethodName) (code : ByteArray) (ml : Nat) (ret : Option FieldType) (R : Room) (as' : Array Value) (D : List Addr) (h : Heap) (Q : Option Value → Heap → List Addr → Prop) : Prop :=
  ∀ ws : List Jvm.Cond, MetFree l y (head1 (Jvm.Cond.code y code ml ret :: ws) R) (fun a U => a = as' ∧ Z.Warmed39 U.vm ∧ U.heap = h ∧ Old Z n0 h ∧ (∃ a0, EW Z a0 EL) ∧ CHv Z EL U.vm h ∧ ∀ x ∈ D, x < h.size ∧ Safe Z EL U.vm h x) (fun _ _ bl _ _ => Kn w Z bl) (fun _ U o U' => Done w Z EL n0 R Q U o U')
section W
variable {w : Nat} {l : Launch} {Z : State} {EL : List (String × Nat)} {n0 : Nat} {own nm : String} {code : ByteArray} {ml : Nat} {ret : Option FieldType} {R : Room} {Q : Option Value → Heap → List Addr → Prop} {D : List Addr} {h : Heap} {kc ks pc pc' : Nat} {ls ls' : Array Slot} {st st' rest : List Value} {a0 : Array Value}
theorem Con.of_runs {y : MethodName} {as' : Array Value} (hp : plainFor y = true) (he : ∀ m, entryFrame m as' ml = mkF m 0 ls []) (K : Runs w l Z EL n0 y.cls y.name code ml ret R Q D h 0 0 0 ls []) : Con w l Z EL n0 y code ml ret R as' D h Q := by
  intro ws
  refine MetFree.of_bodySF hp hisR ?_
  intro p e s m args below meth c s₁ Bd hml0 hP hK
  obtain ⟨rfl, hZ, hh, hO, hE, hC, hD⟩ := hP
  have hnm := (name_of_methodNamed Bd.named Bd.method).1
  have hown : s.vm.findClass y.cls = some m.cls := findClass_of_methodNamed Bd.named
  have X0 : Stand p l e R s m args below meth c s₁ [] 0 0 := Stand.of_body Bd
  have e0 : s₁.heap = h := by rw [← hh, Bd.state]; rfl
  obtain ⟨s₂, o, S, r1, r2, r3⟩ := K p e s s.vm m args below meth c s₁ [] ⟨Bd.exec, hZ, Bd.bytes, hml0, hown, Bd.returns, Bd.notSynchronized, hnm, by show ThS Z s.heap; rw [hh]; exact ThS.start.ext hO.2⟩ X0 e0 (Fr.nil n0) hO
    ⟨by split; rfl; exact ⟨0, (State.WarmedH.refl s).since 0, Nat.zero_le _⟩, hE, by rw [← hh] at hC ⊢; exact CHr.refl hC, hD⟩ hK
  exact ⟨s₂, o, castTop (he m) S, r1, r2, r3⟩
theorem Runs.plain (K : Runs w l Z EL n0 own nm code ml ret R Q D h kc ks pc' ls' st')
    (f : ∀ (p : Program) (e : Env) (m : MethodId) (below : List Frame) (c : Code) (T target : State), p.tables.exec = Jvm.exec → c.code = code → At T m c below → Steps p.tables e below (T.setTop (mkF m pc' ls' st')) target → Steps p.tables e below (T.setTop (mkF m pc ls st)) target) : Runs w l Z EL n0 own nm code ml ret R Q D h kc ks pc ls st := by
  intro p e s vm0 m args below meth c T locs C X eT N O H Kw
  obtain ⟨s₂, o, S, r⟩ := K p e s vm0 m args below meth c T locs C X eT N O H Kw
  exact ⟨s₂, o, f p e m below c T s₂ C.1 C.2.2.1 X.here S, r⟩
/-- a step whose law moves the tables alone -/
theorem Runs.warm (K : Runs w l Z EL n0 own nm code ml ret R Q D h kc ks pc' ls' st')
    (f : ∀ (p : Program) (e : Env) (s : State) (m : MethodId) (args : Array Value) (below : List Frame) (meth : Method) (c : Code) (T : State) (locs : List Loc), Ctx p s m meth c Z own nm code ml ret → Stand p l e R s m args below meth c T locs kc ks → T.heap = h → Old Z n0 h →
      ∃ T', Stand p l e R s m args below meth c T' locs kc ks ∧ T'.heap = h ∧ ∀ target, Steps p.tables e below (T'.setTop (mkF m pc' ls' st')) target → Steps p.tables e below (T.setTop (mkF m pc ls st)) target) : Runs w l Z EL n0 own nm code ml ret R Q D h kc ks pc ls st := by
  intro p e s vm0 m args below meth c T locs C X eT N O H Kw
  obtain ⟨T', X', e', S'⟩ := f p e _ m args below meth c T locs C X eT O
  obtain ⟨s₂, o, S, r⟩ := K p e s vm0 m args below meth c T' locs C X' e' N O H Kw
  exact ⟨s₂, o, S' _ S, r⟩
theorem Runs.old (K : Old Z n0 h → Runs w l Z EL n0 own nm code ml ret R Q D h kc ks pc ls st) : Runs w l Z EL n0 own nm code ml ret R Q D h kc ks pc ls st :=
  fun p e s vm0 m args below meth c T locs C X eT N O H Kw => K O p e s vm0 m args below meth c T locs C X eT N O H Kw
theorem Runs.weak {D1 : List Addr} (hs : ∀ x ∈ D1, x ∈ D) (K : Runs w l Z EL n0 own nm code ml ret R Q D1 h kc ks pc ls st) : Runs w l Z EL n0 own nm code ml ret R Q D h kc ks pc ls st :=
  fun p e s vm0 m args below meth c T locs C X eT N O H Kw => K p e s vm0 m args below meth c T locs C X eT N O ⟨H.1, H.2.1, H.2.2.1, fun x hx => H.2.2.2 x (hs x hx)⟩ Kw
/-- fewer cells, fewer slots made: at most more -/
theorem Runs.mono {kc' ks' : Nat} (h1 : kc ≤ kc') (h2 : ks ≤ ks') (K : Runs w l Z EL n0 own nm code ml ret R Q D h kc' ks' pc ls st) : Runs w l Z EL n0 own nm code ml ret R Q D h kc ks pc ls st :=
  fun p e s vm0 m args below meth c T locs C X eT N O H Kw => K p e s vm0 m args below meth c T locs C (X.mono h1 h2) eT N O H Kw

theorem Runs.iloadN {k : Fin 4} {v : Int32} (hd : Ins code pc (.iload_n k) 1 pc') (hl : ls[k.val]? = some (.val (.int v))) (K : Runs w l Z EL n0 own nm code ml ret R Q D h kc ks pc' ls (.int v :: st)) : Runs w l Z EL n0 own nm code ml ret R Q D h kc ks pc ls st := by
  obtain ⟨hd, rfl⟩ := hd
  exact K.plain fun p e m below c T t hx hb X S => XS.iloadN (g := mkF m pc ls st) X hx rfl (Jvm.hb hb hd) hl S
theorem Runs.iload {k : Nat} {v : Int32} (hd : Ins code pc (.iload k) 2 pc') (hl : ls[k]? = some (.val (.int v))) (K : Runs w l Z EL n0 own nm code ml ret R Q D h kc ks pc' ls (.int v :: st)) : Runs w l Z EL n0 own nm code ml ret R Q D h kc ks pc ls st := by
  obtain ⟨hd, rfl⟩ := hd
  exact K.plain fun p e m below c T t hx hb X S => XS.iload (g := mkF m pc ls st) X hx rfl (Jvm.hb hb hd) hl S
theorem Runs.istoreN {k : Fin 4} {x : Int32} (hd : Ins code pc (.istore_n k) 1 pc') (hl : storeLocals ls k.val (.int x) = some ls') (K : Runs w l Z EL n0 own nm code ml ret R Q D h kc ks pc' ls' rest) : Runs w l Z EL n0 own nm code ml ret R Q D h kc ks pc ls (.int x :: rest) := by
  obtain ⟨hd, rfl⟩ := hd
  exact K.plain fun p e m below c T t hx hb X S => XS.istoreN (g := mkF m pc ls (.int x :: rest)) X hx rfl (Jvm.hb hb hd) rfl hl S
theorem Runs.istore {k : Nat} {x : Int32} (hd : Ins code pc (.istore k) 2 pc') (hl : storeLocals ls k (.int x) = some ls') (K : Runs w l Z EL n0 own nm code ml ret R Q D h kc ks pc' ls' rest) : Runs w l Z EL n0 own nm code ml ret R Q D h kc ks pc ls (.int x :: rest) := by
  obtain ⟨hd, rfl⟩ := hd
  exact K.plain fun p e m below c T t hx hb X S => XS.istore (g := mkF m pc ls (.int x :: rest)) X hx rfl (Jvm.hb hb hd) rfl hl S
theorem Runs.aloadN {k : Fin 4} {v : Value} (hd : Ins code pc (.aload_n k) 1 pc') (hl : ls[k.val]? = some (.val v)) (hv : v.isRef = true) (K : Runs w l Z EL n0 own nm code ml ret R Q D h kc ks pc' ls (v :: st)) : Runs w l Z EL n0 own nm code ml ret R Q D h kc ks pc ls st := by
  obtain ⟨hd, rfl⟩ := hd
  exact K.plain fun p e m below c T t hx hb X S => XS.aloadN (g := mkF m pc ls st) X hx rfl (Jvm.hb hb hd) hl hv S
theorem Runs.aload {k : Nat} {v : Value} (hd : Ins code pc (.aload k) 2 pc') (hl : ls[k]? = some (.val v)) (hv : v.isRef = true) (K : Runs w l Z EL n0 own nm code ml ret R Q D h kc ks pc' ls (v :: st)) : Runs w l Z EL n0 own nm code ml ret R Q D h kc ks pc ls st := by
  obtain ⟨hd, rfl⟩ := hd
  exact K.plain fun p e m below c T t hx hb X S => XS.aload (g := mkF m pc ls st) X hx rfl (Jvm.hb hb hd) hl hv S
theorem Runs.astoreN {k : Fin 4} {x : Value} (hd : Ins code pc (.astore_n k) 1 pc') (hv : x.isRef = true) (hl : storeLocals ls k.val x = some ls') (K : Runs w l Z EL n0 own nm code ml ret R Q D h kc ks pc' ls' rest) : Runs w l Z EL n0 own nm code ml ret R Q D h kc ks pc ls (x :: rest) := by
  obtain ⟨hd, rfl⟩ := hd
  exact K.plain fun p e m below c T t hx hb X S => XS.astoreN (g := mkF m pc ls (x :: rest)) X hx rfl (Jvm.hb hb hd) rfl hv hl S
theorem Runs.astore {k : Nat} {x : Value} (hd : Ins code pc (.astore k) 2 pc') (hv : x.isRef = true) (hl : storeLocals ls k x = some ls') (K : Runs w l Z EL n0 own nm code ml ret R Q D h kc ks pc' ls' rest) : Runs w l Z EL n0 own nm code ml ret R Q D h kc ks pc ls (x :: rest) := by
  obtain ⟨hd, rfl⟩ := hd
  exact K.plain fun p e m below c T t hx hb X S => XS.astore (g := mkF m pc ls (x :: rest)) X hx rfl (Jvm.hb hb hd) rfl hv hl S
theorem Runs.iconst {i : Int} {v : Int32} (hd : Ins code pc (.iconst i) 1 pc') (hz : Int32.ofInt i = v) (K : Runs w l Z EL n0 own nm code ml ret R Q D h kc ks pc' ls (.int v :: st)) : Runs w l Z EL n0 own nm code ml ret R Q D h kc ks pc ls st := by
  obtain ⟨hd, rfl⟩ := hd
  subst hz
  exact K.plain fun p e m below c T t hx hb X S => XS.iconst (g := mkF m pc ls st) X hx rfl (Jvm.hb hb hd) S
theorem Runs.bipush {i : Int} {v : Int32} (hd : Ins code pc (.bipush i) 2 pc') (hz : (Int8.ofInt i).toInt32 = v) (K : Runs w l Z EL n0 own nm code ml ret R Q D h kc ks pc' ls (.int v :: st)) : Runs w l Z EL n0 own nm code ml ret R Q D h kc ks pc ls st := by
  obtain ⟨hd, rfl⟩ := hd
  subst hz
  exact K.plain fun p e m below c T t hx hb X S => XS.bipush (g := mkF m pc ls st) X hx rfl (Jvm.hb hb hd) S
theorem Runs.sipush {i : Int} {v : Int32} (hd : Ins code pc (.sipush i) 3 pc') (hz : (Int16.ofInt i).toInt32 = v) (K : Runs w l Z EL n0 own nm code ml ret R Q D h kc ks pc' ls (.int v :: st)) : Runs w l Z EL n0 own nm code ml ret R Q D h kc ks pc ls st := by
  obtain ⟨hd, rfl⟩ := hd
  subst hz
  exact K.plain fun p e m below c T t hx hb X S => XS.sipush (g := mkF m pc ls st) X hx rfl (Jvm.hb hb hd) S
theorem Runs.aconstNull  (hd : Ins code pc (.aconst_null) 1 pc')  (K : Runs w l Z EL n0 own nm code ml ret R Q D h kc ks pc' ls (.null :: st)) : Runs w l Z EL n0 own nm code ml ret R Q D h kc ks pc ls st := by
  obtain ⟨hd, rfl⟩ := hd
  exact K.plain fun p e m below c T t hx hb X S => XS.aconstNull (g := mkF m pc ls st) X hx rfl (Jvm.hb hb hd) S
theorem Runs.iadd {x y z : Int32} (hd : Ins code pc (.iadd) 1 pc') (hz : x + y = z) (K : Runs w l Z EL n0 own nm code ml ret R Q D h kc ks pc' ls (.int z :: rest)) : Runs w l Z EL n0 own nm code ml ret R Q D h kc ks pc ls (.int y :: .int x :: rest) := by
  obtain ⟨hd, rfl⟩ := hd
  subst hz
  exact K.plain fun p e m below c T t hx hb X S => XS.iadd (g := mkF m pc ls (.int y :: .int x :: rest)) X hx rfl (Jvm.hb hb hd) rfl S
theorem Runs.isub {x y z : Int32} (hd : Ins code pc (.isub) 1 pc') (hz : x - y = z) (K : Runs w l Z EL n0 own nm code ml ret R Q D h kc ks pc' ls (.int z :: rest)) : Runs w l Z EL n0 own nm code ml ret R Q D h kc ks pc ls (.int y :: .int x :: rest) := by
  obtain ⟨hd, rfl⟩ := hd
  subst hz
  exact K.plain fun p e m below c T t hx hb X S => XS.isub (g := mkF m pc ls (.int y :: .int x :: rest)) X hx rfl (Jvm.hb hb hd) rfl S
theorem Runs.iand {x y z : Int32} (hd : Ins code pc (.iand) 1 pc') (hz : x &&& y = z) (K : Runs w l Z EL n0 own nm code ml ret R Q D h kc ks pc' ls (.int z :: rest)) : Runs w l Z EL n0 own nm code ml ret R Q D h kc ks pc ls (.int y :: .int x :: rest) := by
  obtain ⟨hd, rfl⟩ := hd
  subst hz
  exact K.plain fun p e m below c T t hx hb X S => XS.iand (g := mkF m pc ls (.int y :: .int x :: rest)) X hx rfl (Jvm.hb hb hd) rfl S
theorem Runs.ior {x y z : Int32} (hd : Ins code pc (.ior) 1 pc') (hz : x ||| y = z) (K : Runs w l Z EL n0 own nm code ml ret R Q D h kc ks pc' ls (.int z :: rest)) : Runs w l Z EL n0 own nm code ml ret R Q D h kc ks pc ls (.int y :: .int x :: rest) := by
  obtain ⟨hd, rfl⟩ := hd
  subst hz
  exact K.plain fun p e m below c T t hx hb X S => XT.ior (g := mkF m pc ls (.int y :: .int x :: rest)) X hx rfl (Jvm.hb hb hd) rfl S
theorem Runs.ixor {x y z : Int32} (hd : Ins code pc (.ixor) 1 pc') (hz : x ^^^ y = z) (K : Runs w l Z EL n0 own nm code ml ret R Q D h kc ks pc' ls (.int z :: rest)) : Runs w l Z EL n0 own nm code ml ret R Q D h kc ks pc ls (.int y :: .int x :: rest) := by
  obtain ⟨hd, rfl⟩ := hd
  subst hz
  exact K.plain fun p e m below c T t hx hb X S => XT.ixor (g := mkF m pc ls (.int y :: .int x :: rest)) X hx rfl (Jvm.hb hb hd) rfl S
theorem Runs.ishl {x y z : Int32} (hd : Ins code pc (.ishl) 1 pc') (hz : x <<< (y &&& 31) = z) (K : Runs w l Z EL n0 own nm code ml ret R Q D h kc ks pc' ls (.int z :: rest)) : Runs w l Z EL n0 own nm code ml ret R Q D h kc ks pc ls (.int y :: .int x :: rest) := by
  obtain ⟨hd, rfl⟩ := hd
  subst hz
  exact K.plain fun p e m below c T t hx hb X S => XT.ishl (g := mkF m pc ls (.int y :: .int x :: rest)) X hx rfl (Jvm.hb hb hd) rfl S
theorem Runs.ishr {x y z : Int32} (hd : Ins code pc (.ishr) 1 pc') (hz : x >>> (y &&& 31) = z) (K : Runs w l Z EL n0 own nm code ml ret R Q D h kc ks pc' ls (.int z :: rest)) : Runs w l Z EL n0 own nm code ml ret R Q D h kc ks pc ls (.int y :: .int x :: rest) := by
  obtain ⟨hd, rfl⟩ := hd
  subst hz
  exact K.plain fun p e m below c T t hx hb X S => XT.ishr (g := mkF m pc ls (.int y :: .int x :: rest)) X hx rfl (Jvm.hb hb hd) rfl S
theorem Runs.iushr {x y z : Int32} (hd : Ins code pc (.iushr) 1 pc') (hz : XT.ushr x y = z) (K : Runs w l Z EL n0 own nm code ml ret R Q D h kc ks pc' ls (.int z :: rest)) : Runs w l Z EL n0 own nm code ml ret R Q D h kc ks pc ls (.int y :: .int x :: rest) := by
  obtain ⟨hd, rfl⟩ := hd
  subst hz
  exact K.plain fun p e m below c T t hx hb X S => XT.iushr (g := mkF m pc ls (.int y :: .int x :: rest)) X hx rfl (Jvm.hb hb hd) rfl S
theorem Runs.irem {x y z : Int32} (hd : Ins code pc (.irem) 1 pc') (hy : y ≠ 0) (hz : x % y = z) (K : Runs w l Z EL n0 own nm code ml ret R Q D h kc ks pc' ls (.int z :: rest)) : Runs w l Z EL n0 own nm code ml ret R Q D h kc ks pc ls (.int y :: .int x :: rest) := by
  obtain ⟨hd, rfl⟩ := hd
  subst hz
  exact K.plain fun p e m below c T t hx hb X S => XS.irem (g := mkF m pc ls (.int y :: .int x :: rest)) X hx rfl (Jvm.hb hb hd) rfl hy (by rw [show x - x / y * y = x % y from irem_eq_mod x y]; exact S)
theorem Runs.i2b {x : Int32} {z : Int32} (hd : Ins code pc (.i2b) 1 pc') (hz : x.toInt8.toInt32 = z) (K : Runs w l Z EL n0 own nm code ml ret R Q D h kc ks pc' ls (.int z :: rest)) : Runs w l Z EL n0 own nm code ml ret R Q D h kc ks pc ls (.int x :: rest) := by
  obtain ⟨hd, rfl⟩ := hd
  subst hz
  exact K.plain fun p e m below c T t hx hb X S => XT.i2b (g := mkF m pc ls (.int x :: rest)) X hx rfl (Jvm.hb hb hd) rfl S
theorem Runs.i2c {x : Int32} {z : Int32} (hd : Ins code pc (.i2c) 1 pc') (hz : x.toUInt32.toUInt16.toUInt32.toInt32 = z) (K : Runs w l Z EL n0 own nm code ml ret R Q D h kc ks pc' ls (.int z :: rest)) : Runs w l Z EL n0 own nm code ml ret R Q D h kc ks pc ls (.int x :: rest) := by
  obtain ⟨hd, rfl⟩ := hd
  subst hz
  exact K.plain fun p e m below c T t hx hb X S => XT.i2c (g := mkF m pc ls (.int x :: rest)) X hx rfl (Jvm.hb hb hd) rfl S
theorem Runs.iinc {k : Nat} {cst : Int} {x z : Int32} (hd : Ins code pc (.iinc k cst) 3 pc') (hl : ls[k]? = some (.val (.int x))) (hz : x + Int32.ofInt cst = z) (hl' : storeLocals ls k (.int z) = some ls') (K : Runs w l Z EL n0 own nm code ml ret R Q D h kc ks pc' ls' st) : Runs w l Z EL n0 own nm code ml ret R Q D h kc ks pc ls st := by
  obtain ⟨hd, rfl⟩ := hd
  subst hz
  exact K.plain fun p e m below c T t hx hb X S => XS.iinc (g := mkF m pc ls st) X hx rfl (Jvm.hb hb hd) hl hl' S
theorem Runs.dup {x : Value} (hd : Ins code pc (.dup) 1 pc') (hc : x.category = 1) (K : Runs w l Z EL n0 own nm code ml ret R Q D h kc ks pc' ls (x :: x :: rest)) : Runs w l Z EL n0 own nm code ml ret R Q D h kc ks pc ls (x :: rest) := by
  obtain ⟨hd, rfl⟩ := hd
  exact K.plain fun p e m below c T t hx hb X S => XS.dup (g := mkF m pc ls (x :: rest)) X hx rfl (Jvm.hb hb hd) rfl hc S
theorem Runs.pop {x : Value} (hd : Ins code pc (.pop) 1 pc') (hc : x.category = 1) (K : Runs w l Z EL n0 own nm code ml ret R Q D h kc ks pc' ls rest) : Runs w l Z EL n0 own nm code ml ret R Q D h kc ks pc ls (x :: rest) := by
  obtain ⟨hd, rfl⟩ := hd
  exact K.plain fun p e m below c T t hx hb X S => XT.pop (g := mkF m pc ls (x :: rest)) X hx rfl (Jvm.hb hb hd) rfl hc S
theorem Runs.goto  {o : Int} {t nx : Nat} (hd : Ins code pc (.goto o) 3 nx) (hj : Jmp pc o t)  (K : Runs w l Z EL n0 own nm code ml ret R Q D h kc ks t ls st) : Runs w l Z EL n0 own nm code ml ret R Q D h kc ks pc ls st :=
  K.plain fun p e m below c T tg hx hb X S => XS.goto (g := mkF m pc ls st) X hx rfl (pc0 := pc) rfl (Jvm.hb hb hd.1) hj.1 hj.2 S
theorem Runs.ifY {cd : ClassFile.Cond} {x : Int32} {o : Int} {t nx : Nat} (hd : Ins code pc (.ifCond cd o) 3 nx) (hj : Jmp pc o t) (hc : if_icmp.holds cd x 0 = true) (K : Runs w l Z EL n0 own nm code ml ret R Q D h kc ks t ls rest) : Runs w l Z EL n0 own nm code ml ret R Q D h kc ks pc ls (.int x :: rest) :=
  K.plain fun p e m below c T tg hx hb X S => XS.ifYes (g := mkF m pc ls (.int x :: rest)) X hx rfl (pc0 := pc) rfl (Jvm.hb hb hd.1) rfl ((if0 cd x).trans hc) hj.1 hj.2 S
theorem Runs.icY {cd : ClassFile.Cond} {x y : Int32} {o : Int} {t nx : Nat} (hd : Ins code pc (.if_icmp cd o) 3 nx) (hj : Jmp pc o t) (hc : if_icmp.holds cd x y = true) (K : Runs w l Z EL n0 own nm code ml ret R Q D h kc ks t ls rest) : Runs w l Z EL n0 own nm code ml ret R Q D h kc ks pc ls (.int y :: .int x :: rest) :=
  K.plain fun p e m below c T tg hx hb X S => XS.icmpYes (g := mkF m pc ls (.int y :: .int x :: rest)) X hx rfl (pc0 := pc) rfl (Jvm.hb hb hd.1) rfl hc hj.1 hj.2 S
theorem Runs.nnullY {b : Addr} {o : Int} {t nx : Nat} (hd : Ins code pc (.ifnonnull o) 3 nx) (hj : Jmp pc o t)  (K : Runs w l Z EL n0 own nm code ml ret R Q D h kc ks t ls rest) : Runs w l Z EL n0 own nm code ml ret R Q D h kc ks pc ls (.ref b :: rest) :=
  K.plain fun p e m below c T tg hx hb X S => XT.ifnonnullYes (g := mkF m pc ls (.ref b :: rest)) X hx rfl (pc0 := pc) rfl (Jvm.hb hb hd.1) rfl hj.1 hj.2 S
theorem Runs.acY {cd : ClassFile.ACond} {x y : Value} {o : Int} {t nx : Nat} (hd : Ins code pc (.if_acmp cd o) 3 nx) (hj : Jmp pc o t) (hx' : x.isRef = true) (hy' : y.isRef = true) (hc : XT.acmp cd x y = true) (K : Runs w l Z EL n0 own nm code ml ret R Q D h kc ks t ls rest) : Runs w l Z EL n0 own nm code ml ret R Q D h kc ks pc ls (y :: x :: rest) :=
  K.plain fun p e m below c T tg hx hb X S => XT.acmpYes (g := mkF m pc ls (y :: x :: rest)) X hx rfl (pc0 := pc) rfl (Jvm.hb hb hd.1) rfl hx' hy' hc hj.1 hj.2 S
theorem Runs.ifN {cd : ClassFile.Cond} {o : Int} {x : Int32} (hd : Ins code pc (.ifCond cd o) 3 pc') (hc : if_icmp.holds cd x 0 = false) (K : Runs w l Z EL n0 own nm code ml ret R Q D h kc ks pc' ls rest) : Runs w l Z EL n0 own nm code ml ret R Q D h kc ks pc ls (.int x :: rest) := by
  obtain ⟨hd, rfl⟩ := hd
  exact K.plain fun p e m below c T t hx hb X S => XS.ifNo (g := mkF m pc ls (.int x :: rest)) X hx rfl (Jvm.hb hb hd) rfl ((if0 cd x).trans hc) S
theorem Runs.icN {cd : ClassFile.Cond} {o : Int} {x y : Int32} (hd : Ins code pc (.if_icmp cd o) 3 pc') (hc : if_icmp.holds cd x y = false) (K : Runs w l Z EL n0 own nm code ml ret R Q D h kc ks pc' ls rest) : Runs w l Z EL n0 own nm code ml ret R Q D h kc ks pc ls (.int y :: .int x :: rest) := by
  obtain ⟨hd, rfl⟩ := hd
  exact K.plain fun p e m below c T t hx hb X S => XS.icmpNo (g := mkF m pc ls (.int y :: .int x :: rest)) X hx rfl (Jvm.hb hb hd) rfl hc S
theorem Runs.acN {cd : ClassFile.ACond} {o : Int} {x y : Value} (hd : Ins code pc (.if_acmp cd o) 3 pc') (hx' : x.isRef = true) (hy' : y.isRef = true) (hc : XT.acmp cd x y = false) (K : Runs w l Z EL n0 own nm code ml ret R Q D h kc ks pc' ls rest) : Runs w l Z EL n0 own nm code ml ret R Q D h kc ks pc ls (y :: x :: rest) := by
  obtain ⟨hd, rfl⟩ := hd
  exact K.plain fun p e m below c T t hx hb X S => XT.acmpNo (g := mkF m pc ls (y :: x :: rest)) X hx rfl (Jvm.hb hb hd) rfl hx' hy' hc S

/-! the returns -/
theorem Runs.leave {v : Option Value} (hv : ret = none → v = none)
    (f : ∀ (p : Program) (e : Env) (s : State) (m : MethodId) (args : Array Value) (below : List Frame) (meth : Method) (c : Code) (T : State) (locs : List Loc), Ctx p s m meth c Z own nm code ml ret → Stand p l e R s m args below meth c T locs kc ks → ∀ fs : List Frame,
      (∀ (f : JFrame) (acts : List Action), f.method = m → f.locked = none → f.entered = [] → (doReturn e (T.setTop f) acts v).1 = T.setFrames fs) → Steps p.tables e below (T.setTop (mkF m pc ls st)) (T.setFrames fs))
    (hc : kc ≤ R.cells) (hk : ks ≤ R.slots) (hQ : Q v h D) : Runs w l Z EL n0 own nm code ml ret R Q D h kc ks pc ls st := by
  intro p e s vm0 m args below meth c T locs C X eT N O H Kw
  have hlk : meth.locks = false := C.2.2.2.2.2.2.1
  have hr : meth.sig.returnType = ret := C.2.2.2.2.2.1
  obtain ⟨H1, ⟨a0, H2⟩, H3, H4⟩ := H
  have A := CHv.at X C.2.1 H2 H3.1
  have hs : ∀ x ∈ D, x < h.size ∧ Safe Z EL T.vm h x := fun x hx => ⟨(H4 x hx).1, A.safe (H4 x hx).1 (H4 x hx).2⟩
  have A' := H3.trans A
  subst eT
  by_cases w0 : w = 0
  · have e1 : vm0 = s.vm := by rw [if_pos w0] at H1; exact H1
    subst e1
    obtain ⟨fs, h1, h2, h3, h4, h5⟩ := X.leave (v := v) (fun q => hv (hr ▸ q)) hlk
    exact ⟨_, _, f p e _ m args below meth c T locs C X fs h1, h2, h3, v, locs, D, rfl, hQ, O, N, ⟨A', hs⟩, by unfold En; rw [if_pos w0]; exact ⟨⟨v, rfl⟩, h4, h5.mono hc hk⟩⟩
  · rw [if_neg w0] at H1
    obtain ⟨k0, hS, hk0⟩ := H1
    obtain ⟨fs, h1, h2, h3, ⟨g1, g2, g3, g4⟩⟩ := X.leaveW hS hk0 (v := v) (fun q => hv (hr ▸ q)) hlk
    exact ⟨_, _, f p e _ m args below meth c T locs C X fs h1, h2, h3, v, locs, D, rfl, hQ, O, N, ⟨A', hs⟩, by unfold En; rw [if_neg w0]; exact ⟨g1, g2, g3, g4.mono hc hk⟩⟩
theorem Runs.retV {nx : Nat} (hd : Ins code pc .return_ 1 nx) (hr : ret = none) (hc : kc ≤ R.cells) (hk : ks ≤ R.slots) (hQ : Q none h D) : Runs w l Z EL n0 own nm code ml ret R Q D h kc ks pc ls [] :=
  Runs.leave (v := none) (fun _ => rfl) (fun p e s m args below meth c T locs C X fs hl => X.returnOut C.1 (C.2.2.2.2.2.1.trans hr) (Jvm.hb C.2.2.1 hd.1) hl) hc hk hQ
theorem Runs.retI {nx : Nat} {t : FieldType} {x z : Int32} (hd : Ins code pc .ireturn 1 nx) (hr : ret = some t) (ht : t = .int ∨ t = .boolean ∨ t = .byte ∨ t = .char ∨ t = .short) (hn : narrow t (.int x) = .int z) (hc : kc ≤ R.cells) (hk : ks ≤ R.slots) (hQ : Q (some (.int z)) h D) : Runs w l Z EL n0 own nm code ml ret R Q D h kc ks pc ls [.int x] :=
  Runs.leave (v := some (.int z)) (fun q => by rw [hr] at q; cases q) (fun p e s m args below meth c T locs C X fs hl => by
    have hm' : T.vm.method? m = some meth := X.method'
    have hx := C.1
    have hd' := Jvm.hb C.2.2.1 hd.1
    have hret : meth.sig.returnType = some t := C.2.2.2.2.2.1.trans hr
    show Steps p.tables e below (T.setTop { method := m, pc := pc, locals := ls, stack := [_], locked := none }) _
    rcases ht with rfl | rfl | rfl | rfl | rfl
    all_goals
      jvm_step X.here [X.here.top, hx, hd', hm', hret, hn]
      first | (intro acts; rw [hl _ acts rfl rfl rfl]) | rw [hl _ _ rfl rfl rfl]
      exact Steps.refl _) hc hk hQ
theorem Runs.retA {nx : Nat} {t : FieldType} {x : Value} (hd : Ins code pc .areturn 1 nx) (hr : ret = some t) (ht : t.isReference = true) (hx : x.isRef = true) (hc : kc ≤ R.cells) (hk : ks ≤ R.slots) (hQ : Q (some x) h D) : Runs w l Z EL n0 own nm code ml ret R Q D h kc ks pc ls [x] :=
  Runs.leave (v := some x) (fun q => by rw [hr] at q; cases q) (fun p e s m args below meth c T locs C X fs hl =>
    RoadKit.retOut X C.1 (C.2.2.2.2.2.1.trans hr) (by cases x <;> first | rfl | (simp [Value.isRef] at hx; done) | (cases t <;> first | rfl | (simp [FieldType.isReference] at ht; done))) (Or.inr (Or.inr (Or.inr (Or.inr ⟨rfl, ht, hx⟩)))) (Jvm.hb C.2.2.1 hd.1) hl) hc hk hQ
theorem Runs.getS {R0 O n d : String} {index : Nat} {v : Value} (hd : Ins code pc (.getstatic index) 3 pc') (wl : (Cond.fieldLink own index R0 n d).before a0 Z = true) (via : Via Z R0 O n d) (F : Sta Z Z.heap O n d v) (K : Runs w l Z EL n0 own nm code ml ret R Q D h kc ks pc' ls (v :: st)) : Runs w l Z EL n0 own nm code ml ret R Q D h kc ks pc ls st := by
  obtain ⟨hd, rfl⟩ := hd
  exact K.warm fun p e s m args below meth c T locs C X eT O => RoadKit.getS (host := "") X C.1 C.2.1 C.2.2.2.2.1 wl via eT (F.ext O.2) (g := mkF m pc ls st) rfl (Jvm.hb C.2.2.1 hd)
theorem Runs.getF {R0 O n d host : String} {index : Nat} {a : Addr} {v : Value} (hd : Ins code pc (.getfield index) 3 pc') (wl : (Cond.fieldLink own index R0 n d).before a0 Z = true ∨ (Cond.fieldLinkNest own index R0 n d host).before a0 Z = true) (via : Via Z R0 O n d) (F : Fld Z h a O n d v) (K : Runs w l Z EL n0 own nm code ml ret R Q D h kc ks pc' ls (v :: rest)) : Runs w l Z EL n0 own nm code ml ret R Q D h kc ks pc ls (.ref a :: rest) := by
  obtain ⟨hd, rfl⟩ := hd
  exact K.warm fun p e s m args below meth c T locs C X eT O => RoadKit.getF X C.1 C.2.1 C.2.2.2.2.1 wl via eT F (g := mkF m pc ls (.ref a :: rest)) rfl rfl (Jvm.hb C.2.2.1 hd)
theorem Runs.ldcI {index : Nat} {v : Int32} (hd : Ins code pc (.ldc index) 2 pc') (wl : (Cond.constant own index v).before a0 Z = true) (K : Runs w l Z EL n0 own nm code ml ret R Q D h kc ks pc' ls (.int v :: st)) : Runs w l Z EL n0 own nm code ml ret R Q D h kc ks pc ls st := by
  obtain ⟨hd, rfl⟩ := hd
  exact K.warm fun p e s m args below meth c T locs C X eT O => ⟨T, X, eT, fun t S => X.ldcI C.1 C.2.2.2.2.1 (mv C.2.1 wl) (g := mkF m pc ls st) rfl (Jvm.hb C.2.2.1 hd) S⟩
end W


/-! objects, arrays -/
abbrev FV := String × String × String × Value
def FV.key (f : FV) : String × String × String := (f.1, f.2.1, f.2.2.1)
/-- the object at a is exactly a C; its fields fs hold what they say -/
def Obj (Z : State) (h : Heap) (a : Addr) (C : String) (fs : List FV) : Prop := Exa Z h a C ∧ ∀ f ∈ fs, Fld Z h a f.1 f.2.1 f.2.2.1 f.2.2.2
/-- the fields of a C, at their first values -/
def LayD (Z : State) (a0 : Array Value) (C : String) (dl : List FV) : Prop := (∀ f ∈ dl, Laid Z a0 C f.1 f.2.1 f.2.2.1 ∧ ∃ t, parseFieldDescriptor f.2.2.1 = some t ∧ defaultValue t = f.2.2.2) ∧ (dl.map fun f => f.2.1).Nodup
section H
variable {Z : State} {h h' : Heap} {a b : Addr} {C : String} {fs dl : List FV} {ws : List Addr} {a0 : Array Value}
theorem Obj.fld {i : Nat} {o n d : String} {v : Value} (O : Obj Z h a C fs) (hi : fs[i]? = some (o, n, d, v)) : Fld Z h a o n d v := O.2 _ (List.mem_of_getElem? hi)
theorem Obj.keep (O : Obj Z h a C fs) (K : Keep h h' ws) (q : a ∉ ws) : Obj Z h' a C fs := ⟨O.1.keep K, fun f hf => (O.2 f hf).keep K q⟩
theorem Obj.ext (O : Obj Z h a C fs) (E : Ext h h') : Obj Z h' a C fs := ⟨O.1.ext E, fun f hf => (O.2 f hf).ext E⟩
theorem Obj.lt (O : Obj Z h a C fs) : a < h.size := O.1.lt
theorem Obj.sub {gs : List FV} (O : Obj Z h a C fs) (q : ∀ f ∈ gs, f ∈ fs) : Obj Z h a C gs := ⟨O.1, fun f hf => O.2 f (q f hf)⟩
theorem keepE (E : Ext h h') : Keep h h' ws := (Keep.refl h ws).ext E
theorem Keep.sub {ws' : List Addr} (K : Keep h h' ws) (q : ∀ x ∈ ws, x ∈ ws') : Keep h h' ws' := ⟨K.1, fun x c e r => K.2.1 x c e fun z => r (q x z), K.2.2⟩
theorem nodup_key : ∀ {dl : List FV} {i j : Nat} {f g : FV}, (dl.map fun f => f.2.1).Nodup → dl[i]? = some f → dl[j]? = some g → i ≠ j → f.2.1 ≠ g.2.1 := by
  intro dl i j f g hn hi hj hij he
  obtain ⟨h1, e1⟩ := List.getElem?_eq_some_iff.mp hi
  obtain ⟨h2, e2⟩ := List.getElem?_eq_some_iff.mp hj
  have hp := List.pairwise_iff_getElem.mp hn
  rcases Nat.lt_or_gt_of_ne hij with q | q
  · exact hp i j (by simpa using h1) (by simpa using h2) q (by simp only [List.getElem_map, e1, e2]; exact he)
  · exact hp j i (by simpa using h2) (by simpa using h1) q (by simp only [List.getElem_map, e1, e2]; exact he.symm)
theorem Obj.put {i : Nat} {o n d : String} {old v : Value} (O : Obj Z h a C fs) (hi : fs[i]? = some (o, n, d, old)) (L : LayD Z a0 C dl) (hk : fs.map FV.key = dl.map FV.key) (W : Wr h h' a (RoadKit.slotOf Z o n d) v) : Obj Z h' a C (fs.set i (o, n, d, v)) := by
  refine ⟨O.1.wr W, fun f hf => ?_⟩
  obtain ⟨j, hj⟩ := List.mem_iff_getElem?.mp hf
  by_cases e : i = j
  · subst e
    rw [List.getElem?_set_self (by exact (List.getElem?_eq_some_iff.mp hi).1)] at hj
    cases hj
    exact (O.fld hi).same W
  · rw [List.getElem?_set_ne e] at hj
    obtain ⟨o', n', d', v'⟩ := f
    have F := O.fld hj
    have key : ∀ {k : Nat} {g : FV}, fs[k]? = some g → ∃ g' : FV, dl[k]? = some g' ∧ g'.key = g.key := fun {k g} q => by
      have q' : (fs.map FV.key)[k]? = some g.key := by simp [q]
      rw [hk, List.getElem?_map] at q'
      cases hd : dl[k]? with
      | none => simp [hd] at q'
      | some g' => exact ⟨g', rfl, by simpa [hd] using q'⟩
    obtain ⟨f1, q1, k1⟩ := key hi
    obtain ⟨f2, q2, k2⟩ := key hj
    have hne := nodup_key L.2 q1 q2 e
    obtain ⟨L1, t1, p1, -⟩ := L.1 f1 (List.mem_of_getElem? q1)
    obtain ⟨L2, t2, p2, -⟩ := L.1 f2 (List.mem_of_getElem? q2)
    simp only [FV.key, Prod.mk.injEq] at k1 k2
    obtain ⟨a1, b1, c1⟩ := k1
    obtain ⟨a2, b2, c2⟩ := k2
    rw [a1, b1, c1] at L1; rw [a2, b2, c2] at L2; rw [c1] at p1; rw [c2] at p2
    exact F.other W (Or.inr (slot_ne L2 L1 (by rw [← b1, ← b2]; exact fun z => hne z.symm) p2 p1))
end H
section W2
variable {w : Nat} {l : Launch} {Z : State} {EL : List (String × Nat)} {n0 : Nat} {own nm : String} {code : ByteArray} {ml : Nat} {ret : Option FieldType} {R : Room} {Q : Option Value → Heap → List Addr → Prop} {D : List Addr} {h h' : Heap} {kc ks pc pc' : Nat} {ls ls' : Array Slot} {st st' rest : List Value} {a0 : Array Value} {s : State} {vm0 : Vm}
theorem Hid.keep {ws : List Addr} (H : Hid w Z EL D s vm0 h) (K : Keep h h' ws) (q : ∀ x ∈ ws, Safe Z EL vm0 h x) : Hid w Z EL D s vm0 h' := by
  obtain ⟨H1, H2, H3, H4⟩ := H
  refine ⟨?_, H2, H3.trans (CHr.keep K q H3.1), fun x hx => ⟨Nat.lt_of_lt_of_le (H4 x hx).1 K.1, (H4 x hx).2.keep K q H3.1⟩⟩
  split
  · rename_i e; rw [if_pos e] at H1; exact H1
  · rename_i e; rw [if_neg e] at H1; obtain ⟨k0, g1, g2⟩ := H1; exact ⟨k0, g1, Nat.le_trans g2 K.1⟩
theorem Hid.more {b : Addr} (H : Hid w Z EL D s vm0 h) (E : Ext h h') (hb : h.size ≤ b) (hb' : b < h'.size) : Hid w Z EL (b :: D) s vm0 h' := by
  have H' := H.keep (keepE (ws := []) E) (fun x q => nomatch q)
  refine ⟨H'.1, H'.2.1, H'.2.2.1, fun x hx => ?_⟩
  rcases List.mem_cons.mp hx with rfl | hx
  · exact ⟨hb', (Safe.new hb).ext E H.2.2.1.1⟩
  · exact H'.2.2.2 x hx
/-- a step that writes one old place, or none -/
theorem Runs.write {ws : List Addr} {P : Heap → Prop} (hg : ∀ x ∈ ws, n0 ≤ x) (hs : ∀ vm0 : Vm, Z.vm.Alike vm0 → (∀ x ∈ D, Safe Z EL vm0 h x) → ∀ x ∈ ws, Safe Z EL vm0 h x)
    (K : ∀ h', Keep h h' ws → P h' → Runs w l Z EL n0 own nm code ml ret R Q D h' kc ks pc' ls' st')
    (f : ∀ (p : Program) (e : Env) (s : State) (m : MethodId) (args : Array Value) (below : List Frame) (meth : Method) (c : Code) (T : State) (locs : List Loc), Ctx p s m meth c Z own nm code ml ret → Stand p l e R s m args below meth c T locs kc ks → T.heap = h → Old Z n0 h → Fr n0 locs →
      ∃ T' locs', Stand p l e R s m args below meth c T' locs' kc ks ∧ Fr n0 locs' ∧ Keep h T'.heap ws ∧ P T'.heap ∧ ∀ target, Steps p.tables e below (T'.setTop (mkF m pc' ls' st')) target → Steps p.tables e below (T.setTop (mkF m pc ls st)) target) : Runs w l Z EL n0 own nm code ml ret R Q D h kc ks pc ls st := by
  intro p e s vm0 m args below meth c T locs C X eT N O H Kw
  obtain ⟨T', locs', X', N', K', P', S'⟩ := f p e _ m args below meth c T locs C X eT O N
  obtain ⟨s₂, o, S, r⟩ := K _ K' P' p e s vm0 m args below meth c T' locs' C X' rfl N' (O.keep K' hg) (H.keep K' (hs vm0 C.2.1.alike (fun x hx => (H.2.2.2 x hx).2))) Kw
  exact ⟨s₂, o, S' _ S, r⟩
theorem safeC {a : Addr} {C : String} (E : Exa Z h a C) (hs : a ∈ D ∨ (C ≠ "java/lang/String" ∧ C ≠ "[B")) : ∀ vm0 : Vm, Z.vm.Alike vm0 → (∀ x ∈ D, Safe Z EL vm0 h x) → ∀ x ∈ [a], Safe Z EL vm0 h x := fun vm0 hal hD x hx => by
  cases List.mem_singleton.mp hx
  rcases hs with hs | hs
  · exact hD _ hs
  · exact Safe.exa hal E hs.1 hs.2
theorem safeA {a : Addr} {k : ClassId} {ty : FieldType} {z : Int32} {vs : List Value} {d : Value} (A : Arv Z h a k ty z vs d) (hs : a ∈ D ∨ ty ≠ .byte) : ∀ vm0 : Vm, Z.vm.Alike vm0 → (∀ x ∈ D, Safe Z EL vm0 h x) → ∀ x ∈ [a], Safe Z EL vm0 h x := fun vm0 hal hD x hx => by
  cases List.mem_singleton.mp hx
  rcases hs with hs | hs
  · exact hD _ hs
  · exact Safe.arv hal A hs
theorem one_ge {a : Addr} (hg : n0 ≤ a) : ∀ x ∈ [a], n0 ≤ x := fun x hx => by cases List.mem_singleton.mp hx; exact hg
theorem Runs.putF {R0 O n d host C : String} {index kk i : Nat} {ty : FieldType} {a : Addr} {v old : Value} {fs dl : List FV} (hd : Ins code pc (.putfield index) 3 pc') (wl : (Cond.fieldLink own index R0 n d).before a0 Z = true ∨ (Cond.fieldLinkNest own index R0 n d host).before a0 Z = true) (via : Via Z R0 O n d)
    (B : Obj Z h a C fs) (hi : fs[i]? = some (O, n, d, old)) (LD : LayD Z a0 C dl) (hk : fs.map FV.key = dl.map FV.key) (L : (Cond.lays C O n d).before a0 Z = true ∨ ((Cond.laysFinal C O n d).before a0 Z = true ∧ own = O ∧ nm = "<init>")) (wi : (Cond.instantiable C kk).before a0 Z = true)
    (hty : parseFieldDescriptor d = some ty) (hn : narrow ty v = v) (hf : fits ty v = true) (hg : n0 ≤ a) (hs : a ∈ D ∨ (C ≠ "java/lang/String" ∧ C ≠ "[B"))
    (K : ∀ h', Keep h h' [a] → Obj Z h' a C (fs.set i (O, n, d, v)) → Runs w l Z EL n0 own nm code ml ret R Q D h' kc ks pc' ls rest) : Runs w l Z EL n0 own nm code ml ret R Q D h kc ks pc ls (v :: .ref a :: rest) := by
  obtain ⟨hd, rfl⟩ := hd
  refine Runs.write (P := fun h' => Obj Z h' a C (fs.set i (O, n, d, v))) (one_ge hg) (safeC B.1 hs) K fun p e s m args below meth c T locs Cx X eT Ol N => ?_
  obtain ⟨T', h1, X', e1, W1, S1⟩ := RoadKit.putF X Cx.1 Cx.2.1 Cx.2.2.2.2.1 wl via eT (B.fld hi) B.1 (L.imp id fun q => ⟨q.1, q.2.1, Cx.2.2.2.2.2.2.2.1.trans q.2.2⟩) wi hty hn hf (g := mkF m pc ls (v :: .ref a :: rest)) rfl rfl (Jvm.hb Cx.2.2.1 hd)
  subst e1
  exact ⟨T', _, X', Fr.snoc X' N hg, Keep.of_wr W1, B.put hi LD hk W1, S1⟩
theorem Runs.newO {C : String} {index n : Nat} {dl : List FV} (hd : Ins code pc (.new index) 3 pc') (w1 : (Cond.classLink own index C).before a0 Z = true) (w2 : (Cond.instantiable C n).before a0 Z = true) (w3 : (Cond.initialized C).before a0 Z = true) (LD : LayD Z a0 C dl) (hc : kc + 1 ≤ R.cells) (hl : ks + n ≤ R.slots)
    (K : ∀ h' b, h.size ≤ b → n0 ≤ b → Keep h h' [] → Obj Z h' b C dl → Unt h' b → Runs w l Z EL n0 own nm code ml ret R Q (b :: D) h' (kc + 1) (ks + n) pc' ls (.ref b :: st)) : Runs w l Z EL n0 own nm code ml ret R Q D h kc ks pc ls st := by
  obtain ⟨hd, rfl⟩ := hd
  intro p e s vm0 m args below meth c T locs C' X eT N O H Kw
  obtain ⟨T', h1, X', e1, E1, A1, D1, U1, S1⟩ := RoadKit.newO X C'.1 C'.2.1 C'.2.2.2.2.1 w1 w2 w3 eT (g := mkF m pc ls st) rfl (Jvm.hb C'.2.2.1 hd) hc hl
  subst e1
  have hO : n0 ≤ h.size := by rw [← O.1]; exact O.2.1
  obtain ⟨s₂, o, S, r⟩ := K _ h.size (Nat.le_refl _) hO (keepE E1) ⟨A1, fun f hf => by obtain ⟨L1, t, p1, d1⟩ := LD.1 f hf; rw [← d1]; exact D1 L1 p1⟩ U1 p e s vm0 m args below meth c T' locs C' X' rfl N (O.ext E1) (H.more E1 (Nat.le_refl _) A1.lt) Kw
  exact ⟨s₂, o, S1 _ S, r⟩
theorem Runs.newP {aty : ArrayType} {n : Int32} {cap : Nat} {ad : String} (hd : Ins code pc (.newarray aty) 2 pc') (w1 : (Cond.arrayClass (newarray.typeOf aty)).before a0 Z = true) (hn : ¬ n < 0) (hcap : n.toNatClampNeg ≤ cap) (hb : cap * 8 ≤ 536870912) (hc : kc + 1 ≤ R.cells) (hl : ks + cap ≤ R.slots) (had : "[" ++ (newarray.typeOf aty).toString = ad)
    (K : ∀ h' b k, h.size ≤ b → n0 ≤ b → Keep h h' [] → Arv Z h' b k (newarray.typeOf aty) n [] (defaultValue (newarray.typeOf aty)) → Exa Z h' b ad → Runs w l Z EL n0 own nm code ml ret R Q (b :: D) h' (kc + 1) (ks + cap) pc' ls (.ref b :: rest)) : Runs w l Z EL n0 own nm code ml ret R Q D h kc ks pc ls (.int n :: rest) := by
  obtain ⟨hd, rfl⟩ := hd
  intro p e s vm0 m args below meth c T locs C' X eT N O H Kw
  obtain ⟨T', h1, cA, X', e1, E1, A1, x1, S1⟩ := RoadKit.newPE X C'.1 C'.2.1 w1 eT (g := mkF m pc ls (.int n :: rest)) rfl (Jvm.hb C'.2.2.1 hd) rfl hn hcap hb hc hl had
  subst e1
  have hO : n0 ≤ h.size := by rw [← O.1]; exact O.2.1
  obtain ⟨s₂, o, S, r⟩ := K _ h.size cA (Nat.le_refl _) hO (keepE E1) (Arv.new A1 hn) x1 p e s vm0 m args below meth c T' locs C' X' rfl N (O.ext E1) (H.more E1 (Nat.le_refl _) x1.lt) Kw
  exact ⟨s₂, o, S1 _ S, r⟩
theorem Runs.arrlen {a : Addr} {k : ClassId} {ty : FieldType} {z : Int32} {vs : List Value} {d : Value} (hd : Ins code pc .arraylength 1 pc') (A : Arv Z h a k ty z vs d) (K : Runs w l Z EL n0 own nm code ml ret R Q D h kc ks pc' ls (.int z :: rest)) : Runs w l Z EL n0 own nm code ml ret R Q D h kc ks pc ls (.ref a :: rest) := by
  obtain ⟨hd, rfl⟩ := hd
  obtain ⟨cl, A1, -, S1, q, -⟩ := A
  refine K.warm fun p e s m args below meth c T locs C X eT O => ⟨T, X, eT, fun t S => X.arraylength C.1 (by rw [eT]; exact A1.1) (State.isArrayOf_alike C.2.1.alike A1.2.1) (g := mkF m pc ls (.ref a :: rest)) rfl rfl (Jvm.hb C.2.2.1 hd) t ?_⟩
  rw [len_of S1 q]; exact S

theorem Runs.baload {a : Addr} {k : ClassId} {z j : Int32} {vs : List Value} {d v : Value} (hd : Ins code pc .baload 1 pc') (A : Arv Z h a k .byte z vs d) (hj : ¬ j < 0 ∧ j < z) (hv : vs.getD j.toNatClampNeg d = v) (K : Runs w l Z EL n0 own nm code ml ret R Q D h kc ks pc' ls (v :: rest)) : Runs w l Z EL n0 own nm code ml ret R Q D h kc ks pc ls (.int j :: .ref a :: rest) := by
  obtain ⟨hd, rfl⟩ := hd
  obtain ⟨cl, A1, -, S1, q, H1, -⟩ := A
  have hin := inb_of S1 hj
  exact K.warm fun p e s m args below meth c T locs C X eT O => ⟨T, X, eT, fun t S => X.baloadBytes C.1 (by rw [eT]; exact A1.1) (State.isArrayOf_alike C.2.1.alike A1.2.1) A1.2.2 hin (H1.at hin hv) (g := mkF m pc ls (.int j :: .ref a :: rest)) rfl rfl (Jvm.hb C.2.2.1 hd) t S⟩
theorem Runs.caload {a : Addr} {k : ClassId} {z j : Int32} {vs : List Value} {d v : Value} (hd : Ins code pc .caload 1 pc') (A : Arv Z h a k .char z vs d) (hj : ¬ j < 0 ∧ j < z) (hv : vs.getD j.toNatClampNeg d = v) (K : Runs w l Z EL n0 own nm code ml ret R Q D h kc ks pc' ls (v :: rest)) : Runs w l Z EL n0 own nm code ml ret R Q D h kc ks pc ls (.int j :: .ref a :: rest) := by
  obtain ⟨hd, rfl⟩ := hd
  obtain ⟨cl, A1, -, S1, q, H1, -⟩ := A
  have hin := inb_of S1 hj
  exact K.warm fun p e s m args below meth c T locs C X eT O => ⟨T, X, eT, fun t S => X.caload C.1 (by rw [eT]; exact A1.1) (State.isArrayOf_alike C.2.1.alike A1.2.1) A1.2.2 hin (H1.at hin hv) (g := mkF m pc ls (.int j :: .ref a :: rest)) rfl rfl (Jvm.hb C.2.2.1 hd) t S⟩
theorem Runs.bastore {a : Addr} {k : ClassId} {z j x y : Int32} {vs : List Value} {d : Value} {i : Nat} (hd : Ins code pc .bastore 1 pc') (A : Arv Z h a k .byte z vs d) (hj : ¬ j < 0 ∧ j < z) (hi : j.toNatClampNeg = i) (hil : i < vs.length) (hy : x.toInt8.toInt32 = y) (hg : n0 ≤ a) (hs : a ∈ D ∨ (.byte : FieldType) ≠ .byte) (K : ∀ h', Keep h h' [a] → Arv Z h' a k .byte z (vs.set i (.int y)) d → Runs w l Z EL n0 own nm code ml ret R Q D h' kc ks pc' ls rest) : Runs w l Z EL n0 own nm code ml ret R Q D h kc ks pc ls (.int x :: .int j :: .ref a :: rest) := by
  obtain ⟨hd, rfl⟩ := hd
  subst hy
  refine Runs.write (P := fun h' => Arv Z h' a k .byte z (vs.set i (.int (x.toInt8.toInt32))) d) (one_ge hg) (safeA A hs) K fun p e s m args below meth c T locs Cx X eT Ol N => ?_
  obtain ⟨cl, A1, q1, S1, q, H1, G1⟩ := A
  obtain ⟨T', h1, X', e1, W1, st1⟩ := RoadKit.stB X Cx.1 Cx.2.1 eT A1 (inb_of S1 hj) (g := mkF m pc ls (.int x :: .int j :: .ref a :: rest)) rfl rfl (Jvm.hb Cx.2.2.1 hd)
  subst e1
  exact ⟨T', _, X', Fr.snoc X' N hg, Keep.of_wr W1, Arv.set A1 q1 S1 q H1 G1 (fits_nar_byte x) W1 i hi hil, st1⟩
theorem Runs.castore {a : Addr} {k : ClassId} {z j x y : Int32} {vs : List Value} {d : Value} {i : Nat} (hd : Ins code pc .castore 1 pc') (A : Arv Z h a k .char z vs d) (hj : ¬ j < 0 ∧ j < z) (hi : j.toNatClampNeg = i) (hil : i < vs.length) (hy : nar .char x = y) (hg : n0 ≤ a) (hs : a ∈ D ∨ (.char : FieldType) ≠ .byte) (K : ∀ h', Keep h h' [a] → Arv Z h' a k .char z (vs.set i (.int y)) d → Runs w l Z EL n0 own nm code ml ret R Q D h' kc ks pc' ls rest) : Runs w l Z EL n0 own nm code ml ret R Q D h kc ks pc ls (.int x :: .int j :: .ref a :: rest) := by
  obtain ⟨hd, rfl⟩ := hd
  subst hy
  refine Runs.write (P := fun h' => Arv Z h' a k .char z (vs.set i (.int (nar .char x))) d) (one_ge hg) (safeA A hs) K fun p e s m args below meth c T locs Cx X eT Ol N => ?_
  obtain ⟨cl, A1, q1, S1, q, H1, G1⟩ := A
  obtain ⟨T', h1, X', e1, W1, st1⟩ := RoadKit.stC X Cx.1 Cx.2.1 eT A1 (inb_of S1 hj) (g := mkF m pc ls (.int x :: .int j :: .ref a :: rest)) rfl rfl (Jvm.hb Cx.2.2.1 hd)
  subst e1
  exact ⟨T', _, X', Fr.snoc X' N hg, Keep.of_wr W1, Arv.set A1 q1 S1 q H1 G1 (fits_nar_char x) W1 i hi hil, st1⟩
theorem Runs.initO {idx W : Nat} {a : Addr} (hd : Ins code pc (.invokespecial idx) 3 pc') (w1 : (Cond.methodLink own idx Lib.objectInit).before a0 Z = true) (w2 : (Cond.instanceMethod Lib.objectInit).before a0 Z = true) (w3 : (Cond.code Lib.objectInit ⟨#[0xb1]⟩ 1 none).before a0 Z = true) (hls : ls.size = ml) (hf : 1 ≤ R.frames) (hW : (rest.map fun v => v.category).sum = W) (hl : W + 12 ≤ R.locals)
    (K : Runs w l Z EL n0 own nm code ml ret R Q D h kc ks pc' ls rest) : Runs w l Z EL n0 own nm code ml ret R Q D h kc ks pc ls (.ref a :: rest) := by
  obtain ⟨hd, rfl⟩ := hd
  exact K.warm fun p e s m args below meth c T locs C X eT O => RoadKit.initO X C.1 C.2.1 C.2.2.2.2.1 w1 w2 w3 eT (g := mkF m pc ls (.ref a :: rest)) rfl (by rw [C.2.2.2.1]; exact hls) rfl (Jvm.hb C.2.2.1 hd) hf (W := W) (by show 2 * 0 + _ ≤ _; omega) hl
end W2


/-! calls by a contract: no constant is interned (w = false) -/
section P
variable {l : Launch} {Z : State} {n0 : Nat} {own nm : String} {code : ByteArray} {ml : Nat} {ret : Option FieldType} {R : Room} {Q : Option Value → Heap → List Addr → Prop} {D : List Addr} {h : Heap} {kc ks pc pc' : Nat} {ls : Array Slot} {st rest : List Value} {a0 : Array Value}
theorem ch0 {vm : Vm} {h : Heap} : CHv Z [] vm h := fun p hp => by cases hp
theorem safe0 {vm : Vm} {h : Heap} {x : Addr} : Safe Z [] vm h x := fun ⟨p, hp, _⟩ => by cases hp
/-- a callee's contract as what the call laws ask -/
theorem Con.back {p : Program} {e : Env} {s : State} {args : Array Value} {below : List Frame} {y : MethodName} {bytes : ByteArray} {maxL : Nat} {rt : Option FieldType} {rm : Room} {as' : Array Value} {Q' : Option Value → Heap → List Addr → Prop} {len W : Nat}
    (H : Con 0 l Z [] n0 y bytes maxL rt rm as' D h Q') (hO : Old Z n0 h) (hD : ∀ x ∈ D, x < h.size) (hZ : Z.Warmed39 s.vm) (wc : (Cond.code y bytes maxL rt).before a0 Z = true) (wz : (Cond.initialized y.cls).before a0 Z = true) (hf : rm.frames + 1 ≤ R.frames) (hl : W + (maxL + 11) + rm.locals ≤ R.locals) :
    Back l R p e below s args y len W (fun A a => a = as' ∧ A.U.heap = h ∧ A.cells + rm.cells ≤ R.cells ∧ A.slots + rm.slots ≤ R.slots)
      (fun A _ v B => ∃ L D', Q' v B.U.heap D' ∧ Old Z n0 B.U.heap ∧ Fr n0 L ∧ h.size ≤ B.U.heap.size ∧ (∀ x ∈ D', x < B.U.heap.size) ∧ B.locs = A.locs ++ L ∧ B.cells = A.cells + rm.cells ∧ B.slots = A.slots + rm.slots) :=
  Back.of_free (bytes := bytes) (maxL := maxL) (ret := rt) (E := fun _ first o t L k n => k = rm.cells ∧ n = rm.slots ∧ ∃ v D', o = .returned v ∧ Q' v t.heap D' ∧ Old Z n0 t.heap ∧ Fr n0 L ∧ first.heap.size ≤ t.heap.size ∧ ∀ x ∈ D', x < t.heap.size) (H []) hf hl
    (fun m meth c A a Y hp => have hU : Z.Warmed39 A.U.vm := wtrans hZ Y.warmed
      ⟨by show (Cond.and _ .tt).before a A.U = true; rw [Cond.before_and, mv hU wc]; rfl, mv hU wc, mv hU wz, hp.2.2.1, hp.2.2.2⟩)
    (fun m meth c A a g mk Y hp => ⟨hp.1, wtrans hZ Y.warmed, hp.2.1, hO, ⟨#[], EW.nil⟩, ch0, fun x hx => ⟨hD x hx, safe0⟩⟩) (fun _ _ _ _ _ _ _ _ _ q => absurd q (by decide))
    (fun _ _ _ _ ⟨v, L, D', h1, h2, h3, h4, h5, h6⟩ => ⟨L, _, _, h6, rfl, rfl, v, D', h1, h2, h3, h4, h5.1.2.1, fun x hx => (h5.2 x hx).1⟩)
    (fun m meth c A a g mk v t L k n Y hp _ _ ⟨e1, e2, v', D', e3, e4, e5, e6, e7, e8⟩ => by
      cases e3; subst e1 e2
      exact ⟨L, D', e4, e5, e6, by rw [← hp.2.1]; exact e7, e8, rfl, rfl, rfl⟩)
end P


/-! the wide walk (w = true): constants of strings may come to be interned -/
section Wd
variable {w : Nat} {l : Launch} {Z : State} {EL : List (String × Nat)} {n0 : Nat} {own nm : String} {code : ByteArray} {ml : Nat} {ret : Option FieldType} {R : Room} {Q : Option Value → Heap → List Addr → Prop} {D : List Addr} {h : Heap} {kc ks pc pc' : Nat} {ls : Array Slot} {st rest : List Value} {a0 : Array Value}
theorem Ctx.later {p : Program} {s : State} {vm0 vm1 : Vm} {n : Nat} {m : MethodId} {meth : Method} {c : Code} (C : Ctx p (s.setVm vm0) m meth c Z own nm code ml ret) (h1 : (s.setVm vm0).Since vm1 n) : Ctx p (s.setVm vm1) m meth c Z own nm code ml ret :=
  ⟨C.1, State.Warmed39.trans (t := s.setVm vm0) C.2.1 h1.1, C.2.2.1, C.2.2.2.1, by rw [show (s.setVm vm1).vm = vm1 from rfl, h1.1.alike.findClass]; exact C.2.2.2.2.1, C.2.2.2.2.2⟩
theorem Con.backW {p : Program} {e : Env} {s : State} {vm0 : Vm} {args : Array Value} {below : List Frame} {y : MethodName} {bytes : ByteArray} {maxL : Nat} {rt : Option FieldType} {rm : Room} {as' : Array Value} {D0 : List Addr} {Q' : Option Value → Heap → List Addr → Prop} {len W : Nat}
    (w0 : w ≠ 0) (Kw : Kn w Z below) (H : Con w l Z EL n0 y bytes maxL rt rm as' D0 h Q') (hO : Old Z n0 h) (hE : ∃ a0, EW Z a0 EL) (hC : CHv Z EL vm0 h) (hD : ∀ x ∈ D0, x < h.size ∧ Safe Z EL vm0 h x) (hZ : Z.Warmed39 vm0) (wc : (Cond.code y bytes maxL rt).before a0 Z = true) (wz : (Cond.initialized y.cls).before a0 Z = true) (hf : rm.frames + 1 ≤ R.frames) (hl : W + (maxL + 11) + rm.locals ≤ R.locals) :
    BackS l R p e below (s.setVm vm0) args y len W (fun A a => a = as' ∧ A.U.heap = h ∧ A.cells + rm.cells ≤ R.cells ∧ A.slots + rm.slots ≤ R.slots)
      (fun A _ v B => ∃ L D', Q' v B.U.heap D' ∧ Old Z n0 B.U.heap ∧ Fr n0 L ∧ CHr Z EL vm0 h B.U.vm B.U.heap ∧ (∀ x ∈ D', x < B.U.heap.size ∧ Safe Z EL B.U.vm B.U.heap x) ∧ B.locs = A.locs ++ L ∧ B.cells = A.cells + rm.cells ∧ B.slots = A.slots + rm.slots) := by
  obtain ⟨a1, hE1⟩ := id hE
  exact BackS.of_freeWG (bytes := bytes) (maxL := maxL) (ret := rt) (E := fun _ first o t L k n => k = rm.cells ∧ n = rm.slots ∧ ∃ v D', o = .returned v ∧ Q' v t.heap D' ∧ Old Z n0 t.heap ∧ Fr n0 L ∧ CHr Z EL first.vm first.heap t.vm t.heap ∧ ∀ x ∈ D', x < t.heap.size ∧ Safe Z EL t.vm t.heap x) (H []) hf hl
    (fun m meth c A a Y hp => have hU : Z.Warmed39 A.U.vm := wtrans (s := s.setVm vm0) hZ Y.warmed
      ⟨by show (Cond.and _ .tt).before a A.U = true; rw [Cond.before_and, mv hU wc]; rfl, mv hU wc, mv hU wz, hp.2.2.1, hp.2.2.2⟩)
    (fun m meth c A a g mk Y hp => ⟨hp.1, wtrans (s := s.setVm vm0) hZ Y.warmed, hp.2.1, hO, hE, (CHv.at Y hZ hE1 hC).1, fun x hx => ⟨(hD x hx).1, (CHv.at Y hZ hE1 hC).safe (hD x hx).1 (hD x hx).2⟩⟩) (fun m meth c A a g mk Y _ hg q => by
      have hal : Z.vm.Alike A.U.vm := (wtrans (s := s.setVm vm0) hZ Y.warmed).alike
      have kk := known_frames Y hg (Vm.MethodsKnown.alikeC hZ.alike (Kw q).1) (Vm.FramesKnown.alikeC hZ.alike (Kw q).2)
      exact ⟨Vm.MethodsKnown.alikeC hal.symm kk.1, Vm.FramesKnown.alikeC hal.symm kk.2⟩)
    (fun _ _ _ _ ⟨v, L, D', h1, h2, h3, h4, h5, h6⟩ => ⟨L, _, _, by unfold En at h6; rw [if_neg w0] at h6; exact h6, rfl, rfl, v, D', h1, h2, h3, h4, h5.1, h5.2⟩)
    (fun m meth c A a g mk v t L k n Y hp _ _ ⟨e1, e2, v', D', e3, e4, e5, e6, e7, e8⟩ => by
      cases e3; subst e1 e2
      refine ⟨L, D', e4, e5, e6, (CHv.at Y hZ hE1 hC).trans ?_, e8, rfl, rfl, rfl⟩
      rw [← hp.2.1]; exact e7)
theorem goOnW {p : Program} {e : Env} {s : State} {vm0 : Vm} {m : MethodId} {args : Array Value} {below : List Frame} {meth : Method} {c : Code} {T : State} {locs : List Loc} {Q' : Option Value → Heap → List Addr → Prop} {kc' ks' : Nat}
    (K : ∀ v h' D', Q' v h' D' → h.size ≤ h'.size → Runs w l Z EL n0 own nm code ml ret R Q (D' ++ D) h' kc' ks' pc' ls (v.toList ++ rest))
    (w0 : w ≠ 0) (Kw : Kn w Z below) (C : Ctx p (s.setVm vm0) m meth c Z own nm code ml ret) (H : Hid w Z EL D s vm0 h) (N : Fr n0 locs) {v : Option Value} {B : Pt} (X : Stand p l e R ((s.setVm vm0).setVm B.U.vm) m args below meth c B.U B.locs B.cells B.slots)
    (hS : (s.setVm vm0).Since B.U.vm B.U.heap.size)
    (P : ∃ L D', Q' v B.U.heap D' ∧ Old Z n0 B.U.heap ∧ Fr n0 L ∧ CHr Z EL vm0 h B.U.vm B.U.heap ∧ (∀ x ∈ D', x < B.U.heap.size ∧ Safe Z EL B.U.vm B.U.heap x) ∧ B.locs = locs ++ L ∧ B.cells = kc' ∧ B.slots = ks')
    (S : Steps p.tables e below (T.setTop (mkF m pc ls st)) (B.U.setTop (mkF m pc' ls (v.toList ++ rest)))) :
    ∃ s₂ o, Steps p.tables e below (T.setTop (mkF m pc ls st)) s₂ ∧ s₂.status = .running ∧ Ended s₂ below o ∧ Done w Z EL n0 R Q s o s₂ := by
  obtain ⟨L, D', h1, h2, h3, h4, h5, h6, h7, h8⟩ := P
  obtain ⟨U, Ls, kk, nn⟩ := B
  dsimp only [Pt.U, Pt.locs, Pt.cells, Pt.slots] at *
  subst h6 h7 h8
  obtain ⟨H1, H2, H3, H4⟩ := H
  obtain ⟨k0, g1, g2⟩ : ∃ k0, s.Since vm0 k0 ∧ k0 ≤ h.size := by rw [if_neg w0] at H1; exact H1
  have hsz : h.size ≤ U.heap.size := h4.2.1
  have C1 : Ctx p (s.setVm U.vm) m meth c Z own nm code ml ret := C.later hS
  have X1 : Stand p l e R (s.setVm U.vm) m args below meth c U (locs ++ L) kk nn := X
  have HN : Hid w Z EL (D' ++ D) s U.vm U.heap := ⟨by rw [if_neg w0]; exact ⟨U.heap.size, g1.trans hS (Nat.le_trans g2 hsz), Nat.le_refl _⟩, H2, H3.trans h4, fun x hx => by
    rcases List.mem_append.mp hx with q | q
    · exact h5 x q
    · exact ⟨Nat.lt_of_lt_of_le (H4 x q).1 hsz, h4.safe (H4 x q).1 (H4 x q).2⟩⟩
  obtain ⟨s₂, o, S₂, r⟩ := K v U.heap D' h1 hsz p e s U.vm m args below meth c U _ C1 X1 rfl (N.app h3) h2 HN Kw
  exact ⟨s₂, o, S.trans S₂, r⟩
theorem Runs.callSW {y : MethodName} {index : Nat} {bytes : ByteArray} {maxL : Nat} {rt : Option FieldType} {rm : Room} {argsL : List Value} {Q' : Option Value → Heap → List Addr → Prop} {W : Nat} {ps : List FieldType} {rr : Option FieldType}
    (hd : Ins code pc (.invokestatic index) 3 pc') (w1 : (Cond.methodLink own index y).before a0 Z = true) (w2 : (Cond.static y).before a0 Z = true) (w3 : (Cond.initialized y.cls).before a0 Z = true) (w4 : (Cond.code y bytes maxL rt).before a0 Z = true) (hy : y.cls ≠ "java/lang/invoke/MethodHandle" ∧ y.cls ≠ "java/lang/invoke/VarHandle")
    (pd : parseMethodDescriptor y.desc = some ⟨ps, rr⟩) (hn : argsL.length = ps.length) (hls : ls.size = ml) (hst : st = argsL.reverse ++ rest) (hW : (rest.map fun v => v.category).sum = W) (hf : rm.frames + 1 ≤ R.frames) (hl : W + (maxL + 11) + rm.locals ≤ R.locals) (hc : kc + rm.cells ≤ R.cells) (hs : ks + rm.slots ≤ R.slots)
    {D0 : List Addr} (hD0 : ∀ x ∈ D0, x ∈ D) (w0 : w ≠ 0) (H : Con w l Z EL n0 y bytes maxL rt rm argsL.toArray D0 h Q')
    (K : ∀ v h' D', Q' v h' D' → h.size ≤ h'.size → Runs w l Z EL n0 own nm code ml ret R Q (D' ++ D) h' (kc + rm.cells) (ks + rm.slots) pc' ls (v.toList ++ rest)) : Runs w l Z EL n0 own nm code ml ret R Q D h kc ks pc ls st := by
  obtain ⟨hd, rfl⟩ := hd
  intro p e s vm0 m args below meth c T locs C X eT N O Hd Kw
  obtain ⟨v, vm₁, B, -, XB, hS, -, P, S⟩ := callSS X C.1 (y := y) C.2.2.2.2.1 (mvT C.2.1 w1) (mvT C.2.1 w2) (mvT C.2.1 w3) (mvT C.2.1 w4) hy (H.backW w0 Kw (W := W) O Hd.2.1 Hd.2.2.1.1 (fun x hx => Hd.2.2.2 x (hD0 x hx)) C.2.1 w4 w3 hf hl) (g := mkF m pc ls st) rfl (by rw [C.2.2.2.1]; exact hls) (argsL := argsL) (rest := rest) (lenOf pd hn) hst (by show 2 * 0 + _ ≤ _; omega) (Jvm.hb C.2.2.1 hd) (fun _ _ => ⟨rfl, eT, hc, hs⟩)
  exact goOnW K w0 Kw C Hd N XB hS P S
theorem Runs.callVW {y z : MethodName} {index : Nat} {CC : String} {bytes : ByteArray} {maxL : Nat} {rt : Option FieldType} {rm : Room} {b : Addr} {argsL : List Value} {Q' : Option Value → Heap → List Addr → Prop} {W : Nat} {ps : List FieldType} {rr : Option FieldType}
    (hd : Ins code pc (.invokevirtual index) 3 pc') (w1 : (Cond.methodLink own index y).before a0 Z = true) (w2 : (Cond.declares y).before a0 Z = true) (nf : ∀ s : State, Z.Warmed39 s.vm → NotFace s y) (w3 : (Cond.selects CC y z).before a0 Z = true) (w4 : (Cond.instanceMethod z).before a0 Z = true) (w5 : (Cond.code z bytes maxL rt).before a0 Z = true) (w6 : (Cond.initialized z.cls).before a0 Z = true) (hy : y.cls ≠ "java/lang/invoke/MethodHandle" ∧ y.cls ≠ "java/lang/invoke/VarHandle")
    (E : Exa Z h b CC) (pd : parseMethodDescriptor y.desc = some ⟨ps, rr⟩) (hn : argsL.length = ps.length) (hls : ls.size = ml) (hst : st = argsL.reverse ++ .ref b :: rest) (hW : (rest.map fun v => v.category).sum = W) (hf : rm.frames + 1 ≤ R.frames) (hl : W + (maxL + 11) + rm.locals ≤ R.locals) (hc : kc + rm.cells ≤ R.cells) (hs : ks + rm.slots ≤ R.slots)
    {D0 : List Addr} (hD0 : ∀ x ∈ D0, x ∈ D) (w0 : w ≠ 0) (H : Con w l Z EL n0 z bytes maxL rt rm (.ref b :: argsL).toArray D0 h Q')
    (K : ∀ v h' D', Q' v h' D' → h.size ≤ h'.size → Runs w l Z EL n0 own nm code ml ret R Q (D' ++ D) h' (kc + rm.cells) (ks + rm.slots) pc' ls (v.toList ++ rest)) : Runs w l Z EL n0 own nm code ml ret R Q D h kc ks pc ls st := by
  obtain ⟨hd, rfl⟩ := hd
  intro p e s vm0 m args below meth c T locs C X eT N O Hd Kw
  obtain ⟨cB, kB, q1, -, q3⟩ := isOf C.2.1 eT E
  obtain ⟨v, vm₁, B, -, XB, hS, -, P, S⟩ := X.virtualBackS C.1 (y := y) (z := z) C.2.2.2.2.1 (mvT C.2.1 w1) (mvT C.2.1 w2) (nf _ C.2.1) (mvT C.2.1 w3) (mvT C.2.1 w4) hy (H.backW w0 Kw (W := W) O Hd.2.1 Hd.2.2.1.1 (fun x hx => Hd.2.2.2 x (hD0 x hx)) C.2.1 w5 w6 hf hl) q1 q3 (g := mkF m pc ls st) rfl (by rw [C.2.2.2.1]; exact hls) (Steps.refl _) (argsL := argsL) (rest := rest) (lenOf pd hn) hst (by show 2 * 0 + _ ≤ _; omega) (Jvm.hb C.2.2.1 hd) (fun _ _ => ⟨rfl, eT, hc, hs⟩)
  exact goOnW K w0 Kw C Hd N XB hS P S
theorem Runs.callCW {y : MethodName} {index : Nat} {bytes : ByteArray} {maxL : Nat} {rm : Room} {b : Addr} {argsL : List Value} {Q' : Option Value → Heap → List Addr → Prop} {W : Nat} {ps : List FieldType} {rr : Option FieldType}
    (hd : Ins code pc (.invokespecial index) 3 pc') (hi : y.name = "<init>") (w1 : (Cond.methodLink own index y).before a0 Z = true) (w2 : (Cond.instanceMethod y).before a0 Z = true) (w3 : (Cond.code y bytes maxL none).before a0 Z = true) (w4 : (Cond.initialized y.cls).before a0 Z = true) (hy : y.cls ≠ "java/lang/invoke/MethodHandle" ∧ y.cls ≠ "java/lang/invoke/VarHandle")
    (pd : parseMethodDescriptor y.desc = some ⟨ps, rr⟩) (hn : argsL.length = ps.length) (hls : ls.size = ml) (hst : st = argsL.reverse ++ .ref b :: rest) (hW : (rest.map fun v => v.category).sum = W) (hf : rm.frames + 1 ≤ R.frames) (hl : W + (maxL + 11) + rm.locals ≤ R.locals) (hc : kc + rm.cells ≤ R.cells) (hs : ks + rm.slots ≤ R.slots)
    {D0 : List Addr} (hD0 : ∀ x ∈ D0, x ∈ D) (w0 : w ≠ 0) (H : Con w l Z EL n0 y bytes maxL none rm (.ref b :: argsL).toArray D0 h Q')
    (K : ∀ v h' D', Q' v h' D' → h.size ≤ h'.size → Runs w l Z EL n0 own nm code ml ret R Q (D' ++ D) h' (kc + rm.cells) (ks + rm.slots) pc' ls (v.toList ++ rest)) : Runs w l Z EL n0 own nm code ml ret R Q D h kc ks pc ls st := by
  obtain ⟨hd, rfl⟩ := hd
  intro p e s vm0 m args below meth c T locs C X eT N O Hd Kw
  obtain ⟨v, vm₁, B, -, XB, hS, -, P, S⟩ := X.specialBackS C.1 (y := y) hi C.2.2.2.2.1 (mvT C.2.1 w1) (mvT C.2.1 w2) (mvT C.2.1 w3) hy (H.backW w0 Kw (W := W) O Hd.2.1 Hd.2.2.1.1 (fun x hx => Hd.2.2.2 x (hD0 x hx)) C.2.1 w3 w4 hf hl) (g := mkF m pc ls st) rfl (by rw [C.2.2.2.1]; exact hls) (Steps.refl _) (a := b) (argsL := argsL) (rest := rest) (lenOf pd hn) hst (by show 2 * 0 + _ ≤ _; omega) (Jvm.hb C.2.2.1 hd) (fun _ _ => ⟨rfl, eT, hc, hs⟩)
  exact goOnW K w0 Kw C Hd N XB hS P S
/-- ldc of a String constant that is held: its text -/
theorem Runs.ldcT {text : String} {index n : Nat} {vs : List Value} {z : Int32} (w0 : w ≠ 0) (hd : Ins code pc (.ldc index) 2 pc') (wl : (Cond.stringLink own index text).before a0 Z = true) (wS : ∀ a ∈ Bundle.stringAtoms, a.before a0 Z = true) (hEL : EW Z a0 EL) (hmem : (own, index) ∈ EL)
    (ht : (∀ c ∈ text.toList, c.toNat < 256) ∧ text.toList.map (fun c => Value.int (Jvm.Lit.byteI c.toNat.toUInt16)) = vs) (hz : ¬ z < 0) (hzl : z.toNatClampNeg = vs.length) (hn : 4 * text.toList.length ≤ n) (hbig : n ≤ 536870912) (hc : kc + 2 ≤ R.cells) (hl : ks + (n + 4) ≤ R.slots)
    (K : ∀ h' a b k, Keep h h' [] → Obj Z h' a "java/lang/String" [("java/lang/String", "value", "[B", .ref b), ("java/lang/String", "coder", "B", .int 0)] → Arv Z h' b k .byte z vs (.int 0) → (∀ x ∈ D, x ≠ a ∧ x ≠ b) → Runs w l Z EL n0 own nm code ml ret R Q D h' (kc + 2) (ks + (n + 4)) pc' ls (.ref a :: st)) : Runs w l Z EL n0 own nm code ml ret R Q D h kc ks pc ls st := by
  obtain ⟨hd, rfl⟩ := hd
  intro p e s vm0 m args below meth c T locs C X eT N O Hd Kw
  obtain ⟨H1, H2, H3, H4⟩ := Hd
  obtain ⟨k0, g1, g2⟩ : ∃ k0, s.Since vm0 k0 ∧ k0 ≤ h.size := by rw [if_neg w0] at H1; exact H1
  obtain ⟨a, T', h', k1, b, k, X', e', E', S1, hk1, W1, F1, x1, x2, x3, x4, -, -, C1, -, D1, st1⟩ := ldcCH X C.1 C.2.1 C.2.2.2.2.1 wl wS eT g1 g2 hEL hmem H3.1 ht hz hzl (g := mkF m pc ls st) rfl (Jvm.hb C.2.2.1 hd) hn hbig hc hl
  subst e'
  have hD : ∀ x ∈ D, x < T'.heap.size ∧ Safe Z EL T'.vm T'.heap x := fun x hx => ⟨Nat.lt_of_lt_of_le (H4 x hx).1 E'.1, C1.safe (H4 x hx).1 (H4 x hx).2⟩
  obtain ⟨s₂, o, S, r⟩ := K _ a b k (keepE E') ⟨x1, fun f hf => by simp only [List.mem_cons, List.not_mem_nil, or_false] at hf; rcases hf with rfl | rfl; exact x3; exact x2⟩ x4 (fun x hx => D1 x (hD x hx).2) p e s T'.vm m args below meth c T' locs ⟨C.1, W1, C.2.2.1, C.2.2.2.1, F1, C.2.2.2.2.2⟩ X' rfl N (O.ext E') ⟨by rw [if_neg w0]; exact ⟨k1, S1, hk1⟩, H2, H3.trans C1, hD⟩ Kw
  exact ⟨s₂, o, st1 _ S, r⟩
end Wd


section W3
variable {w : Nat} {l : Launch} {Z : State} {EL : List (String × Nat)} {n0 : Nat} {own nm : String} {code : ByteArray} {ml : Nat} {ret : Option FieldType} {R : Room} {Q : Option Value → Heap → List Addr → Prop} {D : List Addr} {h h' : Heap} {kc ks pc pc' : Nat} {ls ls' : Array Slot} {st st' rest : List Value} {a0 : Array Value}
theorem Runs.instY {K : String} {index : Nat} {a : Addr} (hd : Ins code pc (.instanceof index) 3 pc') (wl : (Cond.classLink own index K).before a0 Z = true) (F : RoadKit.Ins Z h a K true) (k : Runs w l Z EL n0 own nm code ml ret R Q D h kc ks pc' ls (.int 1 :: rest)) : Runs w l Z EL n0 own nm code ml ret R Q D h kc ks pc ls (.ref a :: rest) := by
  obtain ⟨hd, rfl⟩ := hd
  exact k.warm fun p e s m args below meth c T locs C X eT O => RoadKit.instY X C.1 C.2.1 C.2.2.2.2.1 wl eT F (g := mkF m pc ls (.ref a :: rest)) rfl rfl (Jvm.hb C.2.2.1 hd)
theorem Runs.castY {K : String} {index : Nat} {a : Addr} (hd : Ins code pc (.checkcast index) 3 pc') (wl : (Cond.classLink own index K).before a0 Z = true) (F : RoadKit.Ins Z h a K true) (k : Runs w l Z EL n0 own nm code ml ret R Q D h kc ks pc' ls (.ref a :: rest)) : Runs w l Z EL n0 own nm code ml ret R Q D h kc ks pc ls (.ref a :: rest) := by
  obtain ⟨hd, rfl⟩ := hd
  exact k.warm fun p e s m args below meth c T locs C X eT O => RoadKit.castY X C.1 C.2.1 C.2.2.2.2.1 wl eT F (g := mkF m pc ls (.ref a :: rest)) rfl rfl (Jvm.hb C.2.2.1 hd)
end W3


section W4
variable {w : Nat} {l : Launch} {Z : State} {EL : List (String × Nat)} {n0 : Nat} {own nm : String} {code : ByteArray} {ml : Nat} {ret : Option FieldType} {R : Room} {Q : Option Value → Heap → List Addr → Prop} {D : List Addr} {h h' : Heap} {kc ks pc pc' : Nat} {ls ls' : Array Slot} {st st' rest : List Value} {a0 : Array Value}
/-- System.arraycopy of bytes, chars or ints -/
theorem Runs.acopy {index W : Nat} {a b : Addr} {k k' : ClassId} {ty : FieldType} {z z' sp dp nn : Int32} {vs vd us : List Value} {dv dd : Value} (hd : Ins code pc (.invokestatic index) 3 pc')
    (w1 : (Cond.methodLink own index Jvm.Stand.acN).before a0 Z = true) (w2 : (Cond.native Jvm.Stand.acN).before a0 Z = true) (w3 : (Cond.static Jvm.Stand.acN).before a0 Z = true) (w4 : (Cond.initialized "java/lang/System").before a0 Z = true)
    (A : Arv Z h a k ty z vs dv) (B : Arv Z h b k' ty z' vd dd) (hty : refKind ty = false) (h1 : ¬ sp < 0) (h2 : ¬ dp < 0) (h3 : ¬ nn < 0) (h4 : sp.toNatClampNeg + nn.toNatClampNeg ≤ z.toNatClampNeg) (h5 : dp.toNatClampNeg + nn.toNatClampNeg ≤ z'.toNatClampNeg)
    (hus : us = (List.range nn.toNatClampNeg).map fun i => vs.getD (sp.toNatClampNeg + i) dv) (hlv : dp.toNatClampNeg + nn.toNatClampNeg ≤ vd.length) (hg : n0 ≤ b) (hs : b ∈ D ∨ ty ≠ .byte) (hls : ls.size = ml) (hf : 1 ≤ R.frames) (hW : (rest.map fun v => v.category).sum = W) (hlo : W + (nativeFrameWords "java/lang/System" "arraycopy" 5 + 11) ≤ R.locals)
    (K : ∀ h', Keep h h' [b] → Arv Z h' b k' ty z' (vd.take dp.toNatClampNeg ++ us ++ vd.drop (dp.toNatClampNeg + nn.toNatClampNeg)) dd → Runs w l Z EL n0 own nm code ml ret R Q D h' kc ks pc' ls rest) : Runs w l Z EL n0 own nm code ml ret R Q D h kc ks pc ls (.int nn :: .int dp :: .ref b :: .int sp :: .ref a :: rest) := by
  obtain ⟨hd, rfl⟩ := hd
  refine Runs.write (P := fun h' => Arv Z h' b k' ty z' (vd.take dp.toNatClampNeg ++ us ++ vd.drop (dp.toNatClampNeg + nn.toNatClampNeg)) dd) (one_ge hg) (safeA B hs) K fun p e s m args below meth c T locs C X eT Ol N => ?_
  obtain ⟨T', h1', L', X', e1, N', K', A', S'⟩ := cpA X C.1 C.2.1 C.2.2.2.2.1 w1 w2 w3 w4 eT A B (Or.inl ⟨rfl, hty⟩) h1 h2 h3 h4 h5 hus hlv N hg (g := mkF m pc ls (.int nn :: .int dp :: .ref b :: .int sp :: .ref a :: rest)) rfl (by rw [C.2.2.2.1]; exact hls) rfl (Jvm.hb C.2.2.1 hd) hf (W := W) (by show 2 * 0 + _ ≤ _; omega) hlo
  subst e1
  exact ⟨T', L', X', N', K', A', S'⟩
/-- the clone of an array -/
theorem Runs.clone {index W cap : Nat} {ad : String} {a : Addr} {k : ClassId} {ty : FieldType} {z : Int32} {vs : List Value} {dv : Value} (hd : Ins code pc (.invokevirtual index) 3 pc')
    (w1 : (Cond.methodLink own index ⟨ad, "clone", "()Ljava/lang/Object;"⟩).before a0 Z = true) (w2 : (Cond.sameMethod ad "java/lang/Object" "clone" "()Ljava/lang/Object;").before a0 Z = true) (w3 : (Cond.native ⟨"java/lang/Object", "clone", "()Ljava/lang/Object;"⟩).before a0 Z = true)
    (w4 : (Cond.instanceMethod ⟨"java/lang/Object", "clone", "()Ljava/lang/Object;"⟩).before a0 Z = true) (w5 : (Cond.selects ad ⟨ad, "clone", "()Ljava/lang/Object;"⟩ ⟨"java/lang/Object", "clone", "()Ljava/lang/Object;"⟩).before a0 Z = true) (w6 : (Cond.castable ad "java/lang/Cloneable").before a0 Z = true)
    (A : Arv Z h a k ty z vs dv) (E : Exa Z h a ad) (hls : ls.size = ml) (hf : 1 ≤ R.frames) (hW : (rest.map fun v => v.category).sum = W) (hlo : W + 14 ≤ R.locals) (hcap : z.toNatClampNeg ≤ cap) (hc : kc + 1 ≤ R.cells) (hl : ks + cap ≤ R.slots)
    (K : ∀ h' b, h.size ≤ b → n0 ≤ b → Keep h h' [] → Arv Z h' b k ty z vs dv → Exa Z h' b ad → Runs w l Z EL n0 own nm code ml ret R Q (b :: D) h' (kc + 1) (ks + cap) pc' ls (.ref b :: rest)) : Runs w l Z EL n0 own nm code ml ret R Q D h kc ks pc ls (.ref a :: rest) := by
  obtain ⟨hd, rfl⟩ := hd
  intro p e s vm0 m args below meth c T locs C X eT N O H Kw
  obtain ⟨T', h1, X', e1, E1, F1, x1, S1⟩ := cloneH X C.1 C.2.1 C.2.2.2.2.1 w1 w2 w3 w4 w5 w6 eT (hs := []) (vs := vs) (dv := dv) (by obtain ⟨cl, q1, q2, q3, q4, q5, q6⟩ := A; exact ⟨cl, q1, q2, q3, q4, fun i hi => q5 i hi, fun i hi => q6 i hi⟩) E (g := mkF m pc ls (.ref a :: rest)) rfl (by rw [C.2.2.2.1]; exact hls) rfl (Jvm.hb C.2.2.1 hd) hf (W := W) (by show 2 * 0 + _ ≤ _; omega) hlo hcap hc hl
  subst e1
  have hO : n0 ≤ h.size := by rw [← O.1]; exact O.2.1
  obtain ⟨s₂, o, S, r⟩ := K _ h.size (Nat.le_refl _) hO (keepE E1) (by obtain ⟨cl, q1, q2, q3, q4, q5, q6⟩ := F1; exact ⟨cl, q1, q2, q3, q4, fun i hi => q5 i hi, fun i hi => q6 i hi⟩) x1 p e s vm0 m args below meth c T' locs C X' rfl N (O.ext E1) (H.more E1 (Nat.le_refl _) x1.lt) Kw
  exact ⟨s₂, o, S1 _ S, r⟩
end W4


section W5
variable {w : Nat} {l : Launch} {Z : State} {EL : List (String × Nat)} {n0 : Nat} {own nm : String} {code : ByteArray} {ml : Nat} {ret : Option FieldType} {R : Room} {Q : Option Value → Heap → List Addr → Prop} {D : List Addr} {h : Heap} {kc ks pc pc' : Nat} {ls : Array Slot} {st rest : List Value} {a0 : Array Value}
end W5



/-! methods with an exception table whose walk throws nothing (the word codeWith), in the wide walk -/
section Hd
open Jvm.Free
variable {w : Nat} {l : Launch} {Z : State} {EL : List (String × Nat)} {n0 : Nat} {own nm : String} {code : ByteArray} {ml : Nat} {ret : Option FieldType} {R : Room} {Q : Option Value → Heap → List Addr → Prop} {D : List Addr} {h : Heap} {kc ks pc pc' : Nat} {ls : Array Slot} {st rest : List Value} {a0 : Array Value}
def ConH (w : Nat) (l : Launch) (Z : State) (EL : List (String × Nat)) (n0 : Nat) (y : MethodName) (code : ByteArray) (ml : Nat) (ret : Option FieldType) (hs : List (Nat × Nat × Nat × Nat)) (R : Room) (as' : Array Value) (D : List Addr) (h : Heap) (Q : Option Value → Heap → List Addr → Prop) : Prop :=
  ∀ ws : List Jvm.Cond, MetFree l y (head1 (Jvm.Cond.codeWith y code ml ret hs :: ws) R) (fun a U => a = as' ∧ Z.Warmed39 U.vm ∧ U.heap = h ∧ Old Z n0 h ∧ (∃ a0, EW Z a0 EL) ∧ CHv Z EL U.vm h ∧ ∀ x ∈ D, x < h.size ∧ Safe Z EL U.vm h x) (fun _ _ bl _ _ => Kn w Z bl) (fun _ U o U' => Done w Z EL n0 R Q U o U')
theorem ConH.of_runs {y : MethodName} {as' : Array Value} {hs : List (Nat × Nat × Nat × Nat)} (hp : plainFor y = true) (he : ∀ m, entryFrame m as' ml = mkF m 0 ls []) (K : Runs w l Z EL n0 y.cls y.name code ml ret R Q D h 0 0 0 ls []) : ConH w l Z EL n0 y code ml ret hs R as' D h Q := by
  intro ws
  refine MetFree.of_bodySF hp RoadKit.hisWith ?_
  intro p e s m args below meth c s₁ Bd hml0 hP hK
  obtain ⟨rfl, hZ, hh, hO, hE, hC, hD⟩ := hP
  have hnm := (name_of_methodNamed Bd.named Bd.method).1
  have hown : s.vm.findClass y.cls = some m.cls := findClass_of_methodNamed Bd.named
  have X0 : Stand p l e R s m args below meth c s₁ [] 0 0 := Stand.of_body Bd
  have e0 : s₁.heap = h := by rw [← hh, Bd.state]; rfl
  obtain ⟨s₂, o, S, r1, r2, r3⟩ := K p e s s.vm m args below meth c s₁ [] ⟨Bd.exec, hZ, Bd.bytes, hml0, hown, Bd.returns, Bd.notSynchronized, hnm, by show ThS Z s.heap; rw [hh]; exact ThS.start.ext hO.2⟩ X0 e0 (Fr.nil n0) hO
    ⟨by split; rfl; exact ⟨0, (State.WarmedH.refl s).since 0, Nat.zero_le _⟩, hE, by rw [← hh] at hC ⊢; exact CHr.refl hC, hD⟩ hK
  exact ⟨s₂, o, castTop (he m) S, r1, r2, r3⟩
/-- such a method's contract pays its call: from the caller's frame over the callee's end back to the caller's frame. (The library has this law over the word code, BackS.of_freeWG, and over codeWith for calls that intern nothing, Back.of_freeWith.) -/
theorem ConH.backW {p : Program} {e : Env} {s : State} {vm0 : Vm} {args : Array Value} {below : List Frame} {y : MethodName} {bytes : ByteArray} {maxL : Nat} {rt : Option FieldType} {hs : List (Nat × Nat × Nat × Nat)} {rm : Room} {as' : Array Value} {D0 : List Addr} {Q' : Option Value → Heap → List Addr → Prop} {len W : Nat}
    (w0 : w ≠ 0) (Kw : Kn w Z below) (H : ConH w l Z EL n0 y bytes maxL rt hs rm as' D0 h Q') (hO : Old Z n0 h) (hE : ∃ a0, EW Z a0 EL) (hC : CHv Z EL vm0 h) (hD : ∀ x ∈ D0, x < h.size ∧ Safe Z EL vm0 h x) (hZ : Z.Warmed39 vm0) (wc : (Cond.codeWith y bytes maxL rt hs).before a0 Z = true) (wz : (Cond.initialized y.cls).before a0 Z = true) (hf : rm.frames + 1 ≤ R.frames) (hl : W + (maxL + 11) + rm.locals ≤ R.locals) :
    BackS l R p e below (s.setVm vm0) args y len W (fun A a => a = as' ∧ A.U.heap = h ∧ A.cells + rm.cells ≤ R.cells ∧ A.slots + rm.slots ≤ R.slots)
      (fun A _ v B => ∃ L D', Q' v B.U.heap D' ∧ Old Z n0 B.U.heap ∧ Fr n0 L ∧ CHr Z EL vm0 h B.U.vm B.U.heap ∧ (∀ x ∈ D', x < B.U.heap.size ∧ Safe Z EL B.U.vm B.U.heap x) ∧ B.locs = A.locs ++ L ∧ B.cells = A.cells + rm.cells ∧ B.slots = A.slots + rm.slots) := by
  intro m meth c ⟨U, locs, k0, n0'⟩ g ig mk a Y hg hsz hd hW hn ⟨ha, hUh, hc, hsl⟩
  subst hg
  dsimp only [Pt.U, Pt.locs, Pt.cells, Pt.slots] at *
  obtain ⟨a1, hE1⟩ := id hE
  have hU : Z.Warmed39 U.vm := wtrans (s := s.setVm vm0) hZ Y.warmed
  have wcU : (Cond.codeWith y bytes maxL rt hs).before a U = true := mv hU wc
  obtain ⟨mY, methY, cY, q1, q2, q3, -, q4, -⟩ := Cond.codeWith_spec wcU
  cases hn.symm.trans q1
  obtain ⟨kY, hkY, -⟩ := className_of_methodNamed hn
  have hini := Cond.initialized_spec (findClass_of_methodNamed hn) hkY (mv (args := a) hU wz)
  have hAt : At U g.method c below := Y.here
  have happ : (head1 (Jvm.Cond.codeWith y bytes maxL rt hs :: []) rm).appliesLoose y e.platform (U.calling g mk a) = true :=
    Spec.appliesLoose_calling (g := g) hAt hd hn hkY hini (Y.room_calling (g := g) (R' := rm) hsz q2 q3 hf (by rw [q4]; omega) hc hsl) (by show (Cond.and _ .tt).before a U = true; rw [Cond.before_and, wcU]; rfl)
  obtain ⟨mid, hmid⟩ := hAt.above
  obtain ⟨o, V, hsteps, -, hend, hq⟩ := Steps.callFree (H []) p Y.admits Y.cas Y.clock (acts := []) (s := U.setTop g) (m := mk) (args := a) (mid := .java g :: mid) (below := below) (by rw [State.frames_setTop' g hAt.top, hmid]; rfl) happ
    ⟨ha, hU, hUh, hO, hE, (CHv.at Y hZ hE1 hC).1, fun x hx => ⟨(hD x hx).1, (CHv.at Y hZ hE1 hC).safe (hD x hx).1 (hD x hx).2⟩⟩
    (fun q => by
      have kk := known_frames Y rfl (Vm.MethodsKnown.alikeC hZ.alike (Kw q).1) (Vm.FramesKnown.alikeC hZ.alike (Kw q).2)
      exact ⟨Vm.MethodsKnown.alikeC hU.alike.symm kk.1, Vm.FramesKnown.alikeC hU.alike.symm kk.2⟩)
  obtain ⟨v, L, D', rfl, h2, h3, h4, h5, h6⟩ := hq
  have h6' : ReturnedEndW (U.calling g mk a) (.returned v) V L rm.cells rm.slots := by unfold En at h6; rw [if_neg w0] at h6; exact h6
  obtain ⟨-, hWv, hBv, eV, z2, z3, z4, z5, z6⟩ := id h6'
  have hWU : U.Warmed39 V.vm := hWv
  rw [State.frames_setTop' g hAt.top] at hend
  obtain ⟨c', i', len', hc', hd', hfV⟩ := hend
  obtain rfl : c' = c := Option.some.inj (hc'.symm.trans ((by rw [State.code?_eq, State.code?_eq, hWU.alike.method?] : V.code? g.method = U.code? g.method).trans hAt.code))
  obtain rfl : len' = len := by rw [hd] at hd'; cases hd'; rfl
  obtain ⟨g0, hg0⟩ := Option.isSome_iff_exists.mp hAt.top
  obtain ⟨r, hr⟩ := State.topJava?_eq_some.mp hg0
  obtain ⟨t, ht, -⟩ := State.frames_cons hr
  let N : State := { U with heap := V.heap, slotsUsed := V.slotsUsed }
  have hsame : U.sameButNew N L rm.cells rm.slots := ⟨by show N = { U.setFrames U.frames with heap := V.heap, slotsUsed := V.slotsUsed }; rw [State.setFrames_self ht], z2, z3, z4, z5, z6⟩
  have hV : V = (N.setVm V.vm).setTop { g with pc := g.pc + len', stack := v.toList ++ g.stack } := by
    have e1 : V = ({ (U.calling g mk a).setFrames V.frames with heap := V.heap, slotsUsed := V.slotsUsed } : State).setVm V.vm := by
      have e0 : V = ({ V with vm := (U.calling g mk a).vm } : State).setVm V.vm := rfl
      rw [eV] at e0
      exact e0
    have e2 : (N.setVm V.vm).frames = .java g0 :: r := hr
    refine e1.trans ?_
    rw [hfV, State.calling_eq hAt.top, State.setFrames_setFrames, State.setTop_of_frames _ e2, hr]
    rfl
  obtain ⟨X', hS⟩ := Y.movedW (T₂ := N.setVm V.vm) ((Y.here.setHeapUsed V.heap V.slotsUsed).setVm hWU.alike) Y.tail rfl rfl hWU hBv hsame
  refine ⟨v, ⟨N.setVm V.vm, locs ++ L, k0 + rm.cells, n0' + rm.slots⟩, X', hS, hsame.2.1, ⟨L, D', h2, h3, h4, (CHv.at Y hZ hE1 hC).trans ?_, h5.2, rfl, rfl, rfl⟩, ?_⟩
  · rw [← hUh]; exact h5.1
  · show Steps p.tables e below _ ((N.setVm V.vm).setTop { g with pc := g.pc + len', stack := v.toList ++ g.stack })
    rw [← hV]; exact hsteps
theorem Runs.callCH {y : MethodName} {index : Nat} {bytes : ByteArray} {maxL : Nat} {hs : List (Nat × Nat × Nat × Nat)} {rm : Room} {b : Addr} {argsL : List Value} {Q' : Option Value → Heap → List Addr → Prop} {W : Nat} {ps : List FieldType} {rr : Option FieldType}
    (hd : Ins code pc (.invokespecial index) 3 pc') (hi : y.name = "<init>") (w1 : (Cond.methodLink own index y).before a0 Z = true) (w2 : (Cond.instanceMethod y).before a0 Z = true) (w3 : (Cond.codeWith y bytes maxL none hs).before a0 Z = true) (w4 : (Cond.initialized y.cls).before a0 Z = true) (hy : y.cls ≠ "java/lang/invoke/MethodHandle" ∧ y.cls ≠ "java/lang/invoke/VarHandle")
    (pd : parseMethodDescriptor y.desc = some ⟨ps, rr⟩) (hn : argsL.length = ps.length) (hls : ls.size = ml) (hst : st = argsL.reverse ++ .ref b :: rest) (hW : (rest.map fun v => v.category).sum = W) (hf : rm.frames + 1 ≤ R.frames) (hl : W + (maxL + 11) + rm.locals ≤ R.locals) (hc : kc + rm.cells ≤ R.cells) (hsl : ks + rm.slots ≤ R.slots)
    {D0 : List Addr} (hD0 : ∀ x ∈ D0, x ∈ D) (w0 : w ≠ 0) (H : ConH w l Z EL n0 y bytes maxL none hs rm (.ref b :: argsL).toArray D0 h Q')
    (K : ∀ v h' D', Q' v h' D' → h.size ≤ h'.size → Runs w l Z EL n0 own nm code ml ret R Q (D' ++ D) h' (kc + rm.cells) (ks + rm.slots) pc' ls (v.toList ++ rest)) : Runs w l Z EL n0 own nm code ml ret R Q D h kc ks pc ls st := by
  obtain ⟨hd, rfl⟩ := hd
  intro p e s vm0 m args below meth c T locs C X eT N O Hd Kw
  obtain ⟨mk, -, -, -, vm₁, hnamed, -, -, -, -, -, -, -, hW₁, hstep⟩ := Steps.initColdArgsH (e := e) X.here C.1 X.warmed (by rw [X.admits.platform]) C.2.2.2.2.1 (t := y) hi hy (mvT C.2.1 w1) (mvT (args := args) C.2.1 w2) (mvT (args := args) C.2.1 w3) (f := mkF m pc ls st) rfl (a := b) (argsL := argsL) (rest := rest) (lenOf pd hn) hst (Jvm.hb C.2.2.1 hd)
  have X₁ := X.noted hW₁
  obtain ⟨v, B, XB, hS, -, P, S⟩ := (H.backW (s := s) w0 Kw (W := W) (len := 3) O Hd.2.1 Hd.2.2.1.1 (fun x hx => Hd.2.2.2 x (hD0 x hx)) C.2.1 w3 w4 hf hl) m meth c ⟨T.setVm vm₁, locs, kc, ks⟩ { mkF m pc ls st with stack := rest } (.invokespecial index) mk (.ref b :: argsL).toArray X₁ rfl (by rw [C.2.2.2.1]; exact hls) (Jvm.hb C.2.2.1 hd) (by show 2 * 0 + (rest.map fun v => v.category).sum ≤ W; omega) (X₁.named hnamed) ⟨rfl, eT, hc, hsl⟩
  exact goOnW K w0 Kw C Hd N XB hS P (hstep _ fun acts => by rw [doInvoke_state]; exact S)
theorem Runs.ldcWI {index : Nat} {v : Int32} (hd : Ins code pc (.ldc_w index) 3 pc') (wl : (Cond.constant own index v).before a0 Z = true) (K : Runs w l Z EL n0 own nm code ml ret R Q D h kc ks pc' ls (.int v :: st)) : Runs w l Z EL n0 own nm code ml ret R Q D h kc ks pc ls st := by
  obtain ⟨hd, rfl⟩ := hd
  exact K.warm fun p e s m args below meth c T locs C X eT O => ⟨T, X, eT, fun t S => X.ldcWI C.1 C.2.2.2.2.1 (mv C.2.1 wl) (g := mkF m pc ls st) rfl (Jvm.hb C.2.2.1 hd) S⟩
end Hd

end Jvm.OwnW
namespace Jvm.Pilot.@@N@@
open Jvm Jvm.ClassFile Sem Op Lib Jvm.Free Jvm.Stand Jvm.LawKit Jvm.RoadKit Bundle Jvm.OwnW Jvm.Pilot.@@N@@.Jvm.D
set_option maxRecDepth 65536
set_option maxHeartbeats 4000000
abbrev vi (x : Int32) : Slot := .val (.int x)
abbrev vr (x : Addr) : Slot := .val (.ref x)
theorem mi {α : Type} {l : List α} {a : α} (i : Nat) (h : l[i]? = some a) : a ∈ l := List.mem_of_getElem? h
abbrev SC (Z : State) (cpt : Int32) : Prop := Sta Z Z.heap "java/lang/String" "COMPACT_STRINGS" "Z" (.int cpt)
abbrev SA (Z : State) : Prop := Sta Z Z.heap "java/lang/StringUTF16" "$assertionsDisabled" "Z" (.int 1)
abbrev SH (Z : State) : Prop := Sta Z Z.heap "java/lang/StringUTF16" "HI_BYTE_SHIFT" "I" (.int 0)
abbrev SL (Z : State) : Prop := Sta Z Z.heap "java/lang/StringUTF16" "LO_BYTE_SHIFT" "I" (.int 8)
abbrev SF (Z : State) (fm : Value) : Prop := Sta Z Z.heap "jdk/internal/util/Preconditions" "SIOOBE_FORMATTER" "Ljava/util/function/BiFunction;" fm
abbrev c1_ := prog_5_method_1_code
abbrev c2_ := jdk_30_method_1_code
abbrev c4_ := prog_5_method_2_code
abbrev c5_ := jdk_42_method_49_code
abbrev c6_ := jdk_31_method_10_code
abbrev c7_ := jdk_42_method_11_code
abbrev c8_ := jdk_123_method_3_code
abbrev c9_ := jdk_65_method_132_code
abbrev c10_ := jdk_42_method_3_code
abbrev c11_ := jdk_42_method_149_code
abbrev c12_ := jdk_52_method_16_code
abbrev c13_ := jdk_52_method_21_code
abbrev c14_ := jdk_52_method_15_code
abbrev c15_ := jdk_42_method_66_code
abbrev c16_ := jdk_43_method_13_code
abbrev c17_ := jdk_42_method_35_code
abbrev c18_ := jdk_65_method_121_code
abbrev c19_ := jdk_29_method_69_code
abbrev c20_ := jdk_52_method_2_code
abbrev c21_ := jdk_52_method_3_code
abbrev c22_ := jdk_43_method_50_code
abbrev c23_ := jdk_52_method_86_code
abbrev c24_ := jdk_52_method_94_code
abbrev c25_ := jdk_52_method_6_code
abbrev c26_ := jdk_42_method_157_code
abbrev c27_ := jdk_41_method_13_code
abbrev c28_ := jdk_42_method_38_code
abbrev c29_ := jdk_42_method_37_code
abbrev c30_ := jdk_42_method_32_code
abbrev c31_ := jdk_89_method_13_code
abbrev c32_ := jdk_89_method_28_code
abbrev c33_ := jdk_52_method_4_code
abbrev c34_ := jdk_89_method_29_code
abbrev c35_ := jdk_52_method_14_code
abbrev c36_ := jdk_52_method_5_code
abbrev c37_ := jdk_42_method_29_code
abbrev c38_ := jdk_42_method_30_code
abbrev c39_ := jdk_42_method_36_code
abbrev c40_ := jdk_89_method_16_code
abbrev Wds (Z : State) (a0 : Array Value) : Prop := ∀ d ∈ tables_1, d.before a0 Z = true
section
variable {Z : State} {a0 : Array Value}
theorem w0 (hw : Wds Z a0) : (Jvm.Cond.constant "com/example/gatewarden/gatewarden/bench/ResponseTextPinLaw" (7 : Nat) (2147483647 : Int32)).before a0 Z = true := hw _ (mi 0 rfl)
theorem w1 (hw : Wds Z a0) : (Jvm.Cond.constant "com/example/gatewarden/gatewarden/bench/ResponseTextPinLaw" (8 : Nat) (1114112 : Int32)).before a0 Z = true := hw _ (mi 1 rfl)
theorem w2 (hw : Wds Z a0) : (Jvm.Cond.constant "com/example/gatewarden/gatewarden/bench/ResponseTextPinLaw" (9 : Nat) (55296 : Int32)).before a0 Z = true := hw _ (mi 2 rfl)
theorem w3 (hw : Wds Z a0) : (Jvm.Cond.arrayClass Jvm.ClassFile.FieldType.byte).before a0 Z = true := hw _ (mi 3 rfl)
theorem w4 (hw : Wds Z a0) : (Jvm.Cond.arrayClass Jvm.ClassFile.FieldType.char).before a0 Z = true := hw _ (mi 4 rfl)
theorem w5 (hw : Wds Z a0) : (Jvm.Cond.classLink "com/example/gatewarden/gatewarden/bench/ResponseTextPinLaw" (14 : Nat) "com/example/gatewarden/gatewarden/bench/HttpConnections$Response").before a0 Z = true := hw _ (mi 5 rfl)
theorem w6 (hw : Wds Z a0) : (Jvm.Cond.instantiable "com/example/gatewarden/gatewarden/bench/HttpConnections$Response" (3 : Nat)).before a0 Z = true := hw _ (mi 6 rfl)
theorem w7 (hw : Wds Z a0) : (Jvm.Cond.initialized "com/example/gatewarden/gatewarden/bench/HttpConnections$Response").before a0 Z = true := hw _ (mi 7 rfl)
theorem w8 (hw : Wds Z a0) : (Jvm.Cond.methodLink "com/example/gatewarden/gatewarden/bench/ResponseTextPinLaw" (16 : Nat) ⟨"com/example/gatewarden/gatewarden/bench/HttpConnections$Response", "<init>", "(ILjava/util/Map;[B)V"⟩).before a0 Z = true := hw _ (mi 8 rfl)
theorem w9 (hw : Wds Z a0) : (Jvm.Cond.instanceMethod ⟨"com/example/gatewarden/gatewarden/bench/HttpConnections$Response", "<init>", "(ILjava/util/Map;[B)V"⟩).before a0 Z = true := hw _ (mi 9 rfl)
theorem w10 (hw : Wds Z a0) : (Jvm.Cond.code ⟨"com/example/gatewarden/gatewarden/bench/HttpConnections$Response", "<init>", "(ILjava/util/Map;[B)V"⟩ c1_ (4 : Nat) (Option.none : Option Jvm.ClassFile.FieldType)).before a0 Z = true := hw _ (mi 10 rfl)
theorem w11 (hw : Wds Z a0) : (Jvm.Cond.methodLink "com/example/gatewarden/gatewarden/bench/HttpConnections$Response" (1 : Nat) ⟨"java/lang/Record", "<init>", "()V"⟩).before a0 Z = true := hw _ (mi 11 rfl)
theorem w12 (hw : Wds Z a0) : (Jvm.Cond.instanceMethod ⟨"java/lang/Record", "<init>", "()V"⟩).before a0 Z = true := hw _ (mi 12 rfl)
theorem w14 (hw : Wds Z a0) : (Jvm.Cond.initialized "java/lang/Record").before a0 Z = true := hw _ (mi 14 rfl)
theorem w15 (hw : Wds Z a0) : (Jvm.Cond.code ⟨"java/lang/Record", "<init>", "()V"⟩ c2_ (1 : Nat) (Option.none : Option Jvm.ClassFile.FieldType)).before a0 Z = true := hw _ (mi 15 rfl)
theorem w16 (hw : Wds Z a0) : (Jvm.Cond.methodLink "java/lang/Record" (1 : Nat) ⟨"java/lang/Object", "<init>", "()V"⟩).before a0 Z = true := hw _ (mi 16 rfl)
theorem w17 (hw : Wds Z a0) : (Jvm.Cond.instanceMethod ⟨"java/lang/Object", "<init>", "()V"⟩).before a0 Z = true := hw _ (mi 17 rfl)
theorem w18 (hw : Wds Z a0) : (Jvm.Cond.code ⟨"java/lang/Object", "<init>", "()V"⟩ object_method_1_code (1 : Nat) (Option.none : Option Jvm.ClassFile.FieldType)).before a0 Z = true := hw _ (mi 18 rfl)
theorem w19 (hw : Wds Z a0) : (Jvm.Cond.fieldLink "com/example/gatewarden/gatewarden/bench/HttpConnections$Response" (7 : Nat) "com/example/gatewarden/gatewarden/bench/HttpConnections$Response" "status" "I").before a0 Z = true := hw _ (mi 19 rfl)
theorem w20 (hw : Wds Z a0) : (Jvm.Cond.laysFinal "com/example/gatewarden/gatewarden/bench/HttpConnections$Response" "com/example/gatewarden/gatewarden/bench/HttpConnections$Response" "status" "I").before a0 Z = true := hw _ (mi 20 rfl)
theorem w21 (hw : Wds Z a0) : (Jvm.Cond.fieldLink "com/example/gatewarden/gatewarden/bench/HttpConnections$Response" (13 : Nat) "com/example/gatewarden/gatewarden/bench/HttpConnections$Response" "headers" "Ljava/util/Map;").before a0 Z = true := hw _ (mi 21 rfl)
theorem w22 (hw : Wds Z a0) : (Jvm.Cond.laysFinal "com/example/gatewarden/gatewarden/bench/HttpConnections$Response" "com/example/gatewarden/gatewarden/bench/HttpConnections$Response" "headers" "Ljava/util/Map;").before a0 Z = true := hw _ (mi 22 rfl)
theorem w23 (hw : Wds Z a0) : (Jvm.Cond.fieldLink "com/example/gatewarden/gatewarden/bench/HttpConnections$Response" (17 : Nat) "com/example/gatewarden/gatewarden/bench/HttpConnections$Response" "body" "[B").before a0 Z = true := hw _ (mi 23 rfl)
theorem w24 (hw : Wds Z a0) : (Jvm.Cond.laysFinal "com/example/gatewarden/gatewarden/bench/HttpConnections$Response" "com/example/gatewarden/gatewarden/bench/HttpConnections$Response" "body" "[B").before a0 Z = true := hw _ (mi 24 rfl)
theorem w25 (hw : Wds Z a0) : (Jvm.Cond.methodLink "com/example/gatewarden/gatewarden/bench/ResponseTextPinLaw" (19 : Nat) ⟨"com/example/gatewarden/gatewarden/bench/HttpConnections$Response", "text", "()Ljava/lang/String;"⟩).before a0 Z = true := hw _ (mi 25 rfl)
theorem w26 (hw : Wds Z a0) : (Jvm.Cond.declares ⟨"com/example/gatewarden/gatewarden/bench/HttpConnections$Response", "text", "()Ljava/lang/String;"⟩).before a0 Z = true := hw _ (mi 26 rfl)
theorem w27 (hw : Wds Z a0) : (Jvm.Cond.instanceMethod ⟨"com/example/gatewarden/gatewarden/bench/HttpConnections$Response", "text", "()Ljava/lang/String;"⟩).before a0 Z = true := hw _ (mi 27 rfl)
theorem w28 (hw : Wds Z a0) : (Jvm.Cond.selects "com/example/gatewarden/gatewarden/bench/HttpConnections$Response" ⟨"com/example/gatewarden/gatewarden/bench/HttpConnections$Response", "text", "()Ljava/lang/String;"⟩ ⟨"com/example/gatewarden/gatewarden/bench/HttpConnections$Response", "text", "()Ljava/lang/String;"⟩).before a0 Z = true := hw _ (mi 28 rfl)
theorem w29 (hw : Wds Z a0) : (Jvm.Cond.code ⟨"com/example/gatewarden/gatewarden/bench/HttpConnections$Response", "text", "()Ljava/lang/String;"⟩ c4_ (1 : Nat) (Option.some (Jvm.ClassFile.FieldType.object "java/lang/String"))).before a0 Z = true := hw _ (mi 29 rfl)
theorem w30 (hw : Wds Z a0) : (Jvm.Cond.classLink "com/example/gatewarden/gatewarden/bench/HttpConnections$Response" (21 : Nat) "java/lang/String").before a0 Z = true := hw _ (mi 30 rfl)
theorem w31 (hw : Wds Z a0) : (Jvm.Cond.instantiable "java/lang/String" (4 : Nat)).before a0 Z = true := hw _ (mi 31 rfl)
theorem w32 (hw : Wds Z a0) : (Jvm.Cond.initialized "java/lang/String").before a0 Z = true := hw _ (mi 32 rfl)
theorem w33 (hw : Wds Z a0) : (Jvm.Cond.fieldLink "com/example/gatewarden/gatewarden/bench/HttpConnections$Response" (23 : Nat) "java/nio/charset/StandardCharsets" "UTF_8" "Ljava/nio/charset/Charset;").before a0 Z = true := hw _ (mi 33 rfl)
theorem w35 (hw : Wds Z a0) : (Jvm.Cond.methodLink "com/example/gatewarden/gatewarden/bench/HttpConnections$Response" (29 : Nat) ⟨"java/lang/String", "<init>", "([BLjava/nio/charset/Charset;)V"⟩).before a0 Z = true := hw _ (mi 35 rfl)
theorem w36 (hw : Wds Z a0) : (Jvm.Cond.instanceMethod ⟨"java/lang/String", "<init>", "([BLjava/nio/charset/Charset;)V"⟩).before a0 Z = true := hw _ (mi 36 rfl)
theorem w37 (hw : Wds Z a0) : (Jvm.Cond.code ⟨"java/lang/String", "<init>", "([BLjava/nio/charset/Charset;)V"⟩ c5_ (3 : Nat) (Option.none : Option Jvm.ClassFile.FieldType)).before a0 Z = true := hw _ (mi 37 rfl)
theorem w38 (hw : Wds Z a0) : (Jvm.Cond.methodLink "java/lang/String" (78 : Nat) ⟨"java/util/Objects", "requireNonNull", "(Ljava/lang/Object;)Ljava/lang/Object;"⟩).before a0 Z = true := hw _ (mi 38 rfl)
theorem w39 (hw : Wds Z a0) : (Jvm.Cond.static ⟨"java/util/Objects", "requireNonNull", "(Ljava/lang/Object;)Ljava/lang/Object;"⟩).before a0 Z = true := hw _ (mi 39 rfl)
theorem w40 (hw : Wds Z a0) : (Jvm.Cond.initialized "java/util/Objects").before a0 Z = true := hw _ (mi 40 rfl)
theorem w41 (hw : Wds Z a0) : (Jvm.Cond.code ⟨"java/util/Objects", "requireNonNull", "(Ljava/lang/Object;)Ljava/lang/Object;"⟩ c6_ (1 : Nat) (Option.some (Jvm.ClassFile.FieldType.object "java/lang/Object"))).before a0 Z = true := hw _ (mi 41 rfl)
theorem w42 (hw : Wds Z a0) : (Jvm.Cond.classLink "java/lang/String" (84 : Nat) "java/nio/charset/Charset").before a0 Z = true := hw _ (mi 42 rfl)
theorem w43 (hw : Wds Z a0) : (Jvm.Cond.castable "sun/nio/cs/UTF_8" "java/nio/charset/Charset").before a0 Z = true := hw _ (mi 43 rfl)
theorem w44 (hw : Wds Z a0) : (Jvm.Cond.methodLink "java/lang/String" (75 : Nat) ⟨"java/lang/String", "<init>", "(Ljava/nio/charset/Charset;[BII)V"⟩).before a0 Z = true := hw _ (mi 44 rfl)
theorem w45 (hw : Wds Z a0) : (Jvm.Cond.instanceMethod ⟨"java/lang/String", "<init>", "(Ljava/nio/charset/Charset;[BII)V"⟩).before a0 Z = true := hw _ (mi 45 rfl)
theorem w47 (hw : Wds Z a0) : (Jvm.Cond.codeWith ⟨"java/lang/String", "<init>", "(Ljava/nio/charset/Charset;[BII)V"⟩ c7_ (11 : Nat) (Option.none : Option Jvm.ClassFile.FieldType) [((800 : Nat), (813 : Nat), (816 : Nat), (202 : Nat))]).before a0 Z = true := hw _ (mi 47 rfl)
theorem w48 (hw : Wds Z a0) : (Jvm.Cond.methodLink "java/lang/String" (1 : Nat) ⟨"java/lang/Object", "<init>", "()V"⟩).before a0 Z = true := hw _ (mi 48 rfl)
theorem w49 (hw : Wds Z a0) : (Jvm.Cond.fieldLink "java/lang/String" (86 : Nat) "sun/nio/cs/UTF_8" "INSTANCE" "Lsun/nio/cs/UTF_8;").before a0 Z = true := hw _ (mi 49 rfl)
theorem w51 (hw : Wds Z a0) : (Jvm.Cond.fieldLink "java/lang/String" (38 : Nat) "java/lang/String" "COMPACT_STRINGS" "Z").before a0 Z = true := hw _ (mi 51 rfl)
theorem w52 (hw : Wds Z a0) : (Jvm.Cond.methodLink "java/lang/String" (92 : Nat) ⟨"java/lang/StringCoding", "countPositives", "([BII)I"⟩).before a0 Z = true := hw _ (mi 52 rfl)
theorem w53 (hw : Wds Z a0) : (Jvm.Cond.static ⟨"java/lang/StringCoding", "countPositives", "([BII)I"⟩).before a0 Z = true := hw _ (mi 53 rfl)
theorem w54 (hw : Wds Z a0) : (Jvm.Cond.initialized "java/lang/StringCoding").before a0 Z = true := hw _ (mi 54 rfl)
theorem w55 (hw : Wds Z a0) : (Jvm.Cond.code ⟨"java/lang/StringCoding", "countPositives", "([BII)I"⟩ c8_ (5 : Nat) (Option.some Jvm.ClassFile.FieldType.int)).before a0 Z = true := hw _ (mi 55 rfl)
theorem w56 (hw : Wds Z a0) : (Jvm.Cond.methodLink "java/lang/String" (54 : Nat) ⟨"java/util/Arrays", "copyOfRange", "([BII)[B"⟩).before a0 Z = true := hw _ (mi 56 rfl)
theorem w57 (hw : Wds Z a0) : (Jvm.Cond.static ⟨"java/util/Arrays", "copyOfRange", "([BII)[B"⟩).before a0 Z = true := hw _ (mi 57 rfl)
theorem w58 (hw : Wds Z a0) : (Jvm.Cond.initialized "java/util/Arrays").before a0 Z = true := hw _ (mi 58 rfl)
theorem w59 (hw : Wds Z a0) : (Jvm.Cond.code ⟨"java/util/Arrays", "copyOfRange", "([BII)[B"⟩ c9_ (3 : Nat) (Option.some (Jvm.ClassFile.FieldType.array Jvm.ClassFile.FieldType.byte))).before a0 Z = true := hw _ (mi 59 rfl)
theorem w60 (hw : Wds Z a0) : (Jvm.Cond.methodLink "java/util/Arrays" (310 : Nat) ⟨"[B", "clone", "()Ljava/lang/Object;"⟩).before a0 Z = true := hw _ (mi 60 rfl)
theorem w61 (hw : Wds Z a0) : (Jvm.Cond.sameMethod "[B" "java/lang/Object" "clone" "()Ljava/lang/Object;").before a0 Z = true := hw _ (mi 61 rfl)
theorem w63 (hw : Wds Z a0) : (Jvm.Cond.instanceMethod ⟨"java/lang/Object", "clone", "()Ljava/lang/Object;"⟩).before a0 Z = true := hw _ (mi 63 rfl)
theorem w64 (hw : Wds Z a0) : (Jvm.Cond.selects "[B" ⟨"[B", "clone", "()Ljava/lang/Object;"⟩ ⟨"java/lang/Object", "clone", "()Ljava/lang/Object;"⟩).before a0 Z = true := hw _ (mi 64 rfl)
theorem w65 (hw : Wds Z a0) : (Jvm.Cond.native ⟨"java/lang/Object", "clone", "()Ljava/lang/Object;"⟩).before a0 Z = true := hw _ (mi 65 rfl)
theorem w66 (hw : Wds Z a0) : (Jvm.Cond.castable "[B" "java/lang/Cloneable").before a0 Z = true := hw _ (mi 66 rfl)
theorem w67 (hw : Wds Z a0) : (Jvm.Cond.classLink "java/util/Arrays" (311 : Nat) "[B").before a0 Z = true := hw _ (mi 67 rfl)
theorem w69 (hw : Wds Z a0) : (Jvm.Cond.fieldLink "java/lang/String" (9 : Nat) "java/lang/String" "value" "[B").before a0 Z = true := hw _ (mi 69 rfl)
theorem w70 (hw : Wds Z a0) : (Jvm.Cond.laysFinal "java/lang/String" "java/lang/String" "value" "[B").before a0 Z = true := hw _ (mi 70 rfl)
theorem w71 (hw : Wds Z a0) : (Jvm.Cond.fieldLink "java/lang/String" (15 : Nat) "java/lang/String" "coder" "B").before a0 Z = true := hw _ (mi 71 rfl)
theorem w72 (hw : Wds Z a0) : (Jvm.Cond.laysFinal "java/lang/String" "java/lang/String" "coder" "B").before a0 Z = true := hw _ (mi 72 rfl)
theorem w73 (hw : Wds Z a0) : (Jvm.Cond.classLink "com/example/gatewarden/gatewarden/bench/ResponseTextPinLaw" (23 : Nat) "java/lang/String").before a0 Z = true := hw _ (mi 73 rfl)
theorem w74 (hw : Wds Z a0) : (Jvm.Cond.methodLink "com/example/gatewarden/gatewarden/bench/ResponseTextPinLaw" (25 : Nat) ⟨"java/lang/String", "<init>", "([C)V"⟩).before a0 Z = true := hw _ (mi 74 rfl)
theorem w75 (hw : Wds Z a0) : (Jvm.Cond.instanceMethod ⟨"java/lang/String", "<init>", "([C)V"⟩).before a0 Z = true := hw _ (mi 75 rfl)
theorem w76 (hw : Wds Z a0) : (Jvm.Cond.code ⟨"java/lang/String", "<init>", "([C)V"⟩ c10_ (2 : Nat) (Option.none : Option Jvm.ClassFile.FieldType)).before a0 Z = true := hw _ (mi 76 rfl)
theorem w77 (hw : Wds Z a0) : (Jvm.Cond.methodLink "java/lang/String" (27 : Nat) ⟨"java/lang/String", "<init>", "([CIILjava/lang/Void;)V"⟩).before a0 Z = true := hw _ (mi 77 rfl)
theorem w78 (hw : Wds Z a0) : (Jvm.Cond.instanceMethod ⟨"java/lang/String", "<init>", "([CIILjava/lang/Void;)V"⟩).before a0 Z = true := hw _ (mi 78 rfl)
theorem w79 (hw : Wds Z a0) : (Jvm.Cond.code ⟨"java/lang/String", "<init>", "([CIILjava/lang/Void;)V"⟩ c11_ (6 : Nat) (Option.none : Option Jvm.ClassFile.FieldType)).before a0 Z = true := hw _ (mi 79 rfl)
theorem w80 (hw : Wds Z a0) : (Jvm.Cond.methodLink "java/lang/String" (177 : Nat) ⟨"java/lang/StringUTF16", "compress", "([CII)[B"⟩).before a0 Z = true := hw _ (mi 80 rfl)
theorem w81 (hw : Wds Z a0) : (Jvm.Cond.static ⟨"java/lang/StringUTF16", "compress", "([CII)[B"⟩).before a0 Z = true := hw _ (mi 81 rfl)
theorem w82 (hw : Wds Z a0) : (Jvm.Cond.initialized "java/lang/StringUTF16").before a0 Z = true := hw _ (mi 82 rfl)
theorem w83 (hw : Wds Z a0) : (Jvm.Cond.code ⟨"java/lang/StringUTF16", "compress", "([CII)[B"⟩ c12_ (6 : Nat) (Option.some (Jvm.ClassFile.FieldType.array Jvm.ClassFile.FieldType.byte))).before a0 Z = true := hw _ (mi 83 rfl)
theorem w84 (hw : Wds Z a0) : (Jvm.Cond.methodLink "java/lang/StringUTF16" (115 : Nat) ⟨"java/lang/StringUTF16", "compress", "([CI[BII)I"⟩).before a0 Z = true := hw _ (mi 84 rfl)
theorem w85 (hw : Wds Z a0) : (Jvm.Cond.static ⟨"java/lang/StringUTF16", "compress", "([CI[BII)I"⟩).before a0 Z = true := hw _ (mi 85 rfl)
theorem w86 (hw : Wds Z a0) : (Jvm.Cond.code ⟨"java/lang/StringUTF16", "compress", "([CI[BII)I"⟩ c13_ (7 : Nat) (Option.some Jvm.ClassFile.FieldType.int)).before a0 Z = true := hw _ (mi 86 rfl)
theorem w87 (hw : Wds Z a0) : (Jvm.Cond.methodLink "java/lang/String" (47 : Nat) ⟨"java/lang/StringUTF16", "coderFromArrayLen", "([BI)B"⟩).before a0 Z = true := hw _ (mi 87 rfl)
theorem w88 (hw : Wds Z a0) : (Jvm.Cond.static ⟨"java/lang/StringUTF16", "coderFromArrayLen", "([BI)B"⟩).before a0 Z = true := hw _ (mi 88 rfl)
theorem w89 (hw : Wds Z a0) : (Jvm.Cond.code ⟨"java/lang/StringUTF16", "coderFromArrayLen", "([BI)B"⟩ c14_ (2 : Nat) (Option.some Jvm.ClassFile.FieldType.byte)).before a0 Z = true := hw _ (mi 89 rfl)
theorem w90 (hw : Wds Z a0) : (Jvm.Cond.methodLink "com/example/gatewarden/gatewarden/bench/ResponseTextPinLaw" (28 : Nat) ⟨"java/lang/String", "equals", "(Ljava/lang/Object;)Z"⟩).before a0 Z = true := hw _ (mi 90 rfl)
theorem w91 (hw : Wds Z a0) : (Jvm.Cond.declares ⟨"java/lang/String", "equals", "(Ljava/lang/Object;)Z"⟩).before a0 Z = true := hw _ (mi 91 rfl)
theorem w92 (hw : Wds Z a0) : (Jvm.Cond.instanceMethod ⟨"java/lang/String", "equals", "(Ljava/lang/Object;)Z"⟩).before a0 Z = true := hw _ (mi 92 rfl)
theorem w93 (hw : Wds Z a0) : (Jvm.Cond.selects "java/lang/String" ⟨"java/lang/String", "equals", "(Ljava/lang/Object;)Z"⟩ ⟨"java/lang/String", "equals", "(Ljava/lang/Object;)Z"⟩).before a0 Z = true := hw _ (mi 93 rfl)
theorem w94 (hw : Wds Z a0) : (Jvm.Cond.code ⟨"java/lang/String", "equals", "(Ljava/lang/Object;)Z"⟩ c15_ (3 : Nat) (Option.some Jvm.ClassFile.FieldType.boolean)).before a0 Z = true := hw _ (mi 94 rfl)
theorem w95 (hw : Wds Z a0) : (Jvm.Cond.classLink "java/lang/String" (10 : Nat) "java/lang/String").before a0 Z = true := hw _ (mi 95 rfl)
theorem w96 (hw : Wds Z a0) : (Jvm.Cond.methodLink "java/lang/String" (541 : Nat) ⟨"java/lang/StringLatin1", "equals", "([B[B)Z"⟩).before a0 Z = true := hw _ (mi 96 rfl)
theorem w97 (hw : Wds Z a0) : (Jvm.Cond.static ⟨"java/lang/StringLatin1", "equals", "([B[B)Z"⟩).before a0 Z = true := hw _ (mi 97 rfl)
theorem w98 (hw : Wds Z a0) : (Jvm.Cond.initialized "java/lang/StringLatin1").before a0 Z = true := hw _ (mi 98 rfl)
theorem w99 (hw : Wds Z a0) : (Jvm.Cond.code ⟨"java/lang/StringLatin1", "equals", "([B[B)Z"⟩ c16_ (3 : Nat) (Option.some Jvm.ClassFile.FieldType.boolean)).before a0 Z = true := hw _ (mi 99 rfl)
theorem w100 (hw : Wds Z a0) : (Jvm.Cond.constant "com/example/gatewarden/gatewarden/bench/ResponseTextPinLaw" (11 : Nat) (65536 : Int32)).before a0 Z = true := hw _ (mi 100 rfl)
theorem w101 (hw : Wds Z a0) : (Jvm.Cond.methodLink "java/lang/String" (98 : Nat) ⟨"java/lang/String", "decode2", "(II)C"⟩).before a0 Z = true := hw _ (mi 101 rfl)
theorem w102 (hw : Wds Z a0) : (Jvm.Cond.static ⟨"java/lang/String", "decode2", "(II)C"⟩).before a0 Z = true := hw _ (mi 102 rfl)
theorem w103 (hw : Wds Z a0) : (Jvm.Cond.code ⟨"java/lang/String", "decode2", "(II)C"⟩ c17_ (2 : Nat) (Option.some Jvm.ClassFile.FieldType.char)).before a0 Z = true := hw _ (mi 103 rfl)
theorem w104 (hw : Wds Z a0) : (Jvm.Cond.methodLink "java/lang/String" (102 : Nat) ⟨"java/util/Arrays", "copyOf", "([BI)[B"⟩).before a0 Z = true := hw _ (mi 104 rfl)
theorem w105 (hw : Wds Z a0) : (Jvm.Cond.static ⟨"java/util/Arrays", "copyOf", "([BI)[B"⟩).before a0 Z = true := hw _ (mi 105 rfl)
theorem w106 (hw : Wds Z a0) : (Jvm.Cond.code ⟨"java/util/Arrays", "copyOf", "([BI)[B"⟩ c18_ (3 : Nat) (Option.some (Jvm.ClassFile.FieldType.array Jvm.ClassFile.FieldType.byte))).before a0 Z = true := hw _ (mi 106 rfl)
theorem w107 (hw : Wds Z a0) : (Jvm.Cond.methodLink "java/util/Arrays" (304 : Nat) ⟨"java/lang/Math", "min", "(II)I"⟩).before a0 Z = true := hw _ (mi 107 rfl)
theorem w108 (hw : Wds Z a0) : (Jvm.Cond.static ⟨"java/lang/Math", "min", "(II)I"⟩).before a0 Z = true := hw _ (mi 108 rfl)
theorem w109 (hw : Wds Z a0) : (Jvm.Cond.initialized "java/lang/Math").before a0 Z = true := hw _ (mi 109 rfl)
theorem w110 (hw : Wds Z a0) : (Jvm.Cond.code ⟨"java/lang/Math", "min", "(II)I"⟩ c19_ (2 : Nat) (Option.some Jvm.ClassFile.FieldType.int)).before a0 Z = true := hw _ (mi 110 rfl)
theorem w111 (hw : Wds Z a0) : (Jvm.Cond.methodLink "java/util/Arrays" (150 : Nat) ⟨"java/lang/System", "arraycopy", "(Ljava/lang/Object;ILjava/lang/Object;II)V"⟩).before a0 Z = true := hw _ (mi 111 rfl)
theorem w112 (hw : Wds Z a0) : (Jvm.Cond.static ⟨"java/lang/System", "arraycopy", "(Ljava/lang/Object;ILjava/lang/Object;II)V"⟩).before a0 Z = true := hw _ (mi 112 rfl)
theorem w113 (hw : Wds Z a0) : (Jvm.Cond.initialized "java/lang/System").before a0 Z = true := hw _ (mi 113 rfl)
theorem w114 (hw : Wds Z a0) : (Jvm.Cond.native ⟨"java/lang/System", "arraycopy", "(Ljava/lang/Object;ILjava/lang/Object;II)V"⟩).before a0 Z = true := hw _ (mi 114 rfl)
theorem w115 (hw : Wds Z a0) : (Jvm.Cond.constant "com/example/gatewarden/gatewarden/bench/ResponseTextPinLaw" (10 : Nat) (57343 : Int32)).before a0 Z = true := hw _ (mi 115 rfl)
theorem w116 (hw : Wds Z a0) : (Jvm.Cond.constant "com/example/gatewarden/gatewarden/bench/ResponseTextPinLaw" (12 : Nat) (56320 : Int32)).before a0 Z = true := hw _ (mi 116 rfl)
theorem w117 (hw : Wds Z a0) : (Jvm.Cond.methodLink "java/lang/String" (60 : Nat) ⟨"java/lang/StringUTF16", "newBytesFor", "(I)[B"⟩).before a0 Z = true := hw _ (mi 117 rfl)
theorem w118 (hw : Wds Z a0) : (Jvm.Cond.static ⟨"java/lang/StringUTF16", "newBytesFor", "(I)[B"⟩).before a0 Z = true := hw _ (mi 118 rfl)
theorem w119 (hw : Wds Z a0) : (Jvm.Cond.code ⟨"java/lang/StringUTF16", "newBytesFor", "(I)[B"⟩ c20_ (1 : Nat) (Option.some (Jvm.ClassFile.FieldType.array Jvm.ClassFile.FieldType.byte))).before a0 Z = true := hw _ (mi 119 rfl)
theorem w120 (hw : Wds Z a0) : (Jvm.Cond.methodLink "java/lang/StringUTF16" (11 : Nat) ⟨"java/lang/StringUTF16", "newBytesLength", "(I)I"⟩).before a0 Z = true := hw _ (mi 120 rfl)
theorem w121 (hw : Wds Z a0) : (Jvm.Cond.static ⟨"java/lang/StringUTF16", "newBytesLength", "(I)I"⟩).before a0 Z = true := hw _ (mi 121 rfl)
theorem w122 (hw : Wds Z a0) : (Jvm.Cond.code ⟨"java/lang/StringUTF16", "newBytesLength", "(I)I"⟩ c21_ (1 : Nat) (Option.some Jvm.ClassFile.FieldType.int)).before a0 Z = true := hw _ (mi 122 rfl)
theorem w123 (hw : Wds Z a0) : (Jvm.Cond.constant "java/lang/StringUTF16" (20 : Nat) (1073741823 : Int32)).before a0 Z = true := hw _ (mi 123 rfl)
theorem w124 (hw : Wds Z a0) : (Jvm.Cond.methodLink "java/lang/String" (106 : Nat) ⟨"java/lang/StringLatin1", "inflate", "([BI[BII)V"⟩).before a0 Z = true := hw _ (mi 124 rfl)
theorem w125 (hw : Wds Z a0) : (Jvm.Cond.static ⟨"java/lang/StringLatin1", "inflate", "([BI[BII)V"⟩).before a0 Z = true := hw _ (mi 125 rfl)
theorem w126 (hw : Wds Z a0) : (Jvm.Cond.code ⟨"java/lang/StringLatin1", "inflate", "([BI[BII)V"⟩ c22_ (5 : Nat) (Option.none : Option Jvm.ClassFile.FieldType)).before a0 Z = true := hw _ (mi 126 rfl)
theorem w127 (hw : Wds Z a0) : (Jvm.Cond.methodLink "java/lang/StringLatin1" (240 : Nat) ⟨"java/lang/StringUTF16", "inflate", "([BI[BII)V"⟩).before a0 Z = true := hw _ (mi 127 rfl)
theorem w128 (hw : Wds Z a0) : (Jvm.Cond.static ⟨"java/lang/StringUTF16", "inflate", "([BI[BII)V"⟩).before a0 Z = true := hw _ (mi 128 rfl)
theorem w129 (hw : Wds Z a0) : (Jvm.Cond.code ⟨"java/lang/StringUTF16", "inflate", "([BI[BII)V"⟩ c23_ (6 : Nat) (Option.none : Option Jvm.ClassFile.FieldType)).before a0 Z = true := hw _ (mi 129 rfl)
theorem w130 (hw : Wds Z a0) : (Jvm.Cond.methodLink "java/lang/StringUTF16" (173 : Nat) ⟨"java/lang/StringUTF16", "checkBoundsOffCount", "(II[B)V"⟩).before a0 Z = true := hw _ (mi 130 rfl)
theorem w131 (hw : Wds Z a0) : (Jvm.Cond.static ⟨"java/lang/StringUTF16", "checkBoundsOffCount", "(II[B)V"⟩).before a0 Z = true := hw _ (mi 131 rfl)
theorem w132 (hw : Wds Z a0) : (Jvm.Cond.code ⟨"java/lang/StringUTF16", "checkBoundsOffCount", "(II[B)V"⟩ c24_ (3 : Nat) (Option.none : Option Jvm.ClassFile.FieldType)).before a0 Z = true := hw _ (mi 132 rfl)
theorem w133 (hw : Wds Z a0) : (Jvm.Cond.methodLink "java/lang/StringUTF16" (48 : Nat) ⟨"java/lang/StringUTF16", "length", "([B)I"⟩).before a0 Z = true := hw _ (mi 133 rfl)
theorem w134 (hw : Wds Z a0) : (Jvm.Cond.static ⟨"java/lang/StringUTF16", "length", "([B)I"⟩).before a0 Z = true := hw _ (mi 134 rfl)
theorem w135 (hw : Wds Z a0) : (Jvm.Cond.code ⟨"java/lang/StringUTF16", "length", "([B)I"⟩ c25_ (1 : Nat) (Option.some Jvm.ClassFile.FieldType.int)).before a0 Z = true := hw _ (mi 135 rfl)
theorem w136 (hw : Wds Z a0) : (Jvm.Cond.methodLink "java/lang/StringUTF16" (419 : Nat) ⟨"java/lang/String", "checkBoundsOffCount", "(III)I"⟩).before a0 Z = true := hw _ (mi 136 rfl)
theorem w137 (hw : Wds Z a0) : (Jvm.Cond.static ⟨"java/lang/String", "checkBoundsOffCount", "(III)I"⟩).before a0 Z = true := hw _ (mi 137 rfl)
theorem w138 (hw : Wds Z a0) : (Jvm.Cond.code ⟨"java/lang/String", "checkBoundsOffCount", "(III)I"⟩ c26_ (3 : Nat) (Option.some Jvm.ClassFile.FieldType.int)).before a0 Z = true := hw _ (mi 138 rfl)
theorem w139 (hw : Wds Z a0) : (Jvm.Cond.fieldLink "java/lang/String" (1053 : Nat) "jdk/internal/util/Preconditions" "SIOOBE_FORMATTER" "Ljava/util/function/BiFunction;").before a0 Z = true := hw _ (mi 139 rfl)
theorem w140 (hw : Wds Z a0) : (Jvm.Cond.initialized "jdk/internal/util/Preconditions").before a0 Z = true := hw _ (mi 140 rfl)
theorem w141 (hw : Wds Z a0) : (Jvm.Cond.methodLink "java/lang/String" (1065 : Nat) ⟨"jdk/internal/util/Preconditions", "checkFromIndexSize", "(IIILjava/util/function/BiFunction;)I"⟩).before a0 Z = true := hw _ (mi 141 rfl)
theorem w142 (hw : Wds Z a0) : (Jvm.Cond.static ⟨"jdk/internal/util/Preconditions", "checkFromIndexSize", "(IIILjava/util/function/BiFunction;)I"⟩).before a0 Z = true := hw _ (mi 142 rfl)
theorem w143 (hw : Wds Z a0) : (Jvm.Cond.code ⟨"jdk/internal/util/Preconditions", "checkFromIndexSize", "(IIILjava/util/function/BiFunction;)I"⟩ c27_ (4 : Nat) (Option.some Jvm.ClassFile.FieldType.int)).before a0 Z = true := hw _ (mi 143 rfl)
theorem w144 (hw : Wds Z a0) : (Jvm.Cond.methodLink "java/lang/String" (112 : Nat) ⟨"java/lang/String", "decodeUTF8_UTF16", "([BII[BIZ)I"⟩).before a0 Z = true := hw _ (mi 144 rfl)
theorem w145 (hw : Wds Z a0) : (Jvm.Cond.static ⟨"java/lang/String", "decodeUTF8_UTF16", "([BII[BIZ)I"⟩).before a0 Z = true := hw _ (mi 145 rfl)
theorem w146 (hw : Wds Z a0) : (Jvm.Cond.code ⟨"java/lang/String", "decodeUTF8_UTF16", "([BII[BIZ)I"⟩ c28_ (11 : Nat) (Option.some Jvm.ClassFile.FieldType.int)).before a0 Z = true := hw _ (mi 146 rfl)
theorem w147 (hw : Wds Z a0) : (Jvm.Cond.methodLink "java/lang/String" (411 : Nat) ⟨"java/lang/String", "decode4", "(IIII)I"⟩).before a0 Z = true := hw _ (mi 147 rfl)
theorem w148 (hw : Wds Z a0) : (Jvm.Cond.static ⟨"java/lang/String", "decode4", "(IIII)I"⟩).before a0 Z = true := hw _ (mi 148 rfl)
theorem w149 (hw : Wds Z a0) : (Jvm.Cond.code ⟨"java/lang/String", "decode4", "(IIII)I"⟩ c29_ (4 : Nat) (Option.some Jvm.ClassFile.FieldType.int)).before a0 Z = true := hw _ (mi 149 rfl)
theorem w150 (hw : Wds Z a0) : (Jvm.Cond.constant "java/lang/String" (384 : Nat) (3678080 : Int32)).before a0 Z = true := hw _ (mi 150 rfl)
theorem w151 (hw : Wds Z a0) : (Jvm.Cond.methodLink "java/lang/String" (415 : Nat) ⟨"java/lang/String", "isMalformed4", "(III)Z"⟩).before a0 Z = true := hw _ (mi 151 rfl)
theorem w152 (hw : Wds Z a0) : (Jvm.Cond.static ⟨"java/lang/String", "isMalformed4", "(III)Z"⟩).before a0 Z = true := hw _ (mi 152 rfl)
theorem w153 (hw : Wds Z a0) : (Jvm.Cond.code ⟨"java/lang/String", "isMalformed4", "(III)Z"⟩ c30_ (3 : Nat) (Option.some Jvm.ClassFile.FieldType.boolean)).before a0 Z = true := hw _ (mi 153 rfl)
theorem w154 (hw : Wds Z a0) : (Jvm.Cond.methodLink "java/lang/String" (418 : Nat) ⟨"java/lang/Character", "isSupplementaryCodePoint", "(I)Z"⟩).before a0 Z = true := hw _ (mi 154 rfl)
theorem w155 (hw : Wds Z a0) : (Jvm.Cond.static ⟨"java/lang/Character", "isSupplementaryCodePoint", "(I)Z"⟩).before a0 Z = true := hw _ (mi 155 rfl)
theorem w156 (hw : Wds Z a0) : (Jvm.Cond.initialized "java/lang/Character").before a0 Z = true := hw _ (mi 156 rfl)
theorem w157 (hw : Wds Z a0) : (Jvm.Cond.code ⟨"java/lang/Character", "isSupplementaryCodePoint", "(I)Z"⟩ c31_ (1 : Nat) (Option.some Jvm.ClassFile.FieldType.boolean)).before a0 Z = true := hw _ (mi 157 rfl)
theorem w158 (hw : Wds Z a0) : (Jvm.Cond.constant "java/lang/Character" (73 : Nat) (65536 : Int32)).before a0 Z = true := hw _ (mi 158 rfl)
theorem w159 (hw : Wds Z a0) : (Jvm.Cond.constant "java/lang/Character" (74 : Nat) (1114112 : Int32)).before a0 Z = true := hw _ (mi 159 rfl)
theorem w160 (hw : Wds Z a0) : (Jvm.Cond.methodLink "java/lang/String" (424 : Nat) ⟨"java/lang/Character", "highSurrogate", "(I)C"⟩).before a0 Z = true := hw _ (mi 160 rfl)
theorem w161 (hw : Wds Z a0) : (Jvm.Cond.static ⟨"java/lang/Character", "highSurrogate", "(I)C"⟩).before a0 Z = true := hw _ (mi 161 rfl)
theorem w162 (hw : Wds Z a0) : (Jvm.Cond.code ⟨"java/lang/Character", "highSurrogate", "(I)C"⟩ c32_ (1 : Nat) (Option.some Jvm.ClassFile.FieldType.char)).before a0 Z = true := hw _ (mi 162 rfl)
theorem w163 (hw : Wds Z a0) : (Jvm.Cond.constant "java/lang/Character" (110 : Nat) (55232 : Int32)).before a0 Z = true := hw _ (mi 163 rfl)
theorem w164 (hw : Wds Z a0) : (Jvm.Cond.methodLink "java/lang/String" (64 : Nat) ⟨"java/lang/StringUTF16", "putChar", "([BII)V"⟩).before a0 Z = true := hw _ (mi 164 rfl)
theorem w165 (hw : Wds Z a0) : (Jvm.Cond.static ⟨"java/lang/StringUTF16", "putChar", "([BII)V"⟩).before a0 Z = true := hw _ (mi 165 rfl)
theorem w166 (hw : Wds Z a0) : (Jvm.Cond.code ⟨"java/lang/StringUTF16", "putChar", "([BII)V"⟩ c33_ (3 : Nat) (Option.none : Option Jvm.ClassFile.FieldType)).before a0 Z = true := hw _ (mi 166 rfl)
theorem w167 (hw : Wds Z a0) : (Jvm.Cond.fieldLink "java/lang/StringUTF16" (44 : Nat) "java/lang/StringUTF16" "$assertionsDisabled" "Z").before a0 Z = true := hw _ (mi 167 rfl)
theorem w168 (hw : Wds Z a0) : (Jvm.Cond.fieldLink "java/lang/StringUTF16" (59 : Nat) "java/lang/StringUTF16" "HI_BYTE_SHIFT" "I").before a0 Z = true := hw _ (mi 168 rfl)
theorem w169 (hw : Wds Z a0) : (Jvm.Cond.fieldLink "java/lang/StringUTF16" (63 : Nat) "java/lang/StringUTF16" "LO_BYTE_SHIFT" "I").before a0 Z = true := hw _ (mi 169 rfl)
theorem w170 (hw : Wds Z a0) : (Jvm.Cond.methodLink "java/lang/String" (428 : Nat) ⟨"java/lang/Character", "lowSurrogate", "(I)C"⟩).before a0 Z = true := hw _ (mi 170 rfl)
theorem w171 (hw : Wds Z a0) : (Jvm.Cond.static ⟨"java/lang/Character", "lowSurrogate", "(I)C"⟩).before a0 Z = true := hw _ (mi 171 rfl)
theorem w172 (hw : Wds Z a0) : (Jvm.Cond.code ⟨"java/lang/Character", "lowSurrogate", "(I)C"⟩ c34_ (1 : Nat) (Option.some Jvm.ClassFile.FieldType.char)).before a0 Z = true := hw _ (mi 172 rfl)
theorem w173 (hw : Wds Z a0) : (Jvm.Cond.constant "java/lang/Character" (76 : Nat) (56320 : Int32)).before a0 Z = true := hw _ (mi 173 rfl)
theorem w174 (hw : Wds Z a0) : (Jvm.Cond.methodLink "java/lang/StringUTF16" (119 : Nat) ⟨"java/lang/StringUTF16", "toBytes", "([CII)[B"⟩).before a0 Z = true := hw _ (mi 174 rfl)
theorem w175 (hw : Wds Z a0) : (Jvm.Cond.static ⟨"java/lang/StringUTF16", "toBytes", "([CII)[B"⟩).before a0 Z = true := hw _ (mi 175 rfl)
theorem w176 (hw : Wds Z a0) : (Jvm.Cond.code ⟨"java/lang/StringUTF16", "toBytes", "([CII)[B"⟩ c35_ (5 : Nat) (Option.some (Jvm.ClassFile.FieldType.array Jvm.ClassFile.FieldType.byte))).before a0 Z = true := hw _ (mi 176 rfl)
theorem w177 (hw : Wds Z a0) : (Jvm.Cond.methodLink "java/lang/StringUTF16" (107 : Nat) ⟨"java/lang/StringUTF16", "newBytesFor", "(I)[B"⟩).before a0 Z = true := hw _ (mi 177 rfl)
theorem w178 (hw : Wds Z a0) : (Jvm.Cond.methodLink "java/lang/StringUTF16" (111 : Nat) ⟨"java/lang/StringUTF16", "putChar", "([BII)V"⟩).before a0 Z = true := hw _ (mi 178 rfl)
theorem w179 (hw : Wds Z a0) : (Jvm.Cond.methodLink "java/lang/StringUTF16" (71 : Nat) ⟨"java/lang/StringUTF16", "getChar", "([BI)C"⟩).before a0 Z = true := hw _ (mi 179 rfl)
theorem w180 (hw : Wds Z a0) : (Jvm.Cond.static ⟨"java/lang/StringUTF16", "getChar", "([BI)C"⟩).before a0 Z = true := hw _ (mi 180 rfl)
theorem w181 (hw : Wds Z a0) : (Jvm.Cond.code ⟨"java/lang/StringUTF16", "getChar", "([BI)C"⟩ c36_ (2 : Nat) (Option.some Jvm.ClassFile.FieldType.char)).before a0 Z = true := hw _ (mi 181 rfl)
theorem w183 (hw : Wds Z a0) : (Jvm.Cond.soleField "java/lang/String" "value").before a0 Z = true := hw _ (mi 183 rfl)
theorem w184 (hw : Wds Z a0) : (Jvm.Cond.soleField "java/lang/String" "coder").before a0 Z = true := hw _ (mi 184 rfl)
theorem w185 (hw : Wds Z a0) : (Jvm.Cond.constant "com/example/gatewarden/gatewarden/bench/ResponseTextPinLaw" (13 : Nat) (65533 : Int32)).before a0 Z = true := hw _ (mi 185 rfl)
theorem w186 (hw : Wds Z a0) : (Jvm.Cond.constant "java/lang/String" (132 : Nat) (65533 : Int32)).before a0 Z = true := hw _ (mi 186 rfl)
theorem w187 (hw : Wds Z a0) : (Jvm.Cond.methodLink "java/lang/String" (385 : Nat) ⟨"java/lang/String", "isNotContinuation", "(I)Z"⟩).before a0 Z = true := hw _ (mi 187 rfl)
theorem w188 (hw : Wds Z a0) : (Jvm.Cond.static ⟨"java/lang/String", "isNotContinuation", "(I)Z"⟩).before a0 Z = true := hw _ (mi 188 rfl)
theorem w189 (hw : Wds Z a0) : (Jvm.Cond.code ⟨"java/lang/String", "isNotContinuation", "(I)Z"⟩ c37_ (1 : Nat) (Option.some Jvm.ClassFile.FieldType.boolean)).before a0 Z = true := hw _ (mi 189 rfl)
theorem w190 (hw : Wds Z a0) : (Jvm.Cond.methodLink "java/lang/String" (392 : Nat) ⟨"java/lang/String", "isMalformed3", "(III)Z"⟩).before a0 Z = true := hw _ (mi 190 rfl)
theorem w191 (hw : Wds Z a0) : (Jvm.Cond.static ⟨"java/lang/String", "isMalformed3", "(III)Z"⟩).before a0 Z = true := hw _ (mi 191 rfl)
theorem w192 (hw : Wds Z a0) : (Jvm.Cond.code ⟨"java/lang/String", "isMalformed3", "(III)Z"⟩ c38_ (3 : Nat) (Option.some Jvm.ClassFile.FieldType.boolean)).before a0 Z = true := hw _ (mi 192 rfl)
theorem w193 (hw : Wds Z a0) : (Jvm.Cond.methodLink "java/lang/String" (400 : Nat) ⟨"java/lang/String", "decode3", "(III)C"⟩).before a0 Z = true := hw _ (mi 193 rfl)
theorem w194 (hw : Wds Z a0) : (Jvm.Cond.static ⟨"java/lang/String", "decode3", "(III)C"⟩).before a0 Z = true := hw _ (mi 194 rfl)
theorem w195 (hw : Wds Z a0) : (Jvm.Cond.code ⟨"java/lang/String", "decode3", "(III)C"⟩ c39_ (3 : Nat) (Option.some Jvm.ClassFile.FieldType.char)).before a0 Z = true := hw _ (mi 195 rfl)
theorem w196 (hw : Wds Z a0) : (Jvm.Cond.constant "java/lang/String" (383 : Nat) (-123008 : Int32)).before a0 Z = true := hw _ (mi 196 rfl)
theorem w197 (hw : Wds Z a0) : (Jvm.Cond.methodLink "java/lang/String" (404 : Nat) ⟨"java/lang/Character", "isSurrogate", "(C)Z"⟩).before a0 Z = true := hw _ (mi 197 rfl)
theorem w198 (hw : Wds Z a0) : (Jvm.Cond.static ⟨"java/lang/Character", "isSurrogate", "(C)Z"⟩).before a0 Z = true := hw _ (mi 198 rfl)
theorem w199 (hw : Wds Z a0) : (Jvm.Cond.code ⟨"java/lang/Character", "isSurrogate", "(C)Z"⟩ c40_ (1 : Nat) (Option.some Jvm.ClassFile.FieldType.boolean)).before a0 Z = true := hw _ (mi 199 rfl)
theorem w200 (hw : Wds Z a0) : (Jvm.Cond.constant "java/lang/Character" (75 : Nat) (55296 : Int32)).before a0 Z = true := hw _ (mi 200 rfl)
theorem w201 (hw : Wds Z a0) : (Jvm.Cond.constant "java/lang/Character" (77 : Nat) (57344 : Int32)).before a0 Z = true := hw _ (mi 201 rfl)
end
theorem lay_0 {Z : State} {a0 : Array Value} (hw : Wds Z a0) : LayD Z a0 "java/lang/String" [("java/lang/String", "value", "[B", .null), ("java/lang/String", "coder", "B", (.int 0))] := ⟨fun f hf => by
  simp only [List.mem_cons, List.not_mem_nil, or_false] at hf
  rcases hf with rfl | rfl
  · exact ⟨Or.inr (w70 hw), (.array .byte), by decide, rfl⟩
  · exact ⟨Or.inr (w72 hw), .byte, by decide, rfl⟩, by decide⟩
theorem lay_1 {Z : State} {a0 : Array Value} (hw : Wds Z a0) : LayD Z a0 "com/example/gatewarden/gatewarden/bench/HttpConnections$Response" [("com/example/gatewarden/gatewarden/bench/HttpConnections$Response", "status", "I", (.int 0)), ("com/example/gatewarden/gatewarden/bench/HttpConnections$Response", "headers", "Ljava/util/Map;", .null), ("com/example/gatewarden/gatewarden/bench/HttpConnections$Response", "body", "[B", .null)] := ⟨fun f hf => by
  simp only [List.mem_cons, List.not_mem_nil, or_false] at hf
  rcases hf with rfl | rfl | rfl
  · exact ⟨Or.inr (w20 hw), .int, by decide, rfl⟩
  · exact ⟨Or.inr (w22 hw), (.object "java/util/Map"), by decide, rfl⟩
  · exact ⟨Or.inr (w24 hw), (.array .byte), by decide, rfl⟩, by decide⟩
theorem i0_0 : Ins code 0 (.iload_n 0) 1 1 := ⟨at_0, rfl⟩
theorem i0_1 : Ins code 1 (.ldc 7) 2 3 := ⟨at_1, rfl⟩
theorem i0_3 : Ins code 3 (.iand) 1 4 := ⟨at_3, rfl⟩
theorem i0_4 : Ins code 4 (.ldc 8) 2 6 := ⟨at_4, rfl⟩
theorem i0_6 : Ins code 6 (.irem) 1 7 := ⟨at_6, rfl⟩
theorem i0_7 : Ins code 7 (.istore_n 3) 1 8 := ⟨at_7, rfl⟩
theorem i0_8 : Ins code 8 (.iload_n 3) 1 9 := ⟨at_8, rfl⟩
theorem i0_9 : Ins code 9 (.ldc 9) 2 11 := ⟨at_9, rfl⟩
theorem i0_11 : Ins code 11 (.if_icmp .lt 15) 3 14 := ⟨at_11, rfl⟩
theorem i0_14 : Ins code 14 (.iload_n 3) 1 15 := ⟨at_14, rfl⟩
theorem i0_15 : Ins code 15 (.ldc 10) 2 17 := ⟨at_15, rfl⟩
theorem i0_17 : Ins code 17 (.if_icmp .gt 9) 3 20 := ⟨at_17, rfl⟩
theorem i0_20 : Ins code 20 (.iload_n 3) 1 21 := ⟨at_20, rfl⟩
theorem i0_21 : Ins code 21 (.sipush 2048) 3 24 := ⟨at_21, rfl⟩
theorem i0_24 : Ins code 24 (.isub) 1 25 := ⟨at_24, rfl⟩
theorem i0_25 : Ins code 25 (.istore_n 3) 1 26 := ⟨at_25, rfl⟩
theorem i0_26 : Ins code 26 (.iload_n 1) 1 27 := ⟨at_26, rfl⟩
theorem i0_27 : Ins code 27 (.sipush 255) 3 30 := ⟨at_27, rfl⟩
theorem i0_30 : Ins code 30 (.iand) 1 31 := ⟨at_30, rfl⟩
theorem i0_31 : Ins code 31 (.istore 4) 2 33 := ⟨at_31, rfl⟩
theorem i0_33 : Ins code 33 (.iload_n 2) 1 34 := ⟨at_33, rfl⟩
theorem i0_34 : Ins code 34 (.iconst 1) 1 35 := ⟨at_34, rfl⟩
theorem i0_35 : Ins code 35 (.iand) 1 36 := ⟨at_35, rfl⟩
theorem i0_36 : Ins code 36 (.ifCond .eq 7) 3 39 := ⟨at_36, rfl⟩
theorem i0_39 : Ins code 39 (.iconst 1) 1 40 := ⟨at_39, rfl⟩
theorem i0_40 : Ins code 40 (.goto 4) 3 43 := ⟨at_40, rfl⟩
theorem i0_43 : Ins code 43 (.iconst 0) 1 44 := ⟨at_43, rfl⟩
theorem i0_44 : Ins code 44 (.istore 5) 2 46 := ⟨at_44, rfl⟩
theorem i0_46 : Ins code 46 (.iload_n 2) 1 47 := ⟨at_46, rfl⟩
theorem i0_47 : Ins code 47 (.iconst 2) 1 48 := ⟨at_47, rfl⟩
theorem i0_48 : Ins code 48 (.iand) 1 49 := ⟨at_48, rfl⟩
theorem i0_49 : Ins code 49 (.ifCond .eq 7) 3 52 := ⟨at_49, rfl⟩
theorem i0_52 : Ins code 52 (.iconst 1) 1 53 := ⟨at_52, rfl⟩
theorem i0_53 : Ins code 53 (.goto 4) 3 56 := ⟨at_53, rfl⟩
theorem i0_56 : Ins code 56 (.iconst 0) 1 57 := ⟨at_56, rfl⟩
theorem i0_57 : Ins code 57 (.istore 6) 2 59 := ⟨at_57, rfl⟩
theorem i0_59 : Ins code 59 (.iload_n 3) 1 60 := ⟨at_59, rfl⟩
theorem i0_60 : Ins code 60 (.sipush 128) 3 63 := ⟨at_60, rfl⟩
theorem i0_63 : Ins code 63 (.if_icmp .ge 7) 3 66 := ⟨at_63, rfl⟩
theorem i0_66 : Ins code 66 (.iconst 1) 1 67 := ⟨at_66, rfl⟩
theorem i0_67 : Ins code 67 (.goto 25) 3 70 := ⟨at_67, rfl⟩
theorem i0_70 : Ins code 70 (.iload_n 3) 1 71 := ⟨at_70, rfl⟩
theorem i0_71 : Ins code 71 (.sipush 2048) 3 74 := ⟨at_71, rfl⟩
theorem i0_74 : Ins code 74 (.if_icmp .ge 7) 3 77 := ⟨at_74, rfl⟩
theorem i0_77 : Ins code 77 (.iconst 2) 1 78 := ⟨at_77, rfl⟩
theorem i0_78 : Ins code 78 (.goto 14) 3 81 := ⟨at_78, rfl⟩
theorem i0_81 : Ins code 81 (.iload_n 3) 1 82 := ⟨at_81, rfl⟩
theorem i0_82 : Ins code 82 (.ldc 11) 2 84 := ⟨at_82, rfl⟩
theorem i0_84 : Ins code 84 (.if_icmp .ge 7) 3 87 := ⟨at_84, rfl⟩
theorem i0_87 : Ins code 87 (.iconst 3) 1 88 := ⟨at_87, rfl⟩
theorem i0_88 : Ins code 88 (.goto 4) 3 91 := ⟨at_88, rfl⟩
theorem i0_91 : Ins code 91 (.iconst 4) 1 92 := ⟨at_91, rfl⟩
theorem i0_92 : Ins code 92 (.istore 7) 2 94 := ⟨at_92, rfl⟩
theorem i0_94 : Ins code 94 (.iload 5) 2 96 := ⟨at_94, rfl⟩
theorem i0_96 : Ins code 96 (.ifCond .eq 8) 3 99 := ⟨at_96, rfl⟩
theorem i0_99 : Ins code 99 (.iload 7) 2 101 := ⟨at_99, rfl⟩
theorem i0_101 : Ins code 101 (.goto 4) 3 104 := ⟨at_101, rfl⟩
theorem i0_104 : Ins code 104 (.iconst 0) 1 105 := ⟨at_104, rfl⟩
theorem i0_105 : Ins code 105 (.istore 8) 2 107 := ⟨at_105, rfl⟩
theorem i0_107 : Ins code 107 (.iload 8) 2 109 := ⟨at_107, rfl⟩
theorem i0_109 : Ins code 109 (.iload 6) 2 111 := ⟨at_109, rfl⟩
theorem i0_111 : Ins code 111 (.ifCond .eq 7) 3 114 := ⟨at_111, rfl⟩
theorem i0_114 : Ins code 114 (.iconst 1) 1 115 := ⟨at_114, rfl⟩
theorem i0_115 : Ins code 115 (.goto 4) 3 118 := ⟨at_115, rfl⟩
theorem i0_118 : Ins code 118 (.iconst 0) 1 119 := ⟨at_118, rfl⟩
theorem i0_119 : Ins code 119 (.iadd) 1 120 := ⟨at_119, rfl⟩
theorem i0_120 : Ins code 120 (.newarray .byte) 2 122 := ⟨at_120, rfl⟩
theorem i0_122 : Ins code 122 (.astore 9) 2 124 := ⟨at_122, rfl⟩
theorem i0_124 : Ins code 124 (.iload 5) 2 126 := ⟨at_124, rfl⟩
theorem i0_126 : Ins code 126 (.ifCond .eq 162) 3 129 := ⟨at_126, rfl⟩
theorem i0_129 : Ins code 129 (.iload 7) 2 131 := ⟨at_129, rfl⟩
theorem i0_131 : Ins code 131 (.iconst 1) 1 132 := ⟨at_131, rfl⟩
theorem i0_132 : Ins code 132 (.if_icmp .ne 12) 3 135 := ⟨at_132, rfl⟩
theorem i0_135 : Ins code 135 (.aload 9) 2 137 := ⟨at_135, rfl⟩
theorem i0_137 : Ins code 137 (.iconst 0) 1 138 := ⟨at_137, rfl⟩
theorem i0_138 : Ins code 138 (.iload_n 3) 1 139 := ⟨at_138, rfl⟩
theorem i0_139 : Ins code 139 (.i2b) 1 140 := ⟨at_139, rfl⟩
theorem i0_140 : Ins code 140 (.bastore) 1 141 := ⟨at_140, rfl⟩
theorem i0_141 : Ins code 141 (.goto 147) 3 144 := ⟨at_141, rfl⟩
theorem i0_144 : Ins code 144 (.iload 7) 2 146 := ⟨at_144, rfl⟩
theorem i0_146 : Ins code 146 (.iconst 2) 1 147 := ⟨at_146, rfl⟩
theorem i0_147 : Ins code 147 (.if_icmp .ne 32) 3 150 := ⟨at_147, rfl⟩
theorem i0_150 : Ins code 150 (.aload 9) 2 152 := ⟨at_150, rfl⟩
theorem i0_152 : Ins code 152 (.iconst 0) 1 153 := ⟨at_152, rfl⟩
theorem i0_153 : Ins code 153 (.sipush 192) 3 156 := ⟨at_153, rfl⟩
theorem i0_156 : Ins code 156 (.iload_n 3) 1 157 := ⟨at_156, rfl⟩
theorem i0_157 : Ins code 157 (.bipush 6) 2 159 := ⟨at_157, rfl⟩
theorem i0_159 : Ins code 159 (.ishr) 1 160 := ⟨at_159, rfl⟩
theorem i0_160 : Ins code 160 (.ior) 1 161 := ⟨at_160, rfl⟩
theorem i0_161 : Ins code 161 (.i2b) 1 162 := ⟨at_161, rfl⟩
theorem i0_162 : Ins code 162 (.bastore) 1 163 := ⟨at_162, rfl⟩
theorem i0_163 : Ins code 163 (.aload 9) 2 165 := ⟨at_163, rfl⟩
theorem i0_165 : Ins code 165 (.iconst 1) 1 166 := ⟨at_165, rfl⟩
theorem i0_166 : Ins code 166 (.sipush 128) 3 169 := ⟨at_166, rfl⟩
theorem i0_169 : Ins code 169 (.iload_n 3) 1 170 := ⟨at_169, rfl⟩
theorem i0_170 : Ins code 170 (.bipush 63) 2 172 := ⟨at_170, rfl⟩
theorem i0_172 : Ins code 172 (.iand) 1 173 := ⟨at_172, rfl⟩
theorem i0_173 : Ins code 173 (.ior) 1 174 := ⟨at_173, rfl⟩
theorem i0_174 : Ins code 174 (.i2b) 1 175 := ⟨at_174, rfl⟩
theorem i0_175 : Ins code 175 (.bastore) 1 176 := ⟨at_175, rfl⟩
theorem i0_176 : Ins code 176 (.goto 112) 3 179 := ⟨at_176, rfl⟩
theorem i0_179 : Ins code 179 (.iload 7) 2 181 := ⟨at_179, rfl⟩
theorem i0_181 : Ins code 181 (.iconst 3) 1 182 := ⟨at_181, rfl⟩
theorem i0_182 : Ins code 182 (.if_icmp .ne 48) 3 185 := ⟨at_182, rfl⟩
theorem i0_185 : Ins code 185 (.aload 9) 2 187 := ⟨at_185, rfl⟩
theorem i0_187 : Ins code 187 (.iconst 0) 1 188 := ⟨at_187, rfl⟩
theorem i0_188 : Ins code 188 (.sipush 224) 3 191 := ⟨at_188, rfl⟩
theorem i0_191 : Ins code 191 (.iload_n 3) 1 192 := ⟨at_191, rfl⟩
theorem i0_192 : Ins code 192 (.bipush 12) 2 194 := ⟨at_192, rfl⟩
theorem i0_194 : Ins code 194 (.ishr) 1 195 := ⟨at_194, rfl⟩
theorem i0_195 : Ins code 195 (.ior) 1 196 := ⟨at_195, rfl⟩
theorem i0_196 : Ins code 196 (.i2b) 1 197 := ⟨at_196, rfl⟩
theorem i0_197 : Ins code 197 (.bastore) 1 198 := ⟨at_197, rfl⟩
theorem i0_198 : Ins code 198 (.aload 9) 2 200 := ⟨at_198, rfl⟩
theorem i0_200 : Ins code 200 (.iconst 1) 1 201 := ⟨at_200, rfl⟩
theorem i0_201 : Ins code 201 (.sipush 128) 3 204 := ⟨at_201, rfl⟩
theorem i0_204 : Ins code 204 (.iload_n 3) 1 205 := ⟨at_204, rfl⟩
theorem i0_205 : Ins code 205 (.bipush 6) 2 207 := ⟨at_205, rfl⟩
theorem i0_207 : Ins code 207 (.ishr) 1 208 := ⟨at_207, rfl⟩
theorem i0_208 : Ins code 208 (.bipush 63) 2 210 := ⟨at_208, rfl⟩
theorem i0_210 : Ins code 210 (.iand) 1 211 := ⟨at_210, rfl⟩
theorem i0_211 : Ins code 211 (.ior) 1 212 := ⟨at_211, rfl⟩
theorem i0_212 : Ins code 212 (.i2b) 1 213 := ⟨at_212, rfl⟩
theorem i0_213 : Ins code 213 (.bastore) 1 214 := ⟨at_213, rfl⟩
theorem i0_214 : Ins code 214 (.aload 9) 2 216 := ⟨at_214, rfl⟩
theorem i0_216 : Ins code 216 (.iconst 2) 1 217 := ⟨at_216, rfl⟩
theorem i0_217 : Ins code 217 (.sipush 128) 3 220 := ⟨at_217, rfl⟩
theorem i0_220 : Ins code 220 (.iload_n 3) 1 221 := ⟨at_220, rfl⟩
theorem i0_221 : Ins code 221 (.bipush 63) 2 223 := ⟨at_221, rfl⟩
theorem i0_223 : Ins code 223 (.iand) 1 224 := ⟨at_223, rfl⟩
theorem i0_224 : Ins code 224 (.ior) 1 225 := ⟨at_224, rfl⟩
theorem i0_225 : Ins code 225 (.i2b) 1 226 := ⟨at_225, rfl⟩
theorem i0_226 : Ins code 226 (.bastore) 1 227 := ⟨at_226, rfl⟩
theorem i0_227 : Ins code 227 (.goto 61) 3 230 := ⟨at_227, rfl⟩
theorem i0_230 : Ins code 230 (.aload 9) 2 232 := ⟨at_230, rfl⟩
theorem i0_232 : Ins code 232 (.iconst 0) 1 233 := ⟨at_232, rfl⟩
theorem i0_233 : Ins code 233 (.sipush 240) 3 236 := ⟨at_233, rfl⟩
theorem i0_236 : Ins code 236 (.iload_n 3) 1 237 := ⟨at_236, rfl⟩
theorem i0_237 : Ins code 237 (.bipush 18) 2 239 := ⟨at_237, rfl⟩
theorem i0_239 : Ins code 239 (.ishr) 1 240 := ⟨at_239, rfl⟩
theorem i0_240 : Ins code 240 (.ior) 1 241 := ⟨at_240, rfl⟩
theorem i0_241 : Ins code 241 (.i2b) 1 242 := ⟨at_241, rfl⟩
theorem i0_242 : Ins code 242 (.bastore) 1 243 := ⟨at_242, rfl⟩
theorem i0_243 : Ins code 243 (.aload 9) 2 245 := ⟨at_243, rfl⟩
theorem i0_245 : Ins code 245 (.iconst 1) 1 246 := ⟨at_245, rfl⟩
theorem i0_246 : Ins code 246 (.sipush 128) 3 249 := ⟨at_246, rfl⟩
theorem i0_249 : Ins code 249 (.iload_n 3) 1 250 := ⟨at_249, rfl⟩
theorem i0_250 : Ins code 250 (.bipush 12) 2 252 := ⟨at_250, rfl⟩
theorem i0_252 : Ins code 252 (.ishr) 1 253 := ⟨at_252, rfl⟩
theorem i0_253 : Ins code 253 (.bipush 63) 2 255 := ⟨at_253, rfl⟩
theorem i0_255 : Ins code 255 (.iand) 1 256 := ⟨at_255, rfl⟩
theorem i0_256 : Ins code 256 (.ior) 1 257 := ⟨at_256, rfl⟩
theorem i0_257 : Ins code 257 (.i2b) 1 258 := ⟨at_257, rfl⟩
theorem i0_258 : Ins code 258 (.bastore) 1 259 := ⟨at_258, rfl⟩
theorem i0_259 : Ins code 259 (.aload 9) 2 261 := ⟨at_259, rfl⟩
theorem i0_261 : Ins code 261 (.iconst 2) 1 262 := ⟨at_261, rfl⟩
theorem i0_262 : Ins code 262 (.sipush 128) 3 265 := ⟨at_262, rfl⟩
theorem i0_265 : Ins code 265 (.iload_n 3) 1 266 := ⟨at_265, rfl⟩
theorem i0_266 : Ins code 266 (.bipush 6) 2 268 := ⟨at_266, rfl⟩
theorem i0_268 : Ins code 268 (.ishr) 1 269 := ⟨at_268, rfl⟩
theorem i0_269 : Ins code 269 (.bipush 63) 2 271 := ⟨at_269, rfl⟩
theorem i0_271 : Ins code 271 (.iand) 1 272 := ⟨at_271, rfl⟩
theorem i0_272 : Ins code 272 (.ior) 1 273 := ⟨at_272, rfl⟩
theorem i0_273 : Ins code 273 (.i2b) 1 274 := ⟨at_273, rfl⟩
theorem i0_274 : Ins code 274 (.bastore) 1 275 := ⟨at_274, rfl⟩
theorem i0_275 : Ins code 275 (.aload 9) 2 277 := ⟨at_275, rfl⟩
theorem i0_277 : Ins code 277 (.iconst 3) 1 278 := ⟨at_277, rfl⟩
theorem i0_278 : Ins code 278 (.sipush 128) 3 281 := ⟨at_278, rfl⟩
theorem i0_281 : Ins code 281 (.iload_n 3) 1 282 := ⟨at_281, rfl⟩
theorem i0_282 : Ins code 282 (.bipush 63) 2 284 := ⟨at_282, rfl⟩
theorem i0_284 : Ins code 284 (.iand) 1 285 := ⟨at_284, rfl⟩
theorem i0_285 : Ins code 285 (.ior) 1 286 := ⟨at_285, rfl⟩
theorem i0_286 : Ins code 286 (.i2b) 1 287 := ⟨at_286, rfl⟩
theorem i0_287 : Ins code 287 (.bastore) 1 288 := ⟨at_287, rfl⟩
theorem i0_288 : Ins code 288 (.iload 6) 2 290 := ⟨at_288, rfl⟩
theorem i0_290 : Ins code 290 (.ifCond .eq 11) 3 293 := ⟨at_290, rfl⟩
theorem i0_293 : Ins code 293 (.aload 9) 2 295 := ⟨at_293, rfl⟩
theorem i0_295 : Ins code 295 (.iload 8) 2 297 := ⟨at_295, rfl⟩
theorem i0_297 : Ins code 297 (.iload 4) 2 299 := ⟨at_297, rfl⟩
theorem i0_299 : Ins code 299 (.i2b) 1 300 := ⟨at_299, rfl⟩
theorem i0_300 : Ins code 300 (.bastore) 1 301 := ⟨at_300, rfl⟩
theorem i0_301 : Ins code 301 (.iload 5) 2 303 := ⟨at_301, rfl⟩
theorem i0_303 : Ins code 303 (.ifCond .eq 17) 3 306 := ⟨at_303, rfl⟩
theorem i0_306 : Ins code 306 (.iload_n 3) 1 307 := ⟨at_306, rfl⟩
theorem i0_307 : Ins code 307 (.ldc 11) 2 309 := ⟨at_307, rfl⟩
theorem i0_309 : Ins code 309 (.if_icmp .ge 7) 3 312 := ⟨at_309, rfl⟩
theorem i0_312 : Ins code 312 (.iconst 1) 1 313 := ⟨at_312, rfl⟩
theorem i0_313 : Ins code 313 (.goto 8) 3 316 := ⟨at_313, rfl⟩
theorem i0_316 : Ins code 316 (.iconst 2) 1 317 := ⟨at_316, rfl⟩
theorem i0_317 : Ins code 317 (.goto 4) 3 320 := ⟨at_317, rfl⟩
theorem i0_320 : Ins code 320 (.iconst 0) 1 321 := ⟨at_320, rfl⟩
theorem i0_321 : Ins code 321 (.istore 10) 2 323 := ⟨at_321, rfl⟩
theorem i0_323 : Ins code 323 (.iload 10) 2 325 := ⟨at_323, rfl⟩
theorem i0_325 : Ins code 325 (.iload 6) 2 327 := ⟨at_325, rfl⟩
theorem i0_327 : Ins code 327 (.ifCond .eq 7) 3 330 := ⟨at_327, rfl⟩
theorem i0_330 : Ins code 330 (.iconst 1) 1 331 := ⟨at_330, rfl⟩
theorem i0_331 : Ins code 331 (.goto 4) 3 334 := ⟨at_331, rfl⟩
theorem i0_334 : Ins code 334 (.iconst 0) 1 335 := ⟨at_334, rfl⟩
theorem i0_335 : Ins code 335 (.iadd) 1 336 := ⟨at_335, rfl⟩
theorem i0_336 : Ins code 336 (.newarray .char) 2 338 := ⟨at_336, rfl⟩
theorem i0_338 : Ins code 338 (.astore 11) 2 340 := ⟨at_338, rfl⟩
theorem i0_340 : Ins code 340 (.iload 5) 2 342 := ⟨at_340, rfl⟩
theorem i0_342 : Ins code 342 (.ifCond .eq 51) 3 345 := ⟨at_342, rfl⟩
theorem i0_345 : Ins code 345 (.iload_n 3) 1 346 := ⟨at_345, rfl⟩
theorem i0_346 : Ins code 346 (.ldc 11) 2 348 := ⟨at_346, rfl⟩
theorem i0_348 : Ins code 348 (.if_icmp .ge 12) 3 351 := ⟨at_348, rfl⟩
theorem i0_351 : Ins code 351 (.aload 11) 2 353 := ⟨at_351, rfl⟩
theorem i0_353 : Ins code 353 (.iconst 0) 1 354 := ⟨at_353, rfl⟩
theorem i0_354 : Ins code 354 (.iload_n 3) 1 355 := ⟨at_354, rfl⟩
theorem i0_355 : Ins code 355 (.i2c) 1 356 := ⟨at_355, rfl⟩
theorem i0_356 : Ins code 356 (.castore) 1 357 := ⟨at_356, rfl⟩
theorem i0_357 : Ins code 357 (.goto 36) 3 360 := ⟨at_357, rfl⟩
theorem i0_360 : Ins code 360 (.iload_n 3) 1 361 := ⟨at_360, rfl⟩
theorem i0_361 : Ins code 361 (.ldc 11) 2 363 := ⟨at_361, rfl⟩
theorem i0_363 : Ins code 363 (.isub) 1 364 := ⟨at_363, rfl⟩
theorem i0_364 : Ins code 364 (.istore 12) 2 366 := ⟨at_364, rfl⟩
theorem i0_366 : Ins code 366 (.aload 11) 2 368 := ⟨at_366, rfl⟩
theorem i0_368 : Ins code 368 (.iconst 0) 1 369 := ⟨at_368, rfl⟩
theorem i0_369 : Ins code 369 (.ldc 9) 2 371 := ⟨at_369, rfl⟩
theorem i0_371 : Ins code 371 (.iload 12) 2 373 := ⟨at_371, rfl⟩
theorem i0_373 : Ins code 373 (.bipush 10) 2 375 := ⟨at_373, rfl⟩
theorem i0_375 : Ins code 375 (.ishr) 1 376 := ⟨at_375, rfl⟩
theorem i0_376 : Ins code 376 (.iadd) 1 377 := ⟨at_376, rfl⟩
theorem i0_377 : Ins code 377 (.i2c) 1 378 := ⟨at_377, rfl⟩
theorem i0_378 : Ins code 378 (.castore) 1 379 := ⟨at_378, rfl⟩
theorem i0_379 : Ins code 379 (.aload 11) 2 381 := ⟨at_379, rfl⟩
theorem i0_381 : Ins code 381 (.iconst 1) 1 382 := ⟨at_381, rfl⟩
theorem i0_382 : Ins code 382 (.ldc 12) 2 384 := ⟨at_382, rfl⟩
theorem i0_384 : Ins code 384 (.iload 12) 2 386 := ⟨at_384, rfl⟩
theorem i0_386 : Ins code 386 (.sipush 1023) 3 389 := ⟨at_386, rfl⟩
theorem i0_389 : Ins code 389 (.iand) 1 390 := ⟨at_389, rfl⟩
theorem i0_390 : Ins code 390 (.iadd) 1 391 := ⟨at_390, rfl⟩
theorem i0_391 : Ins code 391 (.i2c) 1 392 := ⟨at_391, rfl⟩
theorem i0_392 : Ins code 392 (.castore) 1 393 := ⟨at_392, rfl⟩
theorem i0_393 : Ins code 393 (.iload 6) 2 395 := ⟨at_393, rfl⟩
theorem i0_395 : Ins code 395 (.ifCond .eq 24) 3 398 := ⟨at_395, rfl⟩
theorem i0_398 : Ins code 398 (.aload 11) 2 400 := ⟨at_398, rfl⟩
theorem i0_400 : Ins code 400 (.iload 10) 2 402 := ⟨at_400, rfl⟩
theorem i0_402 : Ins code 402 (.iload 4) 2 404 := ⟨at_402, rfl⟩
theorem i0_404 : Ins code 404 (.sipush 128) 3 407 := ⟨at_404, rfl⟩
theorem i0_407 : Ins code 407 (.if_icmp .ge 9) 3 410 := ⟨at_407, rfl⟩
theorem i0_410 : Ins code 410 (.iload 4) 2 412 := ⟨at_410, rfl⟩
theorem i0_412 : Ins code 412 (.i2c) 1 413 := ⟨at_412, rfl⟩
theorem i0_413 : Ins code 413 (.goto 5) 3 416 := ⟨at_413, rfl⟩
theorem i0_416 : Ins code 416 (.ldc 13) 2 418 := ⟨at_416, rfl⟩
theorem i0_418 : Ins code 418 (.castore) 1 419 := ⟨at_418, rfl⟩
theorem i0_419 : Ins code 419 (.new 14) 3 422 := ⟨at_419, rfl⟩
theorem i0_422 : Ins code 422 (.dup) 1 423 := ⟨at_422, rfl⟩
theorem i0_423 : Ins code 423 (.sipush 200) 3 426 := ⟨at_423, rfl⟩
theorem i0_426 : Ins code 426 (.aconst_null) 1 427 := ⟨at_426, rfl⟩
theorem i0_427 : Ins code 427 (.aload 9) 2 429 := ⟨at_427, rfl⟩
theorem i0_429 : Ins code 429 (.invokespecial 16) 3 432 := ⟨at_429, rfl⟩
theorem i0_432 : Ins code 432 (.astore 12) 2 434 := ⟨at_432, rfl⟩
theorem i0_434 : Ins code 434 (.aload 12) 2 436 := ⟨at_434, rfl⟩
theorem i0_436 : Ins code 436 (.invokevirtual 19) 3 439 := ⟨at_436, rfl⟩
theorem i0_439 : Ins code 439 (.new 23) 3 442 := ⟨at_439, rfl⟩
theorem i0_442 : Ins code 442 (.dup) 1 443 := ⟨at_442, rfl⟩
theorem i0_443 : Ins code 443 (.aload 11) 2 445 := ⟨at_443, rfl⟩
theorem i0_445 : Ins code 445 (.invokespecial 25) 3 448 := ⟨at_445, rfl⟩
theorem i0_448 : Ins code 448 (.invokevirtual 28) 3 451 := ⟨at_448, rfl⟩
theorem i0_451 : Ins code 451 (.ireturn) 1 452 := ⟨at_451, rfl⟩
theorem i1_0 : Ins c1_ 0 (.aload_n 0) 1 1 := ⟨by decide +kernel, rfl⟩
theorem i1_1 : Ins c1_ 1 (.invokespecial 1) 3 4 := ⟨by decide +kernel, rfl⟩
theorem i1_4 : Ins c1_ 4 (.aload_n 0) 1 5 := ⟨by decide +kernel, rfl⟩
theorem i1_5 : Ins c1_ 5 (.iload_n 1) 1 6 := ⟨by decide +kernel, rfl⟩
theorem i1_6 : Ins c1_ 6 (.putfield 7) 3 9 := ⟨by decide +kernel, rfl⟩
theorem i1_9 : Ins c1_ 9 (.aload_n 0) 1 10 := ⟨by decide +kernel, rfl⟩
theorem i1_10 : Ins c1_ 10 (.aload_n 2) 1 11 := ⟨by decide +kernel, rfl⟩
theorem i1_11 : Ins c1_ 11 (.putfield 13) 3 14 := ⟨by decide +kernel, rfl⟩
theorem i1_14 : Ins c1_ 14 (.aload_n 0) 1 15 := ⟨by decide +kernel, rfl⟩
theorem i1_15 : Ins c1_ 15 (.aload_n 3) 1 16 := ⟨by decide +kernel, rfl⟩
theorem i1_16 : Ins c1_ 16 (.putfield 17) 3 19 := ⟨by decide +kernel, rfl⟩
theorem i1_19 : Ins c1_ 19 (.return_) 1 20 := ⟨by decide +kernel, rfl⟩
theorem i2_0 : Ins c2_ 0 (.aload_n 0) 1 1 := ⟨by decide +kernel, rfl⟩
theorem i2_1 : Ins c2_ 1 (.invokespecial 1) 3 4 := ⟨by decide +kernel, rfl⟩
theorem i2_4 : Ins c2_ 4 (.return_) 1 5 := ⟨by decide +kernel, rfl⟩
theorem i4_0 : Ins c4_ 0 (.new 21) 3 3 := ⟨by decide +kernel, rfl⟩
theorem i4_3 : Ins c4_ 3 (.dup) 1 4 := ⟨by decide +kernel, rfl⟩
theorem i4_4 : Ins c4_ 4 (.aload_n 0) 1 5 := ⟨by decide +kernel, rfl⟩
theorem i4_5 : Ins c4_ 5 (.getfield 17) 3 8 := ⟨by decide +kernel, rfl⟩
theorem i4_8 : Ins c4_ 8 (.getstatic 23) 3 11 := ⟨by decide +kernel, rfl⟩
theorem i4_11 : Ins c4_ 11 (.invokespecial 29) 3 14 := ⟨by decide +kernel, rfl⟩
theorem i4_14 : Ins c4_ 14 (.areturn) 1 15 := ⟨by decide +kernel, rfl⟩
theorem i5_0 : Ins c5_ 0 (.aload_n 0) 1 1 := ⟨by decide +kernel, rfl⟩
theorem i5_1 : Ins c5_ 1 (.aload_n 2) 1 2 := ⟨by decide +kernel, rfl⟩
theorem i5_2 : Ins c5_ 2 (.invokestatic 78) 3 5 := ⟨by decide +kernel, rfl⟩
theorem i5_5 : Ins c5_ 5 (.checkcast 84) 3 8 := ⟨by decide +kernel, rfl⟩
theorem i5_8 : Ins c5_ 8 (.aload_n 1) 1 9 := ⟨by decide +kernel, rfl⟩
theorem i5_9 : Ins c5_ 9 (.iconst 0) 1 10 := ⟨by decide +kernel, rfl⟩
theorem i5_10 : Ins c5_ 10 (.aload_n 1) 1 11 := ⟨by decide +kernel, rfl⟩
theorem i5_11 : Ins c5_ 11 (.arraylength) 1 12 := ⟨by decide +kernel, rfl⟩
theorem i5_12 : Ins c5_ 12 (.invokespecial 75) 3 15 := ⟨by decide +kernel, rfl⟩
theorem i5_15 : Ins c5_ 15 (.return_) 1 16 := ⟨by decide +kernel, rfl⟩
theorem i6_0 : Ins c6_ 0 (.aload_n 0) 1 1 := ⟨by decide +kernel, rfl⟩
theorem i6_1 : Ins c6_ 1 (.ifnonnull 11) 3 4 := ⟨by decide +kernel, rfl⟩
theorem i6_12 : Ins c6_ 12 (.aload_n 0) 1 13 := ⟨by decide +kernel, rfl⟩
theorem i6_13 : Ins c6_ 13 (.areturn) 1 14 := ⟨by decide +kernel, rfl⟩
theorem i7_0 : Ins c7_ 0 (.aload_n 0) 1 1 := ⟨by decide +kernel, rfl⟩
theorem i7_1 : Ins c7_ 1 (.invokespecial 1) 3 4 := ⟨by decide +kernel, rfl⟩
theorem i7_4 : Ins c7_ 4 (.iload 4) 2 6 := ⟨by decide +kernel, rfl⟩
theorem i7_6 : Ins c7_ 6 (.ifCond .ne 24) 3 9 := ⟨by decide +kernel, rfl⟩
theorem i7_9 : Ins c7_ 9 (.aload_n 0) 1 10 := ⟨by decide +kernel, rfl⟩
theorem i7_10 : Ins c7_ 10 (.ldc 7) 2 12 := ⟨by decide +kernel, rfl⟩
theorem i7_12 : Ins c7_ 12 (.getfield 9) 3 15 := ⟨by decide +kernel, rfl⟩
theorem i7_15 : Ins c7_ 15 (.putfield 9) 3 18 := ⟨by decide +kernel, rfl⟩
theorem i7_18 : Ins c7_ 18 (.aload_n 0) 1 19 := ⟨by decide +kernel, rfl⟩
theorem i7_19 : Ins c7_ 19 (.ldc 7) 2 21 := ⟨by decide +kernel, rfl⟩
theorem i7_21 : Ins c7_ 21 (.getfield 15) 3 24 := ⟨by decide +kernel, rfl⟩
theorem i7_24 : Ins c7_ 24 (.putfield 15) 3 27 := ⟨by decide +kernel, rfl⟩
theorem i7_27 : Ins c7_ 27 (.goto 852) 3 30 := ⟨by decide +kernel, rfl⟩
theorem i7_30 : Ins c7_ 30 (.aload_n 1) 1 31 := ⟨by decide +kernel, rfl⟩
theorem i7_31 : Ins c7_ 31 (.getstatic 86) 3 34 := ⟨by decide +kernel, rfl⟩
theorem i7_34 : Ins c7_ 34 (.if_acmp .ne 312) 3 37 := ⟨by decide +kernel, rfl⟩
theorem i7_37 : Ins c7_ 37 (.getstatic 38) 3 40 := ⟨by decide +kernel, rfl⟩
theorem i7_40 : Ins c7_ 40 (.ifCond .eq 252) 3 43 := ⟨by decide +kernel, rfl⟩
theorem i7_43 : Ins c7_ 43 (.aload_n 2) 1 44 := ⟨by decide +kernel, rfl⟩
theorem i7_44 : Ins c7_ 44 (.iload_n 3) 1 45 := ⟨by decide +kernel, rfl⟩
theorem i7_45 : Ins c7_ 45 (.iload 4) 2 47 := ⟨by decide +kernel, rfl⟩
theorem i7_47 : Ins c7_ 47 (.invokestatic 92) 3 50 := ⟨by decide +kernel, rfl⟩
theorem i7_50 : Ins c7_ 50 (.istore 5) 2 52 := ⟨by decide +kernel, rfl⟩
theorem i7_52 : Ins c7_ 52 (.iload 5) 2 54 := ⟨by decide +kernel, rfl⟩
theorem i7_54 : Ins c7_ 54 (.iload 4) 2 56 := ⟨by decide +kernel, rfl⟩
theorem i7_56 : Ins c7_ 56 (.if_icmp .ne 22) 3 59 := ⟨by decide +kernel, rfl⟩
theorem i7_59 : Ins c7_ 59 (.aload_n 0) 1 60 := ⟨by decide +kernel, rfl⟩
theorem i7_60 : Ins c7_ 60 (.aload_n 2) 1 61 := ⟨by decide +kernel, rfl⟩
theorem i7_61 : Ins c7_ 61 (.iload_n 3) 1 62 := ⟨by decide +kernel, rfl⟩
theorem i7_62 : Ins c7_ 62 (.iload_n 3) 1 63 := ⟨by decide +kernel, rfl⟩
theorem i7_63 : Ins c7_ 63 (.iload 4) 2 65 := ⟨by decide +kernel, rfl⟩
theorem i7_65 : Ins c7_ 65 (.iadd) 1 66 := ⟨by decide +kernel, rfl⟩
theorem i7_66 : Ins c7_ 66 (.invokestatic 54) 3 69 := ⟨by decide +kernel, rfl⟩
theorem i7_69 : Ins c7_ 69 (.putfield 9) 3 72 := ⟨by decide +kernel, rfl⟩
theorem i7_72 : Ins c7_ 72 (.aload_n 0) 1 73 := ⟨by decide +kernel, rfl⟩
theorem i7_73 : Ins c7_ 73 (.iconst 0) 1 74 := ⟨by decide +kernel, rfl⟩
theorem i7_74 : Ins c7_ 74 (.putfield 15) 3 77 := ⟨by decide +kernel, rfl⟩
theorem i7_77 : Ins c7_ 77 (.return_) 1 78 := ⟨by decide +kernel, rfl⟩
theorem i7_78 : Ins c7_ 78 (.aload_n 2) 1 79 := ⟨by decide +kernel, rfl⟩
theorem i7_79 : Ins c7_ 79 (.iload_n 3) 1 80 := ⟨by decide +kernel, rfl⟩
theorem i7_80 : Ins c7_ 80 (.iload_n 3) 1 81 := ⟨by decide +kernel, rfl⟩
theorem i7_81 : Ins c7_ 81 (.iload 4) 2 83 := ⟨by decide +kernel, rfl⟩
theorem i7_83 : Ins c7_ 83 (.iadd) 1 84 := ⟨by decide +kernel, rfl⟩
theorem i7_84 : Ins c7_ 84 (.invokestatic 54) 3 87 := ⟨by decide +kernel, rfl⟩
theorem i7_87 : Ins c7_ 87 (.astore 6) 2 89 := ⟨by decide +kernel, rfl⟩
theorem i7_89 : Ins c7_ 89 (.iload 5) 2 91 := ⟨by decide +kernel, rfl⟩
theorem i7_91 : Ins c7_ 91 (.istore 7) 2 93 := ⟨by decide +kernel, rfl⟩
theorem i7_93 : Ins c7_ 93 (.iload 7) 2 95 := ⟨by decide +kernel, rfl⟩
theorem i7_95 : Ins c7_ 95 (.iload 4) 2 97 := ⟨by decide +kernel, rfl⟩
theorem i7_97 : Ins c7_ 97 (.if_icmp .ge 93) 3 100 := ⟨by decide +kernel, rfl⟩
theorem i7_100 : Ins c7_ 100 (.aload 6) 2 102 := ⟨by decide +kernel, rfl⟩
theorem i7_102 : Ins c7_ 102 (.iload 7) 2 104 := ⟨by decide +kernel, rfl⟩
theorem i7_104 : Ins c7_ 104 (.iinc 7 1) 3 107 := ⟨by decide +kernel, rfl⟩
theorem i7_107 : Ins c7_ 107 (.baload) 1 108 := ⟨by decide +kernel, rfl⟩
theorem i7_108 : Ins c7_ 108 (.istore 8) 2 110 := ⟨by decide +kernel, rfl⟩
theorem i7_110 : Ins c7_ 110 (.iload 8) 2 112 := ⟨by decide +kernel, rfl⟩
theorem i7_112 : Ins c7_ 112 (.ifCond .lt 17) 3 115 := ⟨by decide +kernel, rfl⟩
theorem i7_115 : Ins c7_ 115 (.aload 6) 2 117 := ⟨by decide +kernel, rfl⟩
theorem i7_117 : Ins c7_ 117 (.iload 5) 2 119 := ⟨by decide +kernel, rfl⟩
theorem i7_119 : Ins c7_ 119 (.iinc 5 1) 3 122 := ⟨by decide +kernel, rfl⟩
theorem i7_122 : Ins c7_ 122 (.iload 8) 2 124 := ⟨by decide +kernel, rfl⟩
theorem i7_124 : Ins c7_ 124 (.i2b) 1 125 := ⟨by decide +kernel, rfl⟩
theorem i7_125 : Ins c7_ 125 (.bastore) 1 126 := ⟨by decide +kernel, rfl⟩
theorem i7_126 : Ins c7_ 126 (.goto (-33)) 3 129 := ⟨by decide +kernel, rfl⟩
theorem i7_129 : Ins c7_ 129 (.iload 8) 2 131 := ⟨by decide +kernel, rfl⟩
theorem i7_131 : Ins c7_ 131 (.sipush 254) 3 134 := ⟨by decide +kernel, rfl⟩
theorem i7_134 : Ins c7_ 134 (.iand) 1 135 := ⟨by decide +kernel, rfl⟩
theorem i7_135 : Ins c7_ 135 (.sipush 194) 3 138 := ⟨by decide +kernel, rfl⟩
theorem i7_138 : Ins c7_ 138 (.if_icmp .ne 46) 3 141 := ⟨by decide +kernel, rfl⟩
theorem i7_141 : Ins c7_ 141 (.iload 7) 2 143 := ⟨by decide +kernel, rfl⟩
theorem i7_143 : Ins c7_ 143 (.iload 4) 2 145 := ⟨by decide +kernel, rfl⟩
theorem i7_145 : Ins c7_ 145 (.if_icmp .ge 39) 3 148 := ⟨by decide +kernel, rfl⟩
theorem i7_148 : Ins c7_ 148 (.aload 6) 2 150 := ⟨by decide +kernel, rfl⟩
theorem i7_150 : Ins c7_ 150 (.iload 7) 2 152 := ⟨by decide +kernel, rfl⟩
theorem i7_152 : Ins c7_ 152 (.baload) 1 153 := ⟨by decide +kernel, rfl⟩
theorem i7_153 : Ins c7_ 153 (.istore 9) 2 155 := ⟨by decide +kernel, rfl⟩
theorem i7_155 : Ins c7_ 155 (.iload 9) 2 157 := ⟨by decide +kernel, rfl⟩
theorem i7_157 : Ins c7_ 157 (.bipush (-64)) 2 159 := ⟨by decide +kernel, rfl⟩
theorem i7_159 : Ins c7_ 159 (.if_icmp .ge 25) 3 162 := ⟨by decide +kernel, rfl⟩
theorem i7_162 : Ins c7_ 162 (.aload 6) 2 164 := ⟨by decide +kernel, rfl⟩
theorem i7_164 : Ins c7_ 164 (.iload 5) 2 166 := ⟨by decide +kernel, rfl⟩
theorem i7_166 : Ins c7_ 166 (.iinc 5 1) 3 169 := ⟨by decide +kernel, rfl⟩
theorem i7_169 : Ins c7_ 169 (.iload 8) 2 171 := ⟨by decide +kernel, rfl⟩
theorem i7_171 : Ins c7_ 171 (.iload 9) 2 173 := ⟨by decide +kernel, rfl⟩
theorem i7_173 : Ins c7_ 173 (.invokestatic 98) 3 176 := ⟨by decide +kernel, rfl⟩
theorem i7_176 : Ins c7_ 176 (.i2b) 1 177 := ⟨by decide +kernel, rfl⟩
theorem i7_177 : Ins c7_ 177 (.bastore) 1 178 := ⟨by decide +kernel, rfl⟩
theorem i7_178 : Ins c7_ 178 (.iinc 7 1) 3 181 := ⟨by decide +kernel, rfl⟩
theorem i7_181 : Ins c7_ 181 (.goto (-88)) 3 184 := ⟨by decide +kernel, rfl⟩
theorem i7_184 : Ins c7_ 184 (.iinc 7 (-1)) 3 187 := ⟨by decide +kernel, rfl⟩
theorem i7_187 : Ins c7_ 187 (.goto 3) 3 190 := ⟨by decide +kernel, rfl⟩
theorem i7_190 : Ins c7_ 190 (.iload 7) 2 192 := ⟨by decide +kernel, rfl⟩
theorem i7_192 : Ins c7_ 192 (.iload 4) 2 194 := ⟨by decide +kernel, rfl⟩
theorem i7_194 : Ins c7_ 194 (.if_icmp .ne 32) 3 197 := ⟨by decide +kernel, rfl⟩
theorem i7_197 : Ins c7_ 197 (.iload 5) 2 199 := ⟨by decide +kernel, rfl⟩
theorem i7_199 : Ins c7_ 199 (.aload 6) 2 201 := ⟨by decide +kernel, rfl⟩
theorem i7_201 : Ins c7_ 201 (.arraylength) 1 202 := ⟨by decide +kernel, rfl⟩
theorem i7_202 : Ins c7_ 202 (.if_icmp .eq 12) 3 205 := ⟨by decide +kernel, rfl⟩
theorem i7_205 : Ins c7_ 205 (.aload 6) 2 207 := ⟨by decide +kernel, rfl⟩
theorem i7_207 : Ins c7_ 207 (.iload 5) 2 209 := ⟨by decide +kernel, rfl⟩
theorem i7_209 : Ins c7_ 209 (.invokestatic 102) 3 212 := ⟨by decide +kernel, rfl⟩
theorem i7_212 : Ins c7_ 212 (.astore 6) 2 214 := ⟨by decide +kernel, rfl⟩
theorem i7_214 : Ins c7_ 214 (.aload_n 0) 1 215 := ⟨by decide +kernel, rfl⟩
theorem i7_215 : Ins c7_ 215 (.aload 6) 2 217 := ⟨by decide +kernel, rfl⟩
theorem i7_217 : Ins c7_ 217 (.putfield 9) 3 220 := ⟨by decide +kernel, rfl⟩
theorem i7_220 : Ins c7_ 220 (.aload_n 0) 1 221 := ⟨by decide +kernel, rfl⟩
theorem i7_221 : Ins c7_ 221 (.iconst 0) 1 222 := ⟨by decide +kernel, rfl⟩
theorem i7_222 : Ins c7_ 222 (.putfield 15) 3 225 := ⟨by decide +kernel, rfl⟩
theorem i7_225 : Ins c7_ 225 (.return_) 1 226 := ⟨by decide +kernel, rfl⟩
theorem i7_226 : Ins c7_ 226 (.iload 4) 2 228 := ⟨by decide +kernel, rfl⟩
theorem i7_228 : Ins c7_ 228 (.invokestatic 60) 3 231 := ⟨by decide +kernel, rfl⟩
theorem i7_231 : Ins c7_ 231 (.astore 8) 2 233 := ⟨by decide +kernel, rfl⟩
theorem i7_233 : Ins c7_ 233 (.aload 6) 2 235 := ⟨by decide +kernel, rfl⟩
theorem i7_235 : Ins c7_ 235 (.iconst 0) 1 236 := ⟨by decide +kernel, rfl⟩
theorem i7_236 : Ins c7_ 236 (.aload 8) 2 238 := ⟨by decide +kernel, rfl⟩
theorem i7_238 : Ins c7_ 238 (.iconst 0) 1 239 := ⟨by decide +kernel, rfl⟩
theorem i7_239 : Ins c7_ 239 (.iload 5) 2 241 := ⟨by decide +kernel, rfl⟩
theorem i7_241 : Ins c7_ 241 (.invokestatic 106) 3 244 := ⟨by decide +kernel, rfl⟩
theorem i7_244 : Ins c7_ 244 (.aload 6) 2 246 := ⟨by decide +kernel, rfl⟩
theorem i7_246 : Ins c7_ 246 (.iload 7) 2 248 := ⟨by decide +kernel, rfl⟩
theorem i7_248 : Ins c7_ 248 (.iload 4) 2 250 := ⟨by decide +kernel, rfl⟩
theorem i7_250 : Ins c7_ 250 (.aload 8) 2 252 := ⟨by decide +kernel, rfl⟩
theorem i7_252 : Ins c7_ 252 (.iload 5) 2 254 := ⟨by decide +kernel, rfl⟩
theorem i7_254 : Ins c7_ 254 (.iconst 1) 1 255 := ⟨by decide +kernel, rfl⟩
theorem i7_255 : Ins c7_ 255 (.invokestatic 112) 3 258 := ⟨by decide +kernel, rfl⟩
theorem i7_258 : Ins c7_ 258 (.istore 5) 2 260 := ⟨by decide +kernel, rfl⟩
theorem i7_260 : Ins c7_ 260 (.iload 5) 2 262 := ⟨by decide +kernel, rfl⟩
theorem i7_262 : Ins c7_ 262 (.iload 4) 2 264 := ⟨by decide +kernel, rfl⟩
theorem i7_264 : Ins c7_ 264 (.if_icmp .eq 14) 3 267 := ⟨by decide +kernel, rfl⟩
theorem i7_267 : Ins c7_ 267 (.aload 8) 2 269 := ⟨by decide +kernel, rfl⟩
theorem i7_269 : Ins c7_ 269 (.iload 5) 2 271 := ⟨by decide +kernel, rfl⟩
theorem i7_271 : Ins c7_ 271 (.iconst 1) 1 272 := ⟨by decide +kernel, rfl⟩
theorem i7_272 : Ins c7_ 272 (.ishl) 1 273 := ⟨by decide +kernel, rfl⟩
theorem i7_273 : Ins c7_ 273 (.invokestatic 102) 3 276 := ⟨by decide +kernel, rfl⟩
theorem i7_276 : Ins c7_ 276 (.astore 8) 2 278 := ⟨by decide +kernel, rfl⟩
theorem i7_278 : Ins c7_ 278 (.aload_n 0) 1 279 := ⟨by decide +kernel, rfl⟩
theorem i7_279 : Ins c7_ 279 (.aload 8) 2 281 := ⟨by decide +kernel, rfl⟩
theorem i7_281 : Ins c7_ 281 (.putfield 9) 3 284 := ⟨by decide +kernel, rfl⟩
theorem i7_284 : Ins c7_ 284 (.aload_n 0) 1 285 := ⟨by decide +kernel, rfl⟩
theorem i7_285 : Ins c7_ 285 (.iconst 1) 1 286 := ⟨by decide +kernel, rfl⟩
theorem i7_286 : Ins c7_ 286 (.putfield 15) 3 289 := ⟨by decide +kernel, rfl⟩
theorem i7_289 : Ins c7_ 289 (.goto 590) 3 292 := ⟨by decide +kernel, rfl⟩
theorem i7_879 : Ins c7_ 879 (.return_) 1 880 := ⟨by decide +kernel, rfl⟩
theorem i8_0 : Ins c8_ 0 (.iload_n 1) 1 1 := ⟨by decide +kernel, rfl⟩
theorem i8_1 : Ins c8_ 1 (.iload_n 2) 1 2 := ⟨by decide +kernel, rfl⟩
theorem i8_2 : Ins c8_ 2 (.iadd) 1 3 := ⟨by decide +kernel, rfl⟩
theorem i8_3 : Ins c8_ 3 (.istore_n 3) 1 4 := ⟨by decide +kernel, rfl⟩
theorem i8_4 : Ins c8_ 4 (.iload_n 1) 1 5 := ⟨by decide +kernel, rfl⟩
theorem i8_5 : Ins c8_ 5 (.istore 4) 2 7 := ⟨by decide +kernel, rfl⟩
theorem i8_7 : Ins c8_ 7 (.iload 4) 2 9 := ⟨by decide +kernel, rfl⟩
theorem i8_9 : Ins c8_ 9 (.iload_n 3) 1 10 := ⟨by decide +kernel, rfl⟩
theorem i8_10 : Ins c8_ 10 (.if_icmp .ge 21) 3 13 := ⟨by decide +kernel, rfl⟩
theorem i8_13 : Ins c8_ 13 (.aload_n 0) 1 14 := ⟨by decide +kernel, rfl⟩
theorem i8_14 : Ins c8_ 14 (.iload 4) 2 16 := ⟨by decide +kernel, rfl⟩
theorem i8_16 : Ins c8_ 16 (.baload) 1 17 := ⟨by decide +kernel, rfl⟩
theorem i8_17 : Ins c8_ 17 (.ifCond .ge 8) 3 20 := ⟨by decide +kernel, rfl⟩
theorem i8_20 : Ins c8_ 20 (.iload 4) 2 22 := ⟨by decide +kernel, rfl⟩
theorem i8_22 : Ins c8_ 22 (.iload_n 1) 1 23 := ⟨by decide +kernel, rfl⟩
theorem i8_23 : Ins c8_ 23 (.isub) 1 24 := ⟨by decide +kernel, rfl⟩
theorem i8_24 : Ins c8_ 24 (.ireturn) 1 25 := ⟨by decide +kernel, rfl⟩
theorem i8_25 : Ins c8_ 25 (.iinc 4 1) 3 28 := ⟨by decide +kernel, rfl⟩
theorem i8_28 : Ins c8_ 28 (.goto (-21)) 3 31 := ⟨by decide +kernel, rfl⟩
theorem i8_31 : Ins c8_ 31 (.iload_n 2) 1 32 := ⟨by decide +kernel, rfl⟩
theorem i8_32 : Ins c8_ 32 (.ireturn) 1 33 := ⟨by decide +kernel, rfl⟩
theorem i9_0 : Ins c9_ 0 (.iload_n 1) 1 1 := ⟨by decide +kernel, rfl⟩
theorem i9_1 : Ins c9_ 1 (.ifCond .ne 9) 3 4 := ⟨by decide +kernel, rfl⟩
theorem i9_4 : Ins c9_ 4 (.iload_n 2) 1 5 := ⟨by decide +kernel, rfl⟩
theorem i9_5 : Ins c9_ 5 (.aload_n 0) 1 6 := ⟨by decide +kernel, rfl⟩
theorem i9_6 : Ins c9_ 6 (.arraylength) 1 7 := ⟨by decide +kernel, rfl⟩
theorem i9_7 : Ins c9_ 7 (.if_icmp .eq 10) 3 10 := ⟨by decide +kernel, rfl⟩
theorem i9_17 : Ins c9_ 17 (.aload_n 0) 1 18 := ⟨by decide +kernel, rfl⟩
theorem i9_18 : Ins c9_ 18 (.invokevirtual 310) 3 21 := ⟨by decide +kernel, rfl⟩
theorem i9_21 : Ins c9_ 21 (.checkcast 311) 3 24 := ⟨by decide +kernel, rfl⟩
theorem i9_24 : Ins c9_ 24 (.areturn) 1 25 := ⟨by decide +kernel, rfl⟩
theorem i10_0 : Ins c10_ 0 (.aload_n 0) 1 1 := ⟨by decide +kernel, rfl⟩
theorem i10_1 : Ins c10_ 1 (.aload_n 1) 1 2 := ⟨by decide +kernel, rfl⟩
theorem i10_2 : Ins c10_ 2 (.iconst 0) 1 3 := ⟨by decide +kernel, rfl⟩
theorem i10_3 : Ins c10_ 3 (.aload_n 1) 1 4 := ⟨by decide +kernel, rfl⟩
theorem i10_4 : Ins c10_ 4 (.arraylength) 1 5 := ⟨by decide +kernel, rfl⟩
theorem i10_5 : Ins c10_ 5 (.aconst_null) 1 6 := ⟨by decide +kernel, rfl⟩
theorem i10_6 : Ins c10_ 6 (.invokespecial 27) 3 9 := ⟨by decide +kernel, rfl⟩
theorem i10_9 : Ins c10_ 9 (.return_) 1 10 := ⟨by decide +kernel, rfl⟩
theorem i11_0 : Ins c11_ 0 (.aload_n 0) 1 1 := ⟨by decide +kernel, rfl⟩
theorem i11_1 : Ins c11_ 1 (.invokespecial 1) 3 4 := ⟨by decide +kernel, rfl⟩
theorem i11_4 : Ins c11_ 4 (.iload_n 3) 1 5 := ⟨by decide +kernel, rfl⟩
theorem i11_5 : Ins c11_ 5 (.ifCond .ne 22) 3 8 := ⟨by decide +kernel, rfl⟩
theorem i11_8 : Ins c11_ 8 (.aload_n 0) 1 9 := ⟨by decide +kernel, rfl⟩
theorem i11_9 : Ins c11_ 9 (.ldc 7) 2 11 := ⟨by decide +kernel, rfl⟩
theorem i11_11 : Ins c11_ 11 (.getfield 9) 3 14 := ⟨by decide +kernel, rfl⟩
theorem i11_14 : Ins c11_ 14 (.putfield 9) 3 17 := ⟨by decide +kernel, rfl⟩
theorem i11_17 : Ins c11_ 17 (.aload_n 0) 1 18 := ⟨by decide +kernel, rfl⟩
theorem i11_18 : Ins c11_ 18 (.ldc 7) 2 20 := ⟨by decide +kernel, rfl⟩
theorem i11_20 : Ins c11_ 20 (.getfield 15) 3 23 := ⟨by decide +kernel, rfl⟩
theorem i11_23 : Ins c11_ 23 (.putfield 15) 3 26 := ⟨by decide +kernel, rfl⟩
theorem i11_26 : Ins c11_ 26 (.return_) 1 27 := ⟨by decide +kernel, rfl⟩
theorem i11_27 : Ins c11_ 27 (.getstatic 38) 3 30 := ⟨by decide +kernel, rfl⟩
theorem i11_30 : Ins c11_ 30 (.ifCond .eq 28) 3 33 := ⟨by decide +kernel, rfl⟩
theorem i11_33 : Ins c11_ 33 (.aload_n 1) 1 34 := ⟨by decide +kernel, rfl⟩
theorem i11_34 : Ins c11_ 34 (.iload_n 2) 1 35 := ⟨by decide +kernel, rfl⟩
theorem i11_35 : Ins c11_ 35 (.iload_n 3) 1 36 := ⟨by decide +kernel, rfl⟩
theorem i11_36 : Ins c11_ 36 (.invokestatic 177) 3 39 := ⟨by decide +kernel, rfl⟩
theorem i11_39 : Ins c11_ 39 (.astore 5) 2 41 := ⟨by decide +kernel, rfl⟩
theorem i11_41 : Ins c11_ 41 (.aload_n 0) 1 42 := ⟨by decide +kernel, rfl⟩
theorem i11_42 : Ins c11_ 42 (.aload 5) 2 44 := ⟨by decide +kernel, rfl⟩
theorem i11_44 : Ins c11_ 44 (.iload_n 3) 1 45 := ⟨by decide +kernel, rfl⟩
theorem i11_45 : Ins c11_ 45 (.invokestatic 47) 3 48 := ⟨by decide +kernel, rfl⟩
theorem i11_48 : Ins c11_ 48 (.putfield 15) 3 51 := ⟨by decide +kernel, rfl⟩
theorem i11_51 : Ins c11_ 51 (.aload_n 0) 1 52 := ⟨by decide +kernel, rfl⟩
theorem i11_52 : Ins c11_ 52 (.aload 5) 2 54 := ⟨by decide +kernel, rfl⟩
theorem i11_54 : Ins c11_ 54 (.putfield 9) 3 57 := ⟨by decide +kernel, rfl⟩
theorem i11_57 : Ins c11_ 57 (.return_) 1 58 := ⟨by decide +kernel, rfl⟩
theorem i12_0 : Ins c12_ 0 (.iload_n 2) 1 1 := ⟨by decide +kernel, rfl⟩
theorem i12_1 : Ins c12_ 1 (.newarray .byte) 2 3 := ⟨by decide +kernel, rfl⟩
theorem i12_3 : Ins c12_ 3 (.astore_n 3) 1 4 := ⟨by decide +kernel, rfl⟩
theorem i12_4 : Ins c12_ 4 (.aload_n 0) 1 5 := ⟨by decide +kernel, rfl⟩
theorem i12_5 : Ins c12_ 5 (.iload_n 1) 1 6 := ⟨by decide +kernel, rfl⟩
theorem i12_6 : Ins c12_ 6 (.aload_n 3) 1 7 := ⟨by decide +kernel, rfl⟩
theorem i12_7 : Ins c12_ 7 (.iconst 0) 1 8 := ⟨by decide +kernel, rfl⟩
theorem i12_8 : Ins c12_ 8 (.iload_n 2) 1 9 := ⟨by decide +kernel, rfl⟩
theorem i12_9 : Ins c12_ 9 (.invokestatic 115) 3 12 := ⟨by decide +kernel, rfl⟩
theorem i12_12 : Ins c12_ 12 (.istore 4) 2 14 := ⟨by decide +kernel, rfl⟩
theorem i12_14 : Ins c12_ 14 (.iload 4) 2 16 := ⟨by decide +kernel, rfl⟩
theorem i12_16 : Ins c12_ 16 (.iload_n 2) 1 17 := ⟨by decide +kernel, rfl⟩
theorem i12_17 : Ins c12_ 17 (.if_icmp .eq 40) 3 20 := ⟨by decide +kernel, rfl⟩
theorem i12_20 : Ins c12_ 20 (.aload_n 0) 1 21 := ⟨by decide +kernel, rfl⟩
theorem i12_21 : Ins c12_ 21 (.iload_n 1) 1 22 := ⟨by decide +kernel, rfl⟩
theorem i12_22 : Ins c12_ 22 (.iload_n 2) 1 23 := ⟨by decide +kernel, rfl⟩
theorem i12_23 : Ins c12_ 23 (.invokestatic 119) 3 26 := ⟨by decide +kernel, rfl⟩
theorem i12_26 : Ins c12_ 26 (.astore 5) 2 28 := ⟨by decide +kernel, rfl⟩
theorem i12_28 : Ins c12_ 28 (.aload 5) 2 30 := ⟨by decide +kernel, rfl⟩
theorem i12_30 : Ins c12_ 30 (.iload 4) 2 32 := ⟨by decide +kernel, rfl⟩
theorem i12_32 : Ins c12_ 32 (.invokestatic 71) 3 35 := ⟨by decide +kernel, rfl⟩
theorem i12_35 : Ins c12_ 35 (.sipush 255) 3 38 := ⟨by decide +kernel, rfl⟩
theorem i12_38 : Ins c12_ 38 (.if_icmp .gt 16) 3 41 := ⟨by decide +kernel, rfl⟩
theorem i12_54 : Ins c12_ 54 (.aload 5) 2 56 := ⟨by decide +kernel, rfl⟩
theorem i12_56 : Ins c12_ 56 (.areturn) 1 57 := ⟨by decide +kernel, rfl⟩
theorem i12_57 : Ins c12_ 57 (.aload_n 3) 1 58 := ⟨by decide +kernel, rfl⟩
theorem i12_58 : Ins c12_ 58 (.areturn) 1 59 := ⟨by decide +kernel, rfl⟩
theorem i13_0 : Ins c13_ 0 (.iconst 0) 1 1 := ⟨by decide +kernel, rfl⟩
theorem i13_1 : Ins c13_ 1 (.istore 5) 2 3 := ⟨by decide +kernel, rfl⟩
theorem i13_3 : Ins c13_ 3 (.iload 5) 2 5 := ⟨by decide +kernel, rfl⟩
theorem i13_5 : Ins c13_ 5 (.iload 4) 2 7 := ⟨by decide +kernel, rfl⟩
theorem i13_7 : Ins c13_ 7 (.if_icmp .ge 37) 3 10 := ⟨by decide +kernel, rfl⟩
theorem i13_10 : Ins c13_ 10 (.aload_n 0) 1 11 := ⟨by decide +kernel, rfl⟩
theorem i13_11 : Ins c13_ 11 (.iload_n 1) 1 12 := ⟨by decide +kernel, rfl⟩
theorem i13_12 : Ins c13_ 12 (.caload) 1 13 := ⟨by decide +kernel, rfl⟩
theorem i13_13 : Ins c13_ 13 (.istore 6) 2 15 := ⟨by decide +kernel, rfl⟩
theorem i13_15 : Ins c13_ 15 (.iload 6) 2 17 := ⟨by decide +kernel, rfl⟩
theorem i13_17 : Ins c13_ 17 (.sipush 255) 3 20 := ⟨by decide +kernel, rfl⟩
theorem i13_20 : Ins c13_ 20 (.if_icmp .le 6) 3 23 := ⟨by decide +kernel, rfl⟩
theorem i13_23 : Ins c13_ 23 (.iload 5) 2 25 := ⟨by decide +kernel, rfl⟩
theorem i13_25 : Ins c13_ 25 (.ireturn) 1 26 := ⟨by decide +kernel, rfl⟩
theorem i13_26 : Ins c13_ 26 (.aload_n 2) 1 27 := ⟨by decide +kernel, rfl⟩
theorem i13_27 : Ins c13_ 27 (.iload_n 3) 1 28 := ⟨by decide +kernel, rfl⟩
theorem i13_28 : Ins c13_ 28 (.iload 6) 2 30 := ⟨by decide +kernel, rfl⟩
theorem i13_30 : Ins c13_ 30 (.i2b) 1 31 := ⟨by decide +kernel, rfl⟩
theorem i13_31 : Ins c13_ 31 (.bastore) 1 32 := ⟨by decide +kernel, rfl⟩
theorem i13_32 : Ins c13_ 32 (.iinc 1 1) 3 35 := ⟨by decide +kernel, rfl⟩
theorem i13_35 : Ins c13_ 35 (.iinc 3 1) 3 38 := ⟨by decide +kernel, rfl⟩
theorem i13_38 : Ins c13_ 38 (.iinc 5 1) 3 41 := ⟨by decide +kernel, rfl⟩
theorem i13_41 : Ins c13_ 41 (.goto (-38)) 3 44 := ⟨by decide +kernel, rfl⟩
theorem i13_44 : Ins c13_ 44 (.iload 4) 2 46 := ⟨by decide +kernel, rfl⟩
theorem i13_46 : Ins c13_ 46 (.ireturn) 1 47 := ⟨by decide +kernel, rfl⟩
theorem i14_0 : Ins c14_ 0 (.iload_n 1) 1 1 := ⟨by decide +kernel, rfl⟩
theorem i14_1 : Ins c14_ 1 (.aload_n 0) 1 2 := ⟨by decide +kernel, rfl⟩
theorem i14_2 : Ins c14_ 2 (.arraylength) 1 3 := ⟨by decide +kernel, rfl⟩
theorem i14_3 : Ins c14_ 3 (.isub) 1 4 := ⟨by decide +kernel, rfl⟩
theorem i14_4 : Ins c14_ 4 (.bipush 31) 2 6 := ⟨by decide +kernel, rfl⟩
theorem i14_6 : Ins c14_ 6 (.iushr) 1 7 := ⟨by decide +kernel, rfl⟩
theorem i14_7 : Ins c14_ 7 (.i2b) 1 8 := ⟨by decide +kernel, rfl⟩
theorem i14_8 : Ins c14_ 8 (.ireturn) 1 9 := ⟨by decide +kernel, rfl⟩
theorem i15_0 : Ins c15_ 0 (.aload_n 0) 1 1 := ⟨by decide +kernel, rfl⟩
theorem i15_1 : Ins c15_ 1 (.aload_n 1) 1 2 := ⟨by decide +kernel, rfl⟩
theorem i15_2 : Ins c15_ 2 (.if_acmp .ne 5) 3 5 := ⟨by decide +kernel, rfl⟩
theorem i15_7 : Ins c15_ 7 (.aload_n 1) 1 8 := ⟨by decide +kernel, rfl⟩
theorem i15_8 : Ins c15_ 8 (.instanceof 10) 3 11 := ⟨by decide +kernel, rfl⟩
theorem i15_11 : Ins c15_ 11 (.ifCond .eq 43) 3 14 := ⟨by decide +kernel, rfl⟩
theorem i15_14 : Ins c15_ 14 (.aload_n 1) 1 15 := ⟨by decide +kernel, rfl⟩
theorem i15_15 : Ins c15_ 15 (.checkcast 10) 3 18 := ⟨by decide +kernel, rfl⟩
theorem i15_18 : Ins c15_ 18 (.astore_n 2) 1 19 := ⟨by decide +kernel, rfl⟩
theorem i15_19 : Ins c15_ 19 (.getstatic 38) 3 22 := ⟨by decide +kernel, rfl⟩
theorem i15_22 : Ins c15_ 22 (.ifCond .eq 14) 3 25 := ⟨by decide +kernel, rfl⟩
theorem i15_25 : Ins c15_ 25 (.aload_n 0) 1 26 := ⟨by decide +kernel, rfl⟩
theorem i15_26 : Ins c15_ 26 (.getfield 15) 3 29 := ⟨by decide +kernel, rfl⟩
theorem i15_29 : Ins c15_ 29 (.aload_n 2) 1 30 := ⟨by decide +kernel, rfl⟩
theorem i15_30 : Ins c15_ 30 (.getfield 15) 3 33 := ⟨by decide +kernel, rfl⟩
theorem i15_33 : Ins c15_ 33 (.if_icmp .ne 21) 3 36 := ⟨by decide +kernel, rfl⟩
theorem i15_36 : Ins c15_ 36 (.aload_n 0) 1 37 := ⟨by decide +kernel, rfl⟩
theorem i15_37 : Ins c15_ 37 (.getfield 9) 3 40 := ⟨by decide +kernel, rfl⟩
theorem i15_40 : Ins c15_ 40 (.aload_n 2) 1 41 := ⟨by decide +kernel, rfl⟩
theorem i15_41 : Ins c15_ 41 (.getfield 9) 3 44 := ⟨by decide +kernel, rfl⟩
theorem i15_44 : Ins c15_ 44 (.invokestatic 541) 3 47 := ⟨by decide +kernel, rfl⟩
theorem i15_47 : Ins c15_ 47 (.ifCond .eq 7) 3 50 := ⟨by decide +kernel, rfl⟩
theorem i15_50 : Ins c15_ 50 (.iconst 1) 1 51 := ⟨by decide +kernel, rfl⟩
theorem i15_51 : Ins c15_ 51 (.goto 4) 3 54 := ⟨by decide +kernel, rfl⟩
theorem i15_54 : Ins c15_ 54 (.iconst 0) 1 55 := ⟨by decide +kernel, rfl⟩
theorem i15_55 : Ins c15_ 55 (.ireturn) 1 56 := ⟨by decide +kernel, rfl⟩
theorem i16_0 : Ins c16_ 0 (.aload_n 0) 1 1 := ⟨by decide +kernel, rfl⟩
theorem i16_1 : Ins c16_ 1 (.arraylength) 1 2 := ⟨by decide +kernel, rfl⟩
theorem i16_2 : Ins c16_ 2 (.aload_n 1) 1 3 := ⟨by decide +kernel, rfl⟩
theorem i16_3 : Ins c16_ 3 (.arraylength) 1 4 := ⟨by decide +kernel, rfl⟩
theorem i16_4 : Ins c16_ 4 (.if_icmp .ne 30) 3 7 := ⟨by decide +kernel, rfl⟩
theorem i16_7 : Ins c16_ 7 (.iconst 0) 1 8 := ⟨by decide +kernel, rfl⟩
theorem i16_8 : Ins c16_ 8 (.istore_n 2) 1 9 := ⟨by decide +kernel, rfl⟩
theorem i16_9 : Ins c16_ 9 (.iload_n 2) 1 10 := ⟨by decide +kernel, rfl⟩
theorem i16_10 : Ins c16_ 10 (.aload_n 0) 1 11 := ⟨by decide +kernel, rfl⟩
theorem i16_11 : Ins c16_ 11 (.arraylength) 1 12 := ⟨by decide +kernel, rfl⟩
theorem i16_12 : Ins c16_ 12 (.if_icmp .ge 20) 3 15 := ⟨by decide +kernel, rfl⟩
theorem i16_15 : Ins c16_ 15 (.aload_n 0) 1 16 := ⟨by decide +kernel, rfl⟩
theorem i16_16 : Ins c16_ 16 (.iload_n 2) 1 17 := ⟨by decide +kernel, rfl⟩
theorem i16_17 : Ins c16_ 17 (.baload) 1 18 := ⟨by decide +kernel, rfl⟩
theorem i16_18 : Ins c16_ 18 (.aload_n 1) 1 19 := ⟨by decide +kernel, rfl⟩
theorem i16_19 : Ins c16_ 19 (.iload_n 2) 1 20 := ⟨by decide +kernel, rfl⟩
theorem i16_20 : Ins c16_ 20 (.baload) 1 21 := ⟨by decide +kernel, rfl⟩
theorem i16_21 : Ins c16_ 21 (.if_icmp .eq 5) 3 24 := ⟨by decide +kernel, rfl⟩
theorem i16_24 : Ins c16_ 24 (.iconst 0) 1 25 := ⟨by decide +kernel, rfl⟩
theorem i16_25 : Ins c16_ 25 (.ireturn) 1 26 := ⟨by decide +kernel, rfl⟩
theorem i16_26 : Ins c16_ 26 (.iinc 2 1) 3 29 := ⟨by decide +kernel, rfl⟩
theorem i16_29 : Ins c16_ 29 (.goto (-20)) 3 32 := ⟨by decide +kernel, rfl⟩
theorem i16_32 : Ins c16_ 32 (.iconst 1) 1 33 := ⟨by decide +kernel, rfl⟩
theorem i16_33 : Ins c16_ 33 (.ireturn) 1 34 := ⟨by decide +kernel, rfl⟩
theorem i16_34 : Ins c16_ 34 (.iconst 0) 1 35 := ⟨by decide +kernel, rfl⟩
theorem i16_35 : Ins c16_ 35 (.ireturn) 1 36 := ⟨by decide +kernel, rfl⟩
theorem i17_0 : Ins c17_ 0 (.iload_n 0) 1 1 := ⟨by decide +kernel, rfl⟩
theorem i17_1 : Ins c17_ 1 (.bipush 6) 2 3 := ⟨by decide +kernel, rfl⟩
theorem i17_3 : Ins c17_ 3 (.ishl) 1 4 := ⟨by decide +kernel, rfl⟩
theorem i17_4 : Ins c17_ 4 (.iload_n 1) 1 5 := ⟨by decide +kernel, rfl⟩
theorem i17_5 : Ins c17_ 5 (.ixor) 1 6 := ⟨by decide +kernel, rfl⟩
theorem i17_6 : Ins c17_ 6 (.sipush 3968) 3 9 := ⟨by decide +kernel, rfl⟩
theorem i17_9 : Ins c17_ 9 (.ixor) 1 10 := ⟨by decide +kernel, rfl⟩
theorem i17_10 : Ins c17_ 10 (.i2c) 1 11 := ⟨by decide +kernel, rfl⟩
theorem i17_11 : Ins c17_ 11 (.ireturn) 1 12 := ⟨by decide +kernel, rfl⟩
theorem i18_0 : Ins c18_ 0 (.iload_n 1) 1 1 := ⟨by decide +kernel, rfl⟩
theorem i18_1 : Ins c18_ 1 (.aload_n 0) 1 2 := ⟨by decide +kernel, rfl⟩
theorem i18_2 : Ins c18_ 2 (.arraylength) 1 3 := ⟨by decide +kernel, rfl⟩
theorem i18_3 : Ins c18_ 3 (.if_icmp .ne 11) 3 6 := ⟨by decide +kernel, rfl⟩
theorem i18_14 : Ins c18_ 14 (.iload_n 1) 1 15 := ⟨by decide +kernel, rfl⟩
theorem i18_15 : Ins c18_ 15 (.newarray .byte) 2 17 := ⟨by decide +kernel, rfl⟩
theorem i18_17 : Ins c18_ 17 (.astore_n 2) 1 18 := ⟨by decide +kernel, rfl⟩
theorem i18_18 : Ins c18_ 18 (.aload_n 0) 1 19 := ⟨by decide +kernel, rfl⟩
theorem i18_19 : Ins c18_ 19 (.iconst 0) 1 20 := ⟨by decide +kernel, rfl⟩
theorem i18_20 : Ins c18_ 20 (.aload_n 2) 1 21 := ⟨by decide +kernel, rfl⟩
theorem i18_21 : Ins c18_ 21 (.iconst 0) 1 22 := ⟨by decide +kernel, rfl⟩
theorem i18_22 : Ins c18_ 22 (.aload_n 0) 1 23 := ⟨by decide +kernel, rfl⟩
theorem i18_23 : Ins c18_ 23 (.arraylength) 1 24 := ⟨by decide +kernel, rfl⟩
theorem i18_24 : Ins c18_ 24 (.iload_n 1) 1 25 := ⟨by decide +kernel, rfl⟩
theorem i18_25 : Ins c18_ 25 (.invokestatic 304) 3 28 := ⟨by decide +kernel, rfl⟩
theorem i18_28 : Ins c18_ 28 (.invokestatic 150) 3 31 := ⟨by decide +kernel, rfl⟩
theorem i18_31 : Ins c18_ 31 (.aload_n 2) 1 32 := ⟨by decide +kernel, rfl⟩
theorem i18_32 : Ins c18_ 32 (.areturn) 1 33 := ⟨by decide +kernel, rfl⟩
theorem i19_0 : Ins c19_ 0 (.iload_n 0) 1 1 := ⟨by decide +kernel, rfl⟩
theorem i19_1 : Ins c19_ 1 (.iload_n 1) 1 2 := ⟨by decide +kernel, rfl⟩
theorem i19_2 : Ins c19_ 2 (.if_icmp .gt 7) 3 5 := ⟨by decide +kernel, rfl⟩
theorem i19_5 : Ins c19_ 5 (.iload_n 0) 1 6 := ⟨by decide +kernel, rfl⟩
theorem i19_6 : Ins c19_ 6 (.goto 4) 3 9 := ⟨by decide +kernel, rfl⟩
theorem i19_9 : Ins c19_ 9 (.iload_n 1) 1 10 := ⟨by decide +kernel, rfl⟩
theorem i19_10 : Ins c19_ 10 (.ireturn) 1 11 := ⟨by decide +kernel, rfl⟩
theorem i20_0 : Ins c20_ 0 (.iload_n 0) 1 1 := ⟨by decide +kernel, rfl⟩
theorem i20_1 : Ins c20_ 1 (.invokestatic 11) 3 4 := ⟨by decide +kernel, rfl⟩
theorem i20_4 : Ins c20_ 4 (.newarray .byte) 2 6 := ⟨by decide +kernel, rfl⟩
theorem i20_6 : Ins c20_ 6 (.areturn) 1 7 := ⟨by decide +kernel, rfl⟩
theorem i21_0 : Ins c21_ 0 (.iload_n 0) 1 1 := ⟨by decide +kernel, rfl⟩
theorem i21_1 : Ins c21_ 1 (.ifCond .ge 11) 3 4 := ⟨by decide +kernel, rfl⟩
theorem i21_12 : Ins c21_ 12 (.iload_n 0) 1 13 := ⟨by decide +kernel, rfl⟩
theorem i21_13 : Ins c21_ 13 (.ldc 20) 2 15 := ⟨by decide +kernel, rfl⟩
theorem i21_15 : Ins c21_ 15 (.if_icmp .lt 40) 3 18 := ⟨by decide +kernel, rfl⟩
theorem i21_55 : Ins c21_ 55 (.iload_n 0) 1 56 := ⟨by decide +kernel, rfl⟩
theorem i21_56 : Ins c21_ 56 (.iconst 1) 1 57 := ⟨by decide +kernel, rfl⟩
theorem i21_57 : Ins c21_ 57 (.ishl) 1 58 := ⟨by decide +kernel, rfl⟩
theorem i21_58 : Ins c21_ 58 (.ireturn) 1 59 := ⟨by decide +kernel, rfl⟩
theorem i22_0 : Ins c22_ 0 (.aload_n 0) 1 1 := ⟨by decide +kernel, rfl⟩
theorem i22_1 : Ins c22_ 1 (.iload_n 1) 1 2 := ⟨by decide +kernel, rfl⟩
theorem i22_2 : Ins c22_ 2 (.aload_n 2) 1 3 := ⟨by decide +kernel, rfl⟩
theorem i22_3 : Ins c22_ 3 (.iload_n 3) 1 4 := ⟨by decide +kernel, rfl⟩
theorem i22_4 : Ins c22_ 4 (.iload 4) 2 6 := ⟨by decide +kernel, rfl⟩
theorem i22_6 : Ins c22_ 6 (.invokestatic 240) 3 9 := ⟨by decide +kernel, rfl⟩
theorem i22_9 : Ins c22_ 9 (.return_) 1 10 := ⟨by decide +kernel, rfl⟩
theorem i23_0 : Ins c23_ 0 (.iload_n 3) 1 1 := ⟨by decide +kernel, rfl⟩
theorem i23_1 : Ins c23_ 1 (.iload 4) 2 3 := ⟨by decide +kernel, rfl⟩
theorem i23_3 : Ins c23_ 3 (.aload_n 2) 1 4 := ⟨by decide +kernel, rfl⟩
theorem i23_4 : Ins c23_ 4 (.invokestatic 173) 3 7 := ⟨by decide +kernel, rfl⟩
theorem i23_7 : Ins c23_ 7 (.iconst 0) 1 8 := ⟨by decide +kernel, rfl⟩
theorem i23_8 : Ins c23_ 8 (.istore 5) 2 10 := ⟨by decide +kernel, rfl⟩
theorem i23_10 : Ins c23_ 10 (.iload 5) 2 12 := ⟨by decide +kernel, rfl⟩
theorem i23_12 : Ins c23_ 12 (.iload 4) 2 14 := ⟨by decide +kernel, rfl⟩
theorem i23_14 : Ins c23_ 14 (.if_icmp .ge 27) 3 17 := ⟨by decide +kernel, rfl⟩
theorem i23_17 : Ins c23_ 17 (.aload_n 2) 1 18 := ⟨by decide +kernel, rfl⟩
theorem i23_18 : Ins c23_ 18 (.iload_n 3) 1 19 := ⟨by decide +kernel, rfl⟩
theorem i23_19 : Ins c23_ 19 (.iinc 3 1) 3 22 := ⟨by decide +kernel, rfl⟩
theorem i23_22 : Ins c23_ 22 (.aload_n 0) 1 23 := ⟨by decide +kernel, rfl⟩
theorem i23_23 : Ins c23_ 23 (.iload_n 1) 1 24 := ⟨by decide +kernel, rfl⟩
theorem i23_24 : Ins c23_ 24 (.iinc 1 1) 3 27 := ⟨by decide +kernel, rfl⟩
theorem i23_27 : Ins c23_ 27 (.baload) 1 28 := ⟨by decide +kernel, rfl⟩
theorem i23_28 : Ins c23_ 28 (.sipush 255) 3 31 := ⟨by decide +kernel, rfl⟩
theorem i23_31 : Ins c23_ 31 (.iand) 1 32 := ⟨by decide +kernel, rfl⟩
theorem i23_32 : Ins c23_ 32 (.invokestatic 111) 3 35 := ⟨by decide +kernel, rfl⟩
theorem i23_35 : Ins c23_ 35 (.iinc 5 1) 3 38 := ⟨by decide +kernel, rfl⟩
theorem i23_38 : Ins c23_ 38 (.goto (-28)) 3 41 := ⟨by decide +kernel, rfl⟩
theorem i23_41 : Ins c23_ 41 (.return_) 1 42 := ⟨by decide +kernel, rfl⟩
theorem i24_0 : Ins c24_ 0 (.iload_n 0) 1 1 := ⟨by decide +kernel, rfl⟩
theorem i24_1 : Ins c24_ 1 (.iload_n 1) 1 2 := ⟨by decide +kernel, rfl⟩
theorem i24_2 : Ins c24_ 2 (.aload_n 2) 1 3 := ⟨by decide +kernel, rfl⟩
theorem i24_3 : Ins c24_ 3 (.invokestatic 48) 3 6 := ⟨by decide +kernel, rfl⟩
theorem i24_6 : Ins c24_ 6 (.invokestatic 419) 3 9 := ⟨by decide +kernel, rfl⟩
theorem i24_9 : Ins c24_ 9 (.pop) 1 10 := ⟨by decide +kernel, rfl⟩
theorem i24_10 : Ins c24_ 10 (.return_) 1 11 := ⟨by decide +kernel, rfl⟩
theorem i25_0 : Ins c25_ 0 (.aload_n 0) 1 1 := ⟨by decide +kernel, rfl⟩
theorem i25_1 : Ins c25_ 1 (.arraylength) 1 2 := ⟨by decide +kernel, rfl⟩
theorem i25_2 : Ins c25_ 2 (.iconst 1) 1 3 := ⟨by decide +kernel, rfl⟩
theorem i25_3 : Ins c25_ 3 (.ishr) 1 4 := ⟨by decide +kernel, rfl⟩
theorem i25_4 : Ins c25_ 4 (.ireturn) 1 5 := ⟨by decide +kernel, rfl⟩
theorem i26_0 : Ins c26_ 0 (.iload_n 0) 1 1 := ⟨by decide +kernel, rfl⟩
theorem i26_1 : Ins c26_ 1 (.iload_n 1) 1 2 := ⟨by decide +kernel, rfl⟩
theorem i26_2 : Ins c26_ 2 (.iload_n 2) 1 3 := ⟨by decide +kernel, rfl⟩
theorem i26_3 : Ins c26_ 3 (.getstatic 1053) 3 6 := ⟨by decide +kernel, rfl⟩
theorem i26_6 : Ins c26_ 6 (.invokestatic 1065) 3 9 := ⟨by decide +kernel, rfl⟩
theorem i26_9 : Ins c26_ 9 (.ireturn) 1 10 := ⟨by decide +kernel, rfl⟩
theorem i27_0 : Ins c27_ 0 (.iload_n 2) 1 1 := ⟨by decide +kernel, rfl⟩
theorem i27_1 : Ins c27_ 1 (.iload_n 0) 1 2 := ⟨by decide +kernel, rfl⟩
theorem i27_2 : Ins c27_ 2 (.ior) 1 3 := ⟨by decide +kernel, rfl⟩
theorem i27_3 : Ins c27_ 3 (.iload_n 1) 1 4 := ⟨by decide +kernel, rfl⟩
theorem i27_4 : Ins c27_ 4 (.ior) 1 5 := ⟨by decide +kernel, rfl⟩
theorem i27_5 : Ins c27_ 5 (.ifCond .lt 10) 3 8 := ⟨by decide +kernel, rfl⟩
theorem i27_8 : Ins c27_ 8 (.iload_n 1) 1 9 := ⟨by decide +kernel, rfl⟩
theorem i27_9 : Ins c27_ 9 (.iload_n 2) 1 10 := ⟨by decide +kernel, rfl⟩
theorem i27_10 : Ins c27_ 10 (.iload_n 0) 1 11 := ⟨by decide +kernel, rfl⟩
theorem i27_11 : Ins c27_ 11 (.isub) 1 12 := ⟨by decide +kernel, rfl⟩
theorem i27_12 : Ins c27_ 12 (.if_icmp .le 11) 3 15 := ⟨by decide +kernel, rfl⟩
theorem i27_23 : Ins c27_ 23 (.iload_n 0) 1 24 := ⟨by decide +kernel, rfl⟩
theorem i27_24 : Ins c27_ 24 (.ireturn) 1 25 := ⟨by decide +kernel, rfl⟩
theorem i28_0 : Ins c28_ 0 (.iload_n 1) 1 1 := ⟨by decide +kernel, rfl⟩
theorem i28_1 : Ins c28_ 1 (.iload_n 2) 1 2 := ⟨by decide +kernel, rfl⟩
theorem i28_2 : Ins c28_ 2 (.if_icmp .ge 619) 3 5 := ⟨by decide +kernel, rfl⟩
theorem i28_5 : Ins c28_ 5 (.aload_n 0) 1 6 := ⟨by decide +kernel, rfl⟩
theorem i28_6 : Ins c28_ 6 (.iload_n 1) 1 7 := ⟨by decide +kernel, rfl⟩
theorem i28_7 : Ins c28_ 7 (.iinc 1 1) 3 10 := ⟨by decide +kernel, rfl⟩
theorem i28_10 : Ins c28_ 10 (.baload) 1 11 := ⟨by decide +kernel, rfl⟩
theorem i28_11 : Ins c28_ 11 (.istore 6) 2 13 := ⟨by decide +kernel, rfl⟩
theorem i28_13 : Ins c28_ 13 (.iload 6) 2 15 := ⟨by decide +kernel, rfl⟩
theorem i28_15 : Ins c28_ 15 (.ifCond .lt 18) 3 18 := ⟨by decide +kernel, rfl⟩
theorem i28_18 : Ins c28_ 18 (.aload_n 3) 1 19 := ⟨by decide +kernel, rfl⟩
theorem i28_19 : Ins c28_ 19 (.iload 4) 2 21 := ⟨by decide +kernel, rfl⟩
theorem i28_21 : Ins c28_ 21 (.iinc 4 1) 3 24 := ⟨by decide +kernel, rfl⟩
theorem i28_24 : Ins c28_ 24 (.iload 6) 2 26 := ⟨by decide +kernel, rfl⟩
theorem i28_26 : Ins c28_ 26 (.i2c) 1 27 := ⟨by decide +kernel, rfl⟩
theorem i28_27 : Ins c28_ 27 (.invokestatic 64) 3 30 := ⟨by decide +kernel, rfl⟩
theorem i28_30 : Ins c28_ 30 (.goto 588) 3 33 := ⟨by decide +kernel, rfl⟩
theorem i28_33 : Ins c28_ 33 (.iload 6) 2 35 := ⟨by decide +kernel, rfl⟩
theorem i28_35 : Ins c28_ 35 (.iconst 5) 1 36 := ⟨by decide +kernel, rfl⟩
theorem i28_36 : Ins c28_ 36 (.ishr) 1 37 := ⟨by decide +kernel, rfl⟩
theorem i28_37 : Ins c28_ 37 (.bipush (-2)) 2 39 := ⟨by decide +kernel, rfl⟩
theorem i28_39 : Ins c28_ 39 (.if_icmp .ne 104) 3 42 := ⟨by decide +kernel, rfl⟩
theorem i28_42 : Ins c28_ 42 (.iload 6) 2 44 := ⟨by decide +kernel, rfl⟩
theorem i28_44 : Ins c28_ 44 (.bipush 30) 2 46 := ⟨by decide +kernel, rfl⟩
theorem i28_46 : Ins c28_ 46 (.iand) 1 47 := ⟨by decide +kernel, rfl⟩
theorem i28_47 : Ins c28_ 47 (.ifCond .eq 96) 3 50 := ⟨by decide +kernel, rfl⟩
theorem i28_50 : Ins c28_ 50 (.iload_n 1) 1 51 := ⟨by decide +kernel, rfl⟩
theorem i28_51 : Ins c28_ 51 (.iload_n 2) 1 52 := ⟨by decide +kernel, rfl⟩
theorem i28_52 : Ins c28_ 52 (.if_icmp .ge 67) 3 55 := ⟨by decide +kernel, rfl⟩
theorem i28_55 : Ins c28_ 55 (.aload_n 0) 1 56 := ⟨by decide +kernel, rfl⟩
theorem i28_56 : Ins c28_ 56 (.iload_n 1) 1 57 := ⟨by decide +kernel, rfl⟩
theorem i28_57 : Ins c28_ 57 (.iinc 1 1) 3 60 := ⟨by decide +kernel, rfl⟩
theorem i28_60 : Ins c28_ 60 (.baload) 1 61 := ⟨by decide +kernel, rfl⟩
theorem i28_61 : Ins c28_ 61 (.istore 7) 2 63 := ⟨by decide +kernel, rfl⟩
theorem i28_63 : Ins c28_ 63 (.iload 7) 2 65 := ⟨by decide +kernel, rfl⟩
theorem i28_65 : Ins c28_ 65 (.invokestatic 385) 3 68 := ⟨by decide +kernel, rfl⟩
theorem i28_68 : Ins c28_ 68 (.ifCond .eq 32) 3 71 := ⟨by decide +kernel, rfl⟩
theorem i28_100 : Ins c28_ 100 (.aload_n 3) 1 101 := ⟨by decide +kernel, rfl⟩
theorem i28_101 : Ins c28_ 101 (.iload 4) 2 103 := ⟨by decide +kernel, rfl⟩
theorem i28_103 : Ins c28_ 103 (.iinc 4 1) 3 106 := ⟨by decide +kernel, rfl⟩
theorem i28_106 : Ins c28_ 106 (.iload 6) 2 108 := ⟨by decide +kernel, rfl⟩
theorem i28_108 : Ins c28_ 108 (.iload 7) 2 110 := ⟨by decide +kernel, rfl⟩
theorem i28_110 : Ins c28_ 110 (.invokestatic 98) 3 113 := ⟨by decide +kernel, rfl⟩
theorem i28_113 : Ins c28_ 113 (.invokestatic 64) 3 116 := ⟨by decide +kernel, rfl⟩
theorem i28_116 : Ins c28_ 116 (.goto (-116)) 3 119 := ⟨by decide +kernel, rfl⟩
theorem i28_119 : Ins c28_ 119 (.iload 5) 2 121 := ⟨by decide +kernel, rfl⟩
theorem i28_121 : Ins c28_ 121 (.ifCond .ne 8) 3 124 := ⟨by decide +kernel, rfl⟩
theorem i28_129 : Ins c28_ 129 (.aload_n 3) 1 130 := ⟨by decide +kernel, rfl⟩
theorem i28_130 : Ins c28_ 130 (.iload 4) 2 132 := ⟨by decide +kernel, rfl⟩
theorem i28_132 : Ins c28_ 132 (.iinc 4 1) 3 135 := ⟨by decide +kernel, rfl⟩
theorem i28_135 : Ins c28_ 135 (.ldc 132) 2 137 := ⟨by decide +kernel, rfl⟩
theorem i28_137 : Ins c28_ 137 (.invokestatic 64) 3 140 := ⟨by decide +kernel, rfl⟩
theorem i28_140 : Ins c28_ 140 (.goto 481) 3 143 := ⟨by decide +kernel, rfl⟩
theorem i28_143 : Ins c28_ 143 (.iload 6) 2 145 := ⟨by decide +kernel, rfl⟩
theorem i28_145 : Ins c28_ 145 (.iconst 4) 1 146 := ⟨by decide +kernel, rfl⟩
theorem i28_146 : Ins c28_ 146 (.ishr) 1 147 := ⟨by decide +kernel, rfl⟩
theorem i28_147 : Ins c28_ 147 (.bipush (-2)) 2 149 := ⟨by decide +kernel, rfl⟩
theorem i28_149 : Ins c28_ 149 (.if_icmp .ne 200) 3 152 := ⟨by decide +kernel, rfl⟩
theorem i28_152 : Ins c28_ 152 (.iload_n 1) 1 153 := ⟨by decide +kernel, rfl⟩
theorem i28_153 : Ins c28_ 153 (.iconst 1) 1 154 := ⟨by decide +kernel, rfl⟩
theorem i28_154 : Ins c28_ 154 (.iadd) 1 155 := ⟨by decide +kernel, rfl⟩
theorem i28_155 : Ins c28_ 155 (.iload_n 2) 1 156 := ⟨by decide +kernel, rfl⟩
theorem i28_156 : Ins c28_ 156 (.if_icmp .ge 127) 3 159 := ⟨by decide +kernel, rfl⟩
theorem i28_159 : Ins c28_ 159 (.aload_n 0) 1 160 := ⟨by decide +kernel, rfl⟩
theorem i28_160 : Ins c28_ 160 (.iload_n 1) 1 161 := ⟨by decide +kernel, rfl⟩
theorem i28_161 : Ins c28_ 161 (.iinc 1 1) 3 164 := ⟨by decide +kernel, rfl⟩
theorem i28_164 : Ins c28_ 164 (.baload) 1 165 := ⟨by decide +kernel, rfl⟩
theorem i28_165 : Ins c28_ 165 (.istore 7) 2 167 := ⟨by decide +kernel, rfl⟩
theorem i28_167 : Ins c28_ 167 (.aload_n 0) 1 168 := ⟨by decide +kernel, rfl⟩
theorem i28_168 : Ins c28_ 168 (.iload_n 1) 1 169 := ⟨by decide +kernel, rfl⟩
theorem i28_169 : Ins c28_ 169 (.iinc 1 1) 3 172 := ⟨by decide +kernel, rfl⟩
theorem i28_172 : Ins c28_ 172 (.baload) 1 173 := ⟨by decide +kernel, rfl⟩
theorem i28_173 : Ins c28_ 173 (.istore 8) 2 175 := ⟨by decide +kernel, rfl⟩
theorem i28_175 : Ins c28_ 175 (.iload 6) 2 177 := ⟨by decide +kernel, rfl⟩
theorem i28_177 : Ins c28_ 177 (.iload 7) 2 179 := ⟨by decide +kernel, rfl⟩
theorem i28_179 : Ins c28_ 179 (.iload 8) 2 181 := ⟨by decide +kernel, rfl⟩
theorem i28_181 : Ins c28_ 181 (.invokestatic 392) 3 184 := ⟨by decide +kernel, rfl⟩
theorem i28_184 : Ins c28_ 184 (.ifCond .eq 40) 3 187 := ⟨by decide +kernel, rfl⟩
theorem i28_224 : Ins c28_ 224 (.iload 6) 2 226 := ⟨by decide +kernel, rfl⟩
theorem i28_226 : Ins c28_ 226 (.iload 7) 2 228 := ⟨by decide +kernel, rfl⟩
theorem i28_228 : Ins c28_ 228 (.iload 8) 2 230 := ⟨by decide +kernel, rfl⟩
theorem i28_230 : Ins c28_ 230 (.invokestatic 400) 3 233 := ⟨by decide +kernel, rfl⟩
theorem i28_233 : Ins c28_ 233 (.istore 9) 2 235 := ⟨by decide +kernel, rfl⟩
theorem i28_235 : Ins c28_ 235 (.iload 9) 2 237 := ⟨by decide +kernel, rfl⟩
theorem i28_237 : Ins c28_ 237 (.invokestatic 404) 3 240 := ⟨by decide +kernel, rfl⟩
theorem i28_240 : Ins c28_ 240 (.ifCond .eq 29) 3 243 := ⟨by decide +kernel, rfl⟩
theorem i28_269 : Ins c28_ 269 (.aload_n 3) 1 270 := ⟨by decide +kernel, rfl⟩
theorem i28_270 : Ins c28_ 270 (.iload 4) 2 272 := ⟨by decide +kernel, rfl⟩
theorem i28_272 : Ins c28_ 272 (.iinc 4 1) 3 275 := ⟨by decide +kernel, rfl⟩
theorem i28_275 : Ins c28_ 275 (.iload 9) 2 277 := ⟨by decide +kernel, rfl⟩
theorem i28_277 : Ins c28_ 277 (.invokestatic 64) 3 280 := ⟨by decide +kernel, rfl⟩
theorem i28_280 : Ins c28_ 280 (.goto (-280)) 3 283 := ⟨by decide +kernel, rfl⟩
theorem i28_283 : Ins c28_ 283 (.iload_n 1) 1 284 := ⟨by decide +kernel, rfl⟩
theorem i28_284 : Ins c28_ 284 (.iload_n 2) 1 285 := ⟨by decide +kernel, rfl⟩
theorem i28_285 : Ins c28_ 285 (.if_icmp .ge 40) 3 288 := ⟨by decide +kernel, rfl⟩
theorem i28_325 : Ins c28_ 325 (.iload 5) 2 327 := ⟨by decide +kernel, rfl⟩
theorem i28_327 : Ins c28_ 327 (.ifCond .ne 8) 3 330 := ⟨by decide +kernel, rfl⟩
theorem i28_335 : Ins c28_ 335 (.aload_n 3) 1 336 := ⟨by decide +kernel, rfl⟩
theorem i28_336 : Ins c28_ 336 (.iload 4) 2 338 := ⟨by decide +kernel, rfl⟩
theorem i28_338 : Ins c28_ 338 (.iinc 4 1) 3 341 := ⟨by decide +kernel, rfl⟩
theorem i28_341 : Ins c28_ 341 (.ldc 132) 2 343 := ⟨by decide +kernel, rfl⟩
theorem i28_343 : Ins c28_ 343 (.invokestatic 64) 3 346 := ⟨by decide +kernel, rfl⟩
theorem i28_346 : Ins c28_ 346 (.goto 275) 3 349 := ⟨by decide +kernel, rfl⟩
theorem i28_349 : Ins c28_ 349 (.iload 6) 2 351 := ⟨by decide +kernel, rfl⟩
theorem i28_351 : Ins c28_ 351 (.iconst 3) 1 352 := ⟨by decide +kernel, rfl⟩
theorem i28_352 : Ins c28_ 352 (.ishr) 1 353 := ⟨by decide +kernel, rfl⟩
theorem i28_353 : Ins c28_ 353 (.bipush (-2)) 2 355 := ⟨by decide +kernel, rfl⟩
theorem i28_355 : Ins c28_ 355 (.if_icmp .ne 240) 3 358 := ⟨by decide +kernel, rfl⟩
theorem i28_358 : Ins c28_ 358 (.iload_n 1) 1 359 := ⟨by decide +kernel, rfl⟩
theorem i28_359 : Ins c28_ 359 (.iconst 2) 1 360 := ⟨by decide +kernel, rfl⟩
theorem i28_360 : Ins c28_ 360 (.iadd) 1 361 := ⟨by decide +kernel, rfl⟩
theorem i28_361 : Ins c28_ 361 (.iload_n 2) 1 362 := ⟨by decide +kernel, rfl⟩
theorem i28_362 : Ins c28_ 362 (.if_icmp .ge 128) 3 365 := ⟨by decide +kernel, rfl⟩
theorem i28_365 : Ins c28_ 365 (.aload_n 0) 1 366 := ⟨by decide +kernel, rfl⟩
theorem i28_366 : Ins c28_ 366 (.iload_n 1) 1 367 := ⟨by decide +kernel, rfl⟩
theorem i28_367 : Ins c28_ 367 (.iinc 1 1) 3 370 := ⟨by decide +kernel, rfl⟩
theorem i28_370 : Ins c28_ 370 (.baload) 1 371 := ⟨by decide +kernel, rfl⟩
theorem i28_371 : Ins c28_ 371 (.istore 7) 2 373 := ⟨by decide +kernel, rfl⟩
theorem i28_373 : Ins c28_ 373 (.aload_n 0) 1 374 := ⟨by decide +kernel, rfl⟩
theorem i28_374 : Ins c28_ 374 (.iload_n 1) 1 375 := ⟨by decide +kernel, rfl⟩
theorem i28_375 : Ins c28_ 375 (.iinc 1 1) 3 378 := ⟨by decide +kernel, rfl⟩
theorem i28_378 : Ins c28_ 378 (.baload) 1 379 := ⟨by decide +kernel, rfl⟩
theorem i28_379 : Ins c28_ 379 (.istore 8) 2 381 := ⟨by decide +kernel, rfl⟩
theorem i28_381 : Ins c28_ 381 (.aload_n 0) 1 382 := ⟨by decide +kernel, rfl⟩
theorem i28_382 : Ins c28_ 382 (.iload_n 1) 1 383 := ⟨by decide +kernel, rfl⟩
theorem i28_383 : Ins c28_ 383 (.iinc 1 1) 3 386 := ⟨by decide +kernel, rfl⟩
theorem i28_386 : Ins c28_ 386 (.baload) 1 387 := ⟨by decide +kernel, rfl⟩
theorem i28_387 : Ins c28_ 387 (.istore 9) 2 389 := ⟨by decide +kernel, rfl⟩
theorem i28_389 : Ins c28_ 389 (.iload 6) 2 391 := ⟨by decide +kernel, rfl⟩
theorem i28_391 : Ins c28_ 391 (.iload 7) 2 393 := ⟨by decide +kernel, rfl⟩
theorem i28_393 : Ins c28_ 393 (.iload 8) 2 395 := ⟨by decide +kernel, rfl⟩
theorem i28_395 : Ins c28_ 395 (.iload 9) 2 397 := ⟨by decide +kernel, rfl⟩
theorem i28_397 : Ins c28_ 397 (.invokestatic 411) 3 400 := ⟨by decide +kernel, rfl⟩
theorem i28_400 : Ins c28_ 400 (.istore 10) 2 402 := ⟨by decide +kernel, rfl⟩
theorem i28_402 : Ins c28_ 402 (.iload 7) 2 404 := ⟨by decide +kernel, rfl⟩
theorem i28_404 : Ins c28_ 404 (.iload 8) 2 406 := ⟨by decide +kernel, rfl⟩
theorem i28_406 : Ins c28_ 406 (.iload 9) 2 408 := ⟨by decide +kernel, rfl⟩
theorem i28_408 : Ins c28_ 408 (.invokestatic 415) 3 411 := ⟨by decide +kernel, rfl⟩
theorem i28_411 : Ins c28_ 411 (.ifCond .ne 11) 3 414 := ⟨by decide +kernel, rfl⟩
theorem i28_414 : Ins c28_ 414 (.iload 10) 2 416 := ⟨by decide +kernel, rfl⟩
theorem i28_416 : Ins c28_ 416 (.invokestatic 418) 3 419 := ⟨by decide +kernel, rfl⟩
theorem i28_419 : Ins c28_ 419 (.ifCond .ne 40) 3 422 := ⟨by decide +kernel, rfl⟩
theorem i28_459 : Ins c28_ 459 (.aload_n 3) 1 460 := ⟨by decide +kernel, rfl⟩
theorem i28_460 : Ins c28_ 460 (.iload 4) 2 462 := ⟨by decide +kernel, rfl⟩
theorem i28_462 : Ins c28_ 462 (.iinc 4 1) 3 465 := ⟨by decide +kernel, rfl⟩
theorem i28_465 : Ins c28_ 465 (.iload 10) 2 467 := ⟨by decide +kernel, rfl⟩
theorem i28_467 : Ins c28_ 467 (.invokestatic 424) 3 470 := ⟨by decide +kernel, rfl⟩
theorem i28_470 : Ins c28_ 470 (.invokestatic 64) 3 473 := ⟨by decide +kernel, rfl⟩
theorem i28_473 : Ins c28_ 473 (.aload_n 3) 1 474 := ⟨by decide +kernel, rfl⟩
theorem i28_474 : Ins c28_ 474 (.iload 4) 2 476 := ⟨by decide +kernel, rfl⟩
theorem i28_476 : Ins c28_ 476 (.iinc 4 1) 3 479 := ⟨by decide +kernel, rfl⟩
theorem i28_479 : Ins c28_ 479 (.iload 10) 2 481 := ⟨by decide +kernel, rfl⟩
theorem i28_481 : Ins c28_ 481 (.invokestatic 428) 3 484 := ⟨by decide +kernel, rfl⟩
theorem i28_484 : Ins c28_ 484 (.invokestatic 64) 3 487 := ⟨by decide +kernel, rfl⟩
theorem i28_487 : Ins c28_ 487 (.goto (-487)) 3 490 := ⟨by decide +kernel, rfl⟩
theorem i28_490 : Ins c28_ 490 (.iload 6) 2 492 := ⟨by decide +kernel, rfl⟩
theorem i28_492 : Ins c28_ 492 (.sipush 255) 3 495 := ⟨by decide +kernel, rfl⟩
theorem i28_495 : Ins c28_ 495 (.iand) 1 496 := ⟨by decide +kernel, rfl⟩
theorem i28_496 : Ins c28_ 496 (.istore 6) 2 498 := ⟨by decide +kernel, rfl⟩
theorem i28_498 : Ins c28_ 498 (.iload 6) 2 500 := ⟨by decide +kernel, rfl⟩
theorem i28_500 : Ins c28_ 500 (.sipush 244) 3 503 := ⟨by decide +kernel, rfl⟩
theorem i28_503 : Ins c28_ 503 (.if_icmp .gt 23) 3 506 := ⟨by decide +kernel, rfl⟩
theorem i28_506 : Ins c28_ 506 (.iload_n 1) 1 507 := ⟨by decide +kernel, rfl⟩
theorem i28_507 : Ins c28_ 507 (.iload_n 2) 1 508 := ⟨by decide +kernel, rfl⟩
theorem i28_508 : Ins c28_ 508 (.if_icmp .ge 44) 3 511 := ⟨by decide +kernel, rfl⟩
theorem i28_526 : Ins c28_ 526 (.iload 5) 2 528 := ⟨by decide +kernel, rfl⟩
theorem i28_528 : Ins c28_ 528 (.ifCond .ne 10) 3 531 := ⟨by decide +kernel, rfl⟩
theorem i28_538 : Ins c28_ 538 (.aload_n 3) 1 539 := ⟨by decide +kernel, rfl⟩
theorem i28_539 : Ins c28_ 539 (.iload 4) 2 541 := ⟨by decide +kernel, rfl⟩
theorem i28_541 : Ins c28_ 541 (.iinc 4 1) 3 544 := ⟨by decide +kernel, rfl⟩
theorem i28_544 : Ins c28_ 544 (.ldc 132) 2 546 := ⟨by decide +kernel, rfl⟩
theorem i28_546 : Ins c28_ 546 (.invokestatic 64) 3 549 := ⟨by decide +kernel, rfl⟩
theorem i28_549 : Ins c28_ 549 (.goto (-549)) 3 552 := ⟨by decide +kernel, rfl⟩
theorem i28_552 : Ins c28_ 552 (.iload 5) 2 554 := ⟨by decide +kernel, rfl⟩
theorem i28_554 : Ins c28_ 554 (.ifCond .ne 10) 3 557 := ⟨by decide +kernel, rfl⟩
theorem i28_564 : Ins c28_ 564 (.iinc 1 1) 3 567 := ⟨by decide +kernel, rfl⟩
theorem i28_567 : Ins c28_ 567 (.aload_n 3) 1 568 := ⟨by decide +kernel, rfl⟩
theorem i28_568 : Ins c28_ 568 (.iload 4) 2 570 := ⟨by decide +kernel, rfl⟩
theorem i28_570 : Ins c28_ 570 (.iinc 4 1) 3 573 := ⟨by decide +kernel, rfl⟩
theorem i28_573 : Ins c28_ 573 (.ldc 132) 2 575 := ⟨by decide +kernel, rfl⟩
theorem i28_575 : Ins c28_ 575 (.invokestatic 64) 3 578 := ⟨by decide +kernel, rfl⟩
theorem i28_578 : Ins c28_ 578 (.iload_n 1) 1 579 := ⟨by decide +kernel, rfl⟩
theorem i28_579 : Ins c28_ 579 (.iload_n 2) 1 580 := ⟨by decide +kernel, rfl⟩
theorem i28_580 : Ins c28_ 580 (.if_icmp .ge 41) 3 583 := ⟨by decide +kernel, rfl⟩
theorem i28_595 : Ins c28_ 595 (.iload 5) 2 597 := ⟨by decide +kernel, rfl⟩
theorem i28_597 : Ins c28_ 597 (.ifCond .ne 10) 3 600 := ⟨by decide +kernel, rfl⟩
theorem i28_607 : Ins c28_ 607 (.aload_n 3) 1 608 := ⟨by decide +kernel, rfl⟩
theorem i28_608 : Ins c28_ 608 (.iload 4) 2 610 := ⟨by decide +kernel, rfl⟩
theorem i28_610 : Ins c28_ 610 (.iinc 4 1) 3 613 := ⟨by decide +kernel, rfl⟩
theorem i28_613 : Ins c28_ 613 (.ldc 132) 2 615 := ⟨by decide +kernel, rfl⟩
theorem i28_615 : Ins c28_ 615 (.invokestatic 64) 3 618 := ⟨by decide +kernel, rfl⟩
theorem i28_618 : Ins c28_ 618 (.goto (-618)) 3 621 := ⟨by decide +kernel, rfl⟩
theorem i28_621 : Ins c28_ 621 (.iload 4) 2 623 := ⟨by decide +kernel, rfl⟩
theorem i28_623 : Ins c28_ 623 (.ireturn) 1 624 := ⟨by decide +kernel, rfl⟩
theorem i29_0 : Ins c29_ 0 (.iload_n 0) 1 1 := ⟨by decide +kernel, rfl⟩
theorem i29_1 : Ins c29_ 1 (.bipush 18) 2 3 := ⟨by decide +kernel, rfl⟩
theorem i29_3 : Ins c29_ 3 (.ishl) 1 4 := ⟨by decide +kernel, rfl⟩
theorem i29_4 : Ins c29_ 4 (.iload_n 1) 1 5 := ⟨by decide +kernel, rfl⟩
theorem i29_5 : Ins c29_ 5 (.bipush 12) 2 7 := ⟨by decide +kernel, rfl⟩
theorem i29_7 : Ins c29_ 7 (.ishl) 1 8 := ⟨by decide +kernel, rfl⟩
theorem i29_8 : Ins c29_ 8 (.ixor) 1 9 := ⟨by decide +kernel, rfl⟩
theorem i29_9 : Ins c29_ 9 (.iload_n 2) 1 10 := ⟨by decide +kernel, rfl⟩
theorem i29_10 : Ins c29_ 10 (.bipush 6) 2 12 := ⟨by decide +kernel, rfl⟩
theorem i29_12 : Ins c29_ 12 (.ishl) 1 13 := ⟨by decide +kernel, rfl⟩
theorem i29_13 : Ins c29_ 13 (.ixor) 1 14 := ⟨by decide +kernel, rfl⟩
theorem i29_14 : Ins c29_ 14 (.iload_n 3) 1 15 := ⟨by decide +kernel, rfl⟩
theorem i29_15 : Ins c29_ 15 (.ldc_w 384) 3 18 := ⟨by decide +kernel, rfl⟩
theorem i29_18 : Ins c29_ 18 (.ixor) 1 19 := ⟨by decide +kernel, rfl⟩
theorem i29_19 : Ins c29_ 19 (.ixor) 1 20 := ⟨by decide +kernel, rfl⟩
theorem i29_20 : Ins c29_ 20 (.ireturn) 1 21 := ⟨by decide +kernel, rfl⟩
theorem i30_0 : Ins c30_ 0 (.iload_n 0) 1 1 := ⟨by decide +kernel, rfl⟩
theorem i30_1 : Ins c30_ 1 (.sipush 192) 3 4 := ⟨by decide +kernel, rfl⟩
theorem i30_4 : Ins c30_ 4 (.iand) 1 5 := ⟨by decide +kernel, rfl⟩
theorem i30_5 : Ins c30_ 5 (.sipush 128) 3 8 := ⟨by decide +kernel, rfl⟩
theorem i30_8 : Ins c30_ 8 (.if_icmp .ne 25) 3 11 := ⟨by decide +kernel, rfl⟩
theorem i30_11 : Ins c30_ 11 (.iload_n 1) 1 12 := ⟨by decide +kernel, rfl⟩
theorem i30_12 : Ins c30_ 12 (.sipush 192) 3 15 := ⟨by decide +kernel, rfl⟩
theorem i30_15 : Ins c30_ 15 (.iand) 1 16 := ⟨by decide +kernel, rfl⟩
theorem i30_16 : Ins c30_ 16 (.sipush 128) 3 19 := ⟨by decide +kernel, rfl⟩
theorem i30_19 : Ins c30_ 19 (.if_icmp .ne 14) 3 22 := ⟨by decide +kernel, rfl⟩
theorem i30_22 : Ins c30_ 22 (.iload_n 2) 1 23 := ⟨by decide +kernel, rfl⟩
theorem i30_23 : Ins c30_ 23 (.sipush 192) 3 26 := ⟨by decide +kernel, rfl⟩
theorem i30_26 : Ins c30_ 26 (.iand) 1 27 := ⟨by decide +kernel, rfl⟩
theorem i30_27 : Ins c30_ 27 (.sipush 128) 3 30 := ⟨by decide +kernel, rfl⟩
theorem i30_30 : Ins c30_ 30 (.if_icmp .eq 7) 3 33 := ⟨by decide +kernel, rfl⟩
theorem i30_37 : Ins c30_ 37 (.iconst 0) 1 38 := ⟨by decide +kernel, rfl⟩
theorem i30_38 : Ins c30_ 38 (.ireturn) 1 39 := ⟨by decide +kernel, rfl⟩
theorem i31_0 : Ins c31_ 0 (.iload_n 0) 1 1 := ⟨by decide +kernel, rfl⟩
theorem i31_1 : Ins c31_ 1 (.ldc 73) 2 3 := ⟨by decide +kernel, rfl⟩
theorem i31_3 : Ins c31_ 3 (.if_icmp .lt 13) 3 6 := ⟨by decide +kernel, rfl⟩
theorem i31_6 : Ins c31_ 6 (.iload_n 0) 1 7 := ⟨by decide +kernel, rfl⟩
theorem i31_7 : Ins c31_ 7 (.ldc 74) 2 9 := ⟨by decide +kernel, rfl⟩
theorem i31_9 : Ins c31_ 9 (.if_icmp .ge 7) 3 12 := ⟨by decide +kernel, rfl⟩
theorem i31_12 : Ins c31_ 12 (.iconst 1) 1 13 := ⟨by decide +kernel, rfl⟩
theorem i31_13 : Ins c31_ 13 (.goto 4) 3 16 := ⟨by decide +kernel, rfl⟩
theorem i31_17 : Ins c31_ 17 (.ireturn) 1 18 := ⟨by decide +kernel, rfl⟩
theorem i32_0 : Ins c32_ 0 (.iload_n 0) 1 1 := ⟨by decide +kernel, rfl⟩
theorem i32_1 : Ins c32_ 1 (.bipush 10) 2 3 := ⟨by decide +kernel, rfl⟩
theorem i32_3 : Ins c32_ 3 (.iushr) 1 4 := ⟨by decide +kernel, rfl⟩
theorem i32_4 : Ins c32_ 4 (.ldc 110) 2 6 := ⟨by decide +kernel, rfl⟩
theorem i32_6 : Ins c32_ 6 (.iadd) 1 7 := ⟨by decide +kernel, rfl⟩
theorem i32_7 : Ins c32_ 7 (.i2c) 1 8 := ⟨by decide +kernel, rfl⟩
theorem i32_8 : Ins c32_ 8 (.ireturn) 1 9 := ⟨by decide +kernel, rfl⟩
theorem i33_0 : Ins c33_ 0 (.getstatic 44) 3 3 := ⟨by decide +kernel, rfl⟩
theorem i33_3 : Ins c33_ 3 (.ifCond .ne 25) 3 6 := ⟨by decide +kernel, rfl⟩
theorem i33_28 : Ins c33_ 28 (.iload_n 1) 1 29 := ⟨by decide +kernel, rfl⟩
theorem i33_29 : Ins c33_ 29 (.iconst 1) 1 30 := ⟨by decide +kernel, rfl⟩
theorem i33_30 : Ins c33_ 30 (.ishl) 1 31 := ⟨by decide +kernel, rfl⟩
theorem i33_31 : Ins c33_ 31 (.istore_n 1) 1 32 := ⟨by decide +kernel, rfl⟩
theorem i33_32 : Ins c33_ 32 (.aload_n 0) 1 33 := ⟨by decide +kernel, rfl⟩
theorem i33_33 : Ins c33_ 33 (.iload_n 1) 1 34 := ⟨by decide +kernel, rfl⟩
theorem i33_34 : Ins c33_ 34 (.iinc 1 1) 3 37 := ⟨by decide +kernel, rfl⟩
theorem i33_37 : Ins c33_ 37 (.iload_n 2) 1 38 := ⟨by decide +kernel, rfl⟩
theorem i33_38 : Ins c33_ 38 (.getstatic 59) 3 41 := ⟨by decide +kernel, rfl⟩
theorem i33_41 : Ins c33_ 41 (.ishr) 1 42 := ⟨by decide +kernel, rfl⟩
theorem i33_42 : Ins c33_ 42 (.i2b) 1 43 := ⟨by decide +kernel, rfl⟩
theorem i33_43 : Ins c33_ 43 (.bastore) 1 44 := ⟨by decide +kernel, rfl⟩
theorem i33_44 : Ins c33_ 44 (.aload_n 0) 1 45 := ⟨by decide +kernel, rfl⟩
theorem i33_45 : Ins c33_ 45 (.iload_n 1) 1 46 := ⟨by decide +kernel, rfl⟩
theorem i33_46 : Ins c33_ 46 (.iload_n 2) 1 47 := ⟨by decide +kernel, rfl⟩
theorem i33_47 : Ins c33_ 47 (.getstatic 63) 3 50 := ⟨by decide +kernel, rfl⟩
theorem i33_50 : Ins c33_ 50 (.ishr) 1 51 := ⟨by decide +kernel, rfl⟩
theorem i33_51 : Ins c33_ 51 (.i2b) 1 52 := ⟨by decide +kernel, rfl⟩
theorem i33_52 : Ins c33_ 52 (.bastore) 1 53 := ⟨by decide +kernel, rfl⟩
theorem i33_53 : Ins c33_ 53 (.return_) 1 54 := ⟨by decide +kernel, rfl⟩
theorem i34_0 : Ins c34_ 0 (.iload_n 0) 1 1 := ⟨by decide +kernel, rfl⟩
theorem i34_1 : Ins c34_ 1 (.sipush 1023) 3 4 := ⟨by decide +kernel, rfl⟩
theorem i34_4 : Ins c34_ 4 (.iand) 1 5 := ⟨by decide +kernel, rfl⟩
theorem i34_5 : Ins c34_ 5 (.ldc 76) 2 7 := ⟨by decide +kernel, rfl⟩
theorem i34_7 : Ins c34_ 7 (.iadd) 1 8 := ⟨by decide +kernel, rfl⟩
theorem i34_8 : Ins c34_ 8 (.i2c) 1 9 := ⟨by decide +kernel, rfl⟩
theorem i34_9 : Ins c34_ 9 (.ireturn) 1 10 := ⟨by decide +kernel, rfl⟩
theorem i35_0 : Ins c35_ 0 (.iload_n 2) 1 1 := ⟨by decide +kernel, rfl⟩
theorem i35_1 : Ins c35_ 1 (.invokestatic 107) 3 4 := ⟨by decide +kernel, rfl⟩
theorem i35_4 : Ins c35_ 4 (.astore_n 3) 1 5 := ⟨by decide +kernel, rfl⟩
theorem i35_5 : Ins c35_ 5 (.iconst 0) 1 6 := ⟨by decide +kernel, rfl⟩
theorem i35_6 : Ins c35_ 6 (.istore 4) 2 8 := ⟨by decide +kernel, rfl⟩
theorem i35_8 : Ins c35_ 8 (.iload 4) 2 10 := ⟨by decide +kernel, rfl⟩
theorem i35_10 : Ins c35_ 10 (.iload_n 2) 1 11 := ⟨by decide +kernel, rfl⟩
theorem i35_11 : Ins c35_ 11 (.if_icmp .ge 21) 3 14 := ⟨by decide +kernel, rfl⟩
theorem i35_14 : Ins c35_ 14 (.aload_n 3) 1 15 := ⟨by decide +kernel, rfl⟩
theorem i35_15 : Ins c35_ 15 (.iload 4) 2 17 := ⟨by decide +kernel, rfl⟩
theorem i35_17 : Ins c35_ 17 (.aload_n 0) 1 18 := ⟨by decide +kernel, rfl⟩
theorem i35_18 : Ins c35_ 18 (.iload_n 1) 1 19 := ⟨by decide +kernel, rfl⟩
theorem i35_19 : Ins c35_ 19 (.caload) 1 20 := ⟨by decide +kernel, rfl⟩
theorem i35_20 : Ins c35_ 20 (.invokestatic 111) 3 23 := ⟨by decide +kernel, rfl⟩
theorem i35_23 : Ins c35_ 23 (.iinc 1 1) 3 26 := ⟨by decide +kernel, rfl⟩
theorem i35_26 : Ins c35_ 26 (.iinc 4 1) 3 29 := ⟨by decide +kernel, rfl⟩
theorem i35_29 : Ins c35_ 29 (.goto (-21)) 3 32 := ⟨by decide +kernel, rfl⟩
theorem i35_32 : Ins c35_ 32 (.aload_n 3) 1 33 := ⟨by decide +kernel, rfl⟩
theorem i35_33 : Ins c35_ 33 (.areturn) 1 34 := ⟨by decide +kernel, rfl⟩
theorem i36_0 : Ins c36_ 0 (.getstatic 44) 3 3 := ⟨by decide +kernel, rfl⟩
theorem i36_3 : Ins c36_ 3 (.ifCond .ne 25) 3 6 := ⟨by decide +kernel, rfl⟩
theorem i36_28 : Ins c36_ 28 (.iload_n 1) 1 29 := ⟨by decide +kernel, rfl⟩
theorem i36_29 : Ins c36_ 29 (.iconst 1) 1 30 := ⟨by decide +kernel, rfl⟩
theorem i36_30 : Ins c36_ 30 (.ishl) 1 31 := ⟨by decide +kernel, rfl⟩
theorem i36_31 : Ins c36_ 31 (.istore_n 1) 1 32 := ⟨by decide +kernel, rfl⟩
theorem i36_32 : Ins c36_ 32 (.aload_n 0) 1 33 := ⟨by decide +kernel, rfl⟩
theorem i36_33 : Ins c36_ 33 (.iload_n 1) 1 34 := ⟨by decide +kernel, rfl⟩
theorem i36_34 : Ins c36_ 34 (.iinc 1 1) 3 37 := ⟨by decide +kernel, rfl⟩
theorem i36_37 : Ins c36_ 37 (.baload) 1 38 := ⟨by decide +kernel, rfl⟩
theorem i36_38 : Ins c36_ 38 (.sipush 255) 3 41 := ⟨by decide +kernel, rfl⟩
theorem i36_41 : Ins c36_ 41 (.iand) 1 42 := ⟨by decide +kernel, rfl⟩
theorem i36_42 : Ins c36_ 42 (.getstatic 59) 3 45 := ⟨by decide +kernel, rfl⟩
theorem i36_45 : Ins c36_ 45 (.ishl) 1 46 := ⟨by decide +kernel, rfl⟩
theorem i36_46 : Ins c36_ 46 (.aload_n 0) 1 47 := ⟨by decide +kernel, rfl⟩
theorem i36_47 : Ins c36_ 47 (.iload_n 1) 1 48 := ⟨by decide +kernel, rfl⟩
theorem i36_48 : Ins c36_ 48 (.baload) 1 49 := ⟨by decide +kernel, rfl⟩
theorem i36_49 : Ins c36_ 49 (.sipush 255) 3 52 := ⟨by decide +kernel, rfl⟩
theorem i36_52 : Ins c36_ 52 (.iand) 1 53 := ⟨by decide +kernel, rfl⟩
theorem i36_53 : Ins c36_ 53 (.getstatic 63) 3 56 := ⟨by decide +kernel, rfl⟩
theorem i36_56 : Ins c36_ 56 (.ishl) 1 57 := ⟨by decide +kernel, rfl⟩
theorem i36_57 : Ins c36_ 57 (.ior) 1 58 := ⟨by decide +kernel, rfl⟩
theorem i36_58 : Ins c36_ 58 (.i2c) 1 59 := ⟨by decide +kernel, rfl⟩
theorem i36_59 : Ins c36_ 59 (.ireturn) 1 60 := ⟨by decide +kernel, rfl⟩
theorem i37_0 : Ins c37_ 0 (.iload_n 0) 1 1 := ⟨by decide +kernel, rfl⟩
theorem i37_1 : Ins c37_ 1 (.sipush 192) 3 4 := ⟨by decide +kernel, rfl⟩
theorem i37_4 : Ins c37_ 4 (.iand) 1 5 := ⟨by decide +kernel, rfl⟩
theorem i37_5 : Ins c37_ 5 (.sipush 128) 3 8 := ⟨by decide +kernel, rfl⟩
theorem i37_8 : Ins c37_ 8 (.if_icmp .eq 7) 3 11 := ⟨by decide +kernel, rfl⟩
theorem i37_15 : Ins c37_ 15 (.iconst 0) 1 16 := ⟨by decide +kernel, rfl⟩
theorem i37_16 : Ins c37_ 16 (.ireturn) 1 17 := ⟨by decide +kernel, rfl⟩
theorem i38_0 : Ins c38_ 0 (.iload_n 0) 1 1 := ⟨by decide +kernel, rfl⟩
theorem i38_1 : Ins c38_ 1 (.bipush (-32)) 2 3 := ⟨by decide +kernel, rfl⟩
theorem i38_3 : Ins c38_ 3 (.if_icmp .ne 14) 3 6 := ⟨by decide +kernel, rfl⟩
theorem i38_6 : Ins c38_ 6 (.iload_n 1) 1 7 := ⟨by decide +kernel, rfl⟩
theorem i38_7 : Ins c38_ 7 (.sipush 224) 3 10 := ⟨by decide +kernel, rfl⟩
theorem i38_10 : Ins c38_ 10 (.iand) 1 11 := ⟨by decide +kernel, rfl⟩
theorem i38_11 : Ins c38_ 11 (.sipush 128) 3 14 := ⟨by decide +kernel, rfl⟩
theorem i38_14 : Ins c38_ 14 (.if_icmp .eq 25) 3 17 := ⟨by decide +kernel, rfl⟩
theorem i38_17 : Ins c38_ 17 (.iload_n 1) 1 18 := ⟨by decide +kernel, rfl⟩
theorem i38_18 : Ins c38_ 18 (.sipush 192) 3 21 := ⟨by decide +kernel, rfl⟩
theorem i38_21 : Ins c38_ 21 (.iand) 1 22 := ⟨by decide +kernel, rfl⟩
theorem i38_22 : Ins c38_ 22 (.sipush 128) 3 25 := ⟨by decide +kernel, rfl⟩
theorem i38_25 : Ins c38_ 25 (.if_icmp .ne 14) 3 28 := ⟨by decide +kernel, rfl⟩
theorem i38_28 : Ins c38_ 28 (.iload_n 2) 1 29 := ⟨by decide +kernel, rfl⟩
theorem i38_29 : Ins c38_ 29 (.sipush 192) 3 32 := ⟨by decide +kernel, rfl⟩
theorem i38_32 : Ins c38_ 32 (.iand) 1 33 := ⟨by decide +kernel, rfl⟩
theorem i38_33 : Ins c38_ 33 (.sipush 128) 3 36 := ⟨by decide +kernel, rfl⟩
theorem i38_36 : Ins c38_ 36 (.if_icmp .eq 7) 3 39 := ⟨by decide +kernel, rfl⟩
theorem i38_43 : Ins c38_ 43 (.iconst 0) 1 44 := ⟨by decide +kernel, rfl⟩
theorem i38_44 : Ins c38_ 44 (.ireturn) 1 45 := ⟨by decide +kernel, rfl⟩
theorem i39_0 : Ins c39_ 0 (.iload_n 0) 1 1 := ⟨by decide +kernel, rfl⟩
theorem i39_1 : Ins c39_ 1 (.bipush 12) 2 3 := ⟨by decide +kernel, rfl⟩
theorem i39_3 : Ins c39_ 3 (.ishl) 1 4 := ⟨by decide +kernel, rfl⟩
theorem i39_4 : Ins c39_ 4 (.iload_n 1) 1 5 := ⟨by decide +kernel, rfl⟩
theorem i39_5 : Ins c39_ 5 (.bipush 6) 2 7 := ⟨by decide +kernel, rfl⟩
theorem i39_7 : Ins c39_ 7 (.ishl) 1 8 := ⟨by decide +kernel, rfl⟩
theorem i39_8 : Ins c39_ 8 (.ixor) 1 9 := ⟨by decide +kernel, rfl⟩
theorem i39_9 : Ins c39_ 9 (.iload_n 2) 1 10 := ⟨by decide +kernel, rfl⟩
theorem i39_10 : Ins c39_ 10 (.ldc_w 383) 3 13 := ⟨by decide +kernel, rfl⟩
theorem i39_13 : Ins c39_ 13 (.ixor) 1 14 := ⟨by decide +kernel, rfl⟩
theorem i39_14 : Ins c39_ 14 (.ixor) 1 15 := ⟨by decide +kernel, rfl⟩
theorem i39_15 : Ins c39_ 15 (.i2c) 1 16 := ⟨by decide +kernel, rfl⟩
theorem i39_16 : Ins c39_ 16 (.ireturn) 1 17 := ⟨by decide +kernel, rfl⟩
theorem i40_0 : Ins c40_ 0 (.iload_n 0) 1 1 := ⟨by decide +kernel, rfl⟩
theorem i40_1 : Ins c40_ 1 (.ldc 75) 2 3 := ⟨by decide +kernel, rfl⟩
theorem i40_3 : Ins c40_ 3 (.if_icmp .lt 13) 3 6 := ⟨by decide +kernel, rfl⟩
theorem i40_6 : Ins c40_ 6 (.iload_n 0) 1 7 := ⟨by decide +kernel, rfl⟩
theorem i40_7 : Ins c40_ 7 (.ldc 77) 2 9 := ⟨by decide +kernel, rfl⟩
theorem i40_9 : Ins c40_ 9 (.if_icmp .ge 7) 3 12 := ⟨by decide +kernel, rfl⟩
theorem i40_16 : Ins c40_ 16 (.iconst 0) 1 17 := ⟨by decide +kernel, rfl⟩
theorem i40_17 : Ins c40_ 17 (.ireturn) 1 18 := ⟨by decide +kernel, rfl⟩
theorem pd_0 : parseMethodDescriptor "(II)I" = some ⟨[.int, .int], some .int⟩ := by decide +kernel
theorem pd_1 : parseMethodDescriptor "(I)I" = some ⟨[.int], some .int⟩ := by decide +kernel
theorem pd_2 : parseMethodDescriptor "(IIILjava/util/function/BiFunction;)I" = some ⟨[.int, .int, .int, (.object "java/util/function/BiFunction")], some .int⟩ := by decide +kernel
theorem pd_3 : parseMethodDescriptor "([B)I" = some ⟨[(.array .byte)], some .int⟩ := by decide +kernel
theorem pd_4 : parseMethodDescriptor "(III)I" = some ⟨[.int, .int, .int], some .int⟩ := by decide +kernel
theorem pd_5 : parseMethodDescriptor "([BII)V" = some ⟨[(.array .byte), .int, .int], none⟩ := by decide +kernel
theorem pd_6 : parseMethodDescriptor "(II[B)V" = some ⟨[.int, .int, (.array .byte)], none⟩ := by decide +kernel
theorem pd_7 : parseMethodDescriptor "([BI[BII)V" = some ⟨[(.array .byte), .int, (.array .byte), .int, .int], none⟩ := by decide +kernel
theorem pd_8 : parseMethodDescriptor "(I)Z" = some ⟨[.int], some .boolean⟩ := by decide +kernel
theorem pd_9 : parseMethodDescriptor "(II)C" = some ⟨[.int, .int], some .char⟩ := by decide +kernel
theorem pd_10 : parseMethodDescriptor "(III)Z" = some ⟨[.int, .int, .int], some .boolean⟩ := by decide +kernel
theorem pd_11 : parseMethodDescriptor "(III)C" = some ⟨[.int, .int, .int], some .char⟩ := by decide +kernel
theorem pd_12 : parseMethodDescriptor "(C)Z" = some ⟨[.char], some .boolean⟩ := by decide +kernel
theorem pd_13 : parseMethodDescriptor "(IIII)I" = some ⟨[.int, .int, .int, .int], some .int⟩ := by decide +kernel
theorem pd_14 : parseMethodDescriptor "(I)C" = some ⟨[.int], some .char⟩ := by decide +kernel
theorem pd_15 : parseMethodDescriptor "(I)[B" = some ⟨[.int], some (.array .byte)⟩ := by decide +kernel
theorem pd_16 : parseMethodDescriptor "([BII[BIZ)I" = some ⟨[(.array .byte), .int, .int, (.array .byte), .int, .boolean], some .int⟩ := by decide +kernel
theorem pd_17 : parseMethodDescriptor "([BI)[B" = some ⟨[(.array .byte), .int], some (.array .byte)⟩ := by decide +kernel
theorem pd_18 : parseMethodDescriptor "([BII)I" = some ⟨[(.array .byte), .int, .int], some .int⟩ := by decide +kernel
theorem pd_19 : parseMethodDescriptor "([BII)[B" = some ⟨[(.array .byte), .int, .int], some (.array .byte)⟩ := by decide +kernel
theorem pd_20 : parseMethodDescriptor "([CI[BII)I" = some ⟨[(.array .char), .int, (.array .byte), .int, .int], some .int⟩ := by decide +kernel
theorem pd_21 : parseMethodDescriptor "([CII)[B" = some ⟨[(.array .char), .int, .int], some (.array .byte)⟩ := by decide +kernel
theorem pd_22 : parseMethodDescriptor "([BI)C" = some ⟨[(.array .byte), .int], some .char⟩ := by decide +kernel
theorem pd_23 : parseMethodDescriptor "([BI)B" = some ⟨[(.array .byte), .int], some .byte⟩ := by decide +kernel
theorem pd_24 : parseMethodDescriptor "([CIILjava/lang/Void;)V" = some ⟨[(.array .char), .int, .int, (.object "java/lang/Void")], none⟩ := by decide +kernel
theorem pd_25 : parseMethodDescriptor "([B[B)Z" = some ⟨[(.array .byte), (.array .byte)], some .boolean⟩ := by decide +kernel
theorem pd_26 : parseMethodDescriptor "(Ljava/lang/Object;)Ljava/lang/Object;" = some ⟨[(.object "java/lang/Object")], some (.object "java/lang/Object")⟩ := by decide +kernel
theorem pd_27 : parseMethodDescriptor "(Ljava/nio/charset/Charset;[BII)V" = some ⟨[(.object "java/nio/charset/Charset"), (.array .byte), .int, .int], none⟩ := by decide +kernel
theorem pd_28 : parseMethodDescriptor "()V" = some ⟨[], none⟩ := by decide +kernel
theorem pd_29 : parseMethodDescriptor "([BLjava/nio/charset/Charset;)V" = some ⟨[(.array .byte), (.object "java/nio/charset/Charset")], none⟩ := by decide +kernel
theorem pd_30 : parseMethodDescriptor "(ILjava/util/Map;[B)V" = some ⟨[.int, (.object "java/util/Map"), (.array .byte)], none⟩ := by decide +kernel
theorem pd_31 : parseMethodDescriptor "()Ljava/lang/String;" = some ⟨[], some (.object "java/lang/String")⟩ := by decide +kernel
theorem pd_32 : parseMethodDescriptor "([C)V" = some ⟨[(.array .char)], none⟩ := by decide +kernel
theorem pd_33 : parseMethodDescriptor "(Ljava/lang/Object;)Z" = some ⟨[(.object "java/lang/Object")], some .boolean⟩ := by decide +kernel
theorem own_cc {x : Int32} (h : ¬ x < 0 ∧ ¬ (65535 : Int32) < x) : nar .char x = x := by
  have e1 : (0 : Int32).toInt = 0 := rfl
  have e2 : (65535 : Int32).toInt = 65535 := rfl
  rw [Int32.lt_iff_toInt_lt, Int32.lt_iff_toInt_lt] at h
  have := c_i2c x
  have e : nar .char x = x.toUInt32.toUInt16.toUInt32.toInt32 := rfl
  rw [e]
  apply Int32.toInt_inj.mp
  omega
theorem own_bb (b : Int32) : b.toInt8.toInt32.toInt8.toInt32 = b.toInt8.toInt32 := by simp
theorem own_m255 (x : Int32) : ¬ (x &&& 255) < 0 ∧ ¬ (255 : Int32) < (x &&& 255) := by
  have h : (x &&& 255).toInt = x.toInt % (2 ^ 8 : Nat) := c_mask x 255 8 (by decide) (by decide)
  have e1 : (0 : Int32).toInt = 0 := rfl
  have e2 : (255 : Int32).toInt = 255 := rfl
  rw [Int32.lt_iff_toInt_lt, Int32.lt_iff_toInt_lt]
  omega
theorem own_eqI {args : Array Value} {s : State} {t u : Term} {x y : Int32} (ht : t.eval args s none [] s = some (.int x)) (hu : u.eval args s none [] s = some (.int y)) : (Jvm.Cond.eq t u).value args s none s [] = some (decide (x = y)) := by simp [Cond.value, ht, hu]

def own_b (c : Int32) : Value := .int ((Int32.toInt8 c).toInt32)
def Lat (cs : List Int32) : Prop := ∀ c ∈ cs, ¬ c < 0 ∧ ¬ (255 : Int32) < c
/-- the String b, its bytes in the array t, says the chars cs, all of Latin-1 -/
def Str (Z : State) (h : Heap) (b t : Addr) (k : ClassId) (cs : List Int32) : Prop := Obj Z h b "java/lang/String" [("java/lang/String", "value", "[B", .ref t), ("java/lang/String", "coder", "B", .int 0)] ∧ Arv Z h t k .byte (Int32.ofNat cs.length) (cs.map own_b) (.int 0) ∧ Lat cs ∧ cs.length < 1000000
theorem Str.keep {Z : State} {h h' : Heap} {b t : Addr} {k : ClassId} {cs : List Int32} {ws : List Addr} (S : Str Z h b t k cs) (K : Keep h h' ws) (q : b ∉ ws) (r : t ∉ ws) : Str Z h' b t k cs := ⟨S.1.keep K q, S.2.1.keep K r, S.2.2⟩
theorem own_n0 (n : Nat) (h : n < 2147483648) : (Int32.ofNat n).toInt = n := Int32.toInt_ofNat_small h
theorem own_nn {n : Nat} (h : n < 2147483648) : ¬ Int32.ofNat n < 0 := by rw [Int32.lt_iff_toInt_lt, own_n0 n h]; show ¬ (n : Int) < 0; omega
theorem own_lt {a b : Nat} (h : a < b) (hb : b < 2147483648) : Int32.ofNat a < Int32.ofNat b := by rw [Int32.lt_iff_toInt_lt, own_n0 a (by omega), own_n0 b hb]; omega
theorem own_nlt {a b : Nat} (h : b ≤ a) (hb : a < 2147483648) : ¬ Int32.ofNat a < Int32.ofNat b := by rw [Int32.lt_iff_toInt_lt, own_n0 a hb, own_n0 b (by omega)]; omega
theorem own_cl {n : Nat} (h : n < 2147483648) : (Int32.ofNat n).toNatClampNeg = n := by
  have := own_n0 n h
  simp only [Int32.toNatClampNeg, this]; rfl
theorem own_inj {a b : Nat} (ha : a < 2147483648) (hb : b < 2147483648) : Int32.ofNat a = Int32.ofNat b ↔ a = b := ⟨fun q => by have := congrArg Int32.toInt q; rw [own_n0 a ha, own_n0 b hb] at this; omega, fun q => by rw [q]⟩
theorem own_add {a b : Nat} (h : a + b < 2147483648) : Int32.ofNat a + Int32.ofNat b = Int32.ofNat (a + b) := by
  apply Int32.toInt_inj.mp
  rw [Int32.toInt_add, own_n0 a (by omega), own_n0 b (by omega), own_n0 _ h]
  rw [Int.bmod_eq_of_le (by omega) (by omega)]; omega
theorem own_b8 {c d : Int32} (hc : ¬ c < 0 ∧ ¬ (255 : Int32) < c) (hd : ¬ d < 0 ∧ ¬ (255 : Int32) < d) (h : (Int32.toInt8 c).toInt32 = (Int32.toInt8 d).toInt32) : c = d := by
  have e1 : (0 : Int32).toInt = 0 := rfl
  have e2 : (255 : Int32).toInt = 255 := rfl
  rw [Int32.lt_iff_toInt_lt, Int32.lt_iff_toInt_lt] at hc hd
  have h1 := c_i2b c
  have h2 := c_i2b d
  rw [h] at h1
  apply Int32.toInt_inj.mp
  omega
theorem own_bmap : ∀ {cs ds : List Int32}, Lat cs → Lat ds → (cs.map (fun c => (Int32.toInt8 c).toInt32) = ds.map (fun c => (Int32.toInt8 c).toInt32) ↔ cs = ds)
  | [], [], _, _ => by simp
  | [], d :: ds, _, _ => by simp
  | c :: cs, [], _, _ => by simp
  | c :: cs, d :: ds, hc, hd => by
    have ih := own_bmap (cs := cs) (ds := ds) (fun x hx => hc x (List.mem_cons_of_mem _ hx)) (fun x hx => hd x (List.mem_cons_of_mem _ hx))
    simp only [List.map_cons, List.cons.injEq, ih]
    exact and_congr_left fun _ => ⟨own_b8 (hc c (List.mem_cons_self ..)) (hd d (List.mem_cons_self ..)), fun q => by rw [q]⟩
theorem own_getb (xs : List Int32) (i : Nat) : (xs.map Value.int).getD i (.int 0) = .int (xs.getD i 0) := by
  simp only [List.getD_eq_getElem?_getD, List.getElem?_map]; cases xs[i]? <;> rfl
theorem own_mapb (cs : List Int32) : cs.map own_b = (cs.map fun c => (Int32.toInt8 c).toInt32).map Value.int := by simp [own_b, Function.comp_def]
theorem own_take {xs ys : List Int32} {i : Nat} (h : xs.take i = ys.take i) (e : xs.getD i 0 = ys.getD i 0) (h1 : i < xs.length) (h2 : i < ys.length) : xs.take (i + 1) = ys.take (i + 1) := by
  rw [List.take_succ_eq_append_getElem h1, List.take_succ_eq_append_getElem h2, h]
  congr 2
  simpa [List.getD_eq_getElem?_getD, h1, h2] using e
theorem own_all {xs ys : List Int32} (hl : xs.length = ys.length) {i : Nat} (hi : i = ys.length) (hp : xs.take i = ys.take i) : xs = ys := by
  subst hi; rw [List.take_length, ← hl, List.take_length] at hp; exact hp
theorem own_drop {xs ys : List Int32} {i : Nat} (e : ¬ xs.getD i 0 = ys.getD i 0) : ¬ xs = ys := fun q => e (by rw [q])
theorem own_sub {a b : Nat} (h : b ≤ a) (ha : a < 2147483648) : Int32.ofNat a - Int32.ofNat b = Int32.ofNat (a - b) := by
  apply Int32.toInt_inj.mp
  rw [Int32.toInt_sub, own_n0 a ha, own_n0 b (by omega), own_n0 _ (by omega)]
  rw [Int.bmod_eq_of_le (by omega) (by omega)]; omega
theorem own_shr0 (x : Int32) : x >>> ((0 : Int32) &&& 31) = x := by
  apply Int32.toInt_inj.mp
  have := c_ishr x 0 0 (by decide)
  rw [this]; simp
/-- a copy of a whole array's values into a longer fresh one says the same -/
theorem own_copy (vs : List Value) (d : Value) (n c : Nat) (h1 : vs.length ≤ c) (h2 : c ≤ n) (i : Nat) : (((List.replicate n d).take 0 ++ (List.range c).map fun i => vs.getD (0 + i) d) ++ (List.replicate n d).drop (0 + c)).getD i d = vs.getD i d := by
  simp only [List.take_zero, List.nil_append, Nat.zero_add, List.getD_eq_getElem?_getD]
  by_cases q : i < c
  · rw [List.getElem?_append_left (by simpa using q)]; simp [q]
  · rw [List.getElem?_append_right (by simpa using q), List.getElem?_eq_none (l := vs) (by omega)]
    simp only [List.getElem?_drop, List.getElem?_replicate]; split <;> rfl
theorem own_lat0 : Lat [] := fun _ q => nomatch q
theorem own_ltI {a b : Nat} (ha : a < 2147483648) (hb : b < 2147483648) : Int32.ofNat a < Int32.ofNat b ↔ a < b := by rw [Int32.lt_iff_toInt_lt, own_n0 a ha, own_n0 b hb]; omega
def own_lo (c : Int32) : Int32 := (Int32.toInt8 c).toInt32
def own_hi (c : Int32) : Int32 := (Int32.toInt8 (c >>> ((8 : Int32) &&& 31))).toInt32
def own_w (c : Int32) : List Value := [.int (own_lo c), .int (own_hi c)]
def own_ws (cs : List Int32) : List Value := cs.flatMap own_w
theorem own_wsl (cs : List Int32) : (own_ws cs).length = 2 * cs.length := by
  induction cs with
  | nil => rfl
  | cons c cs ih => rw [own_ws, List.flatMap_cons, List.length_append, ← own_ws, ih, List.length_cons]; show 2 + _ = _; omega
theorem own_wsa (xs ys : List Int32) : own_ws (xs ++ ys) = own_ws xs ++ own_ws ys := List.flatMap_append ..
theorem own_shl1 {n : Nat} (h : n < 1073741824) : Int32.ofNat n <<< ((1 : Int32) &&& 31) = Int32.ofNat (2 * n) := by
  apply Int32.toInt_inj.mp
  have h1 := c_ishl (Int32.ofNat n) 1 1 (by decide)
  rw [own_n0 n (by omega)] at h1
  rw [own_n0 _ (by omega)]
  have h2 := Int32.toInt_lt (Int32.ofNat n <<< ((1 : Int32) &&& 31)); have h3 := Int32.le_toInt (Int32.ofNat n <<< ((1 : Int32) &&& 31))
  omega
theorem own_shr1 {n : Nat} (h : n < 1073741824) : Int32.ofNat (2 * n) >>> ((1 : Int32) &&& 31) = Int32.ofNat n := by
  apply Int32.toInt_inj.mp
  have h1 := c_ishr (Int32.ofNat (2 * n)) 1 1 (by decide)
  rw [h1, own_n0 _ (by omega), own_n0 _ (by omega)]; omega
theorem own_put (xs : List Int32) (c : Int32) : ((own_ws xs ++ List.replicate 2 (Value.int 0)).set (2 * xs.length) (.int (own_lo c))).set (2 * xs.length + 1) (.int (own_hi c)) = own_ws (xs ++ [c]) := by
  rw [own_wsa, ← own_wsl, List.set_append_right _ _ (Nat.le_refl _), List.set_append_right _ _ (Nat.le_succ _)]
  simp [own_ws, own_w]
theorem own_getw : ∀ (xs : List Int32) (i : Nat), i < xs.length → (own_ws xs).getD (2 * i) (.int 0) = .int (own_lo (xs.getD i 0)) ∧ (own_ws xs).getD (2 * i + 1) (.int 0) = .int (own_hi (xs.getD i 0))
  | [], i, h => absurd h (Nat.not_lt_zero _)
  | c :: xs, 0, _ => ⟨rfl, rfl⟩
  | c :: xs, i + 1, h => by
    have := own_getw xs i (Nat.lt_of_succ_lt_succ h)
    have e : own_ws (c :: xs) = .int (own_lo c) :: .int (own_hi c) :: own_ws xs := rfl
    rw [e, show 2 * (i + 1) = 2 * i + 1 + 1 by omega]
    exact this
theorem own_or {a b : Nat} (ha : a < 256) (hb : b < 256) : Int32.ofNat a ||| Int32.ofNat (256 * b) = Int32.ofNat (256 * b + a) := by
  have h : 256 * b + a = 256 * b ||| a := Nat.two_pow_add_eq_or_of_lt (i := 8) ha b
  rw [h, Nat.or_comm]
  apply Int32.toBitVec_inj.mp
  rw [Int32.toBitVec_or]
  show BitVec.ofNat 32 a ||| BitVec.ofNat 32 (256 * b) = BitVec.ofNat 32 (a ||| 256 * b)
  rw [BitVec.ofNat_or]
theorem own_wchar {c : Int32} (h : ¬ c < 0 ∧ ¬ (65535 : Int32) < c) : ((own_lo c &&& 255) <<< ((0 : Int32) &&& 31)) ||| ((own_hi c &&& 255) <<< ((8 : Int32) &&& 31)) = c := by
  have e1 : (0 : Int32).toInt = 0 := rfl
  have e2 : (65535 : Int32).toInt = 65535 := rfl
  rw [Int32.lt_iff_toInt_lt, Int32.lt_iff_toInt_lt] at h
  have h1 : (own_lo c &&& 255).toInt = (own_lo c).toInt % (2 ^ 8 : Nat) := c_mask _ 255 8 (by decide) (by decide)
  have h2 : (own_hi c &&& 255).toInt = (own_hi c).toInt % (2 ^ 8 : Nat) := c_mask _ 255 8 (by decide) (by decide)
  have h3 := c_i2b c
  have h4 := c_i2b (c >>> ((8 : Int32) &&& 31))
  have h5 := c_ishr c 8 8 (by decide)
  have h6 := c_ishl (own_lo c &&& 255) 0 0 (by decide)
  have h7 := c_ishl (own_hi c &&& 255) 8 8 (by decide)
  have b1 := Int32.toInt_lt ((own_lo c &&& 255) <<< ((0 : Int32) &&& 31)); have b2 := Int32.le_toInt ((own_lo c &&& 255) <<< ((0 : Int32) &&& 31))
  have b3 := Int32.toInt_lt ((own_hi c &&& 255) <<< ((8 : Int32) &&& 31)); have b4 := Int32.le_toInt ((own_hi c &&& 255) <<< ((8 : Int32) &&& 31))
  have d1 : (own_lo c).toInt = (Int32.toInt8 c).toInt32.toInt := rfl
  have d2 : (own_hi c).toInt = (Int32.toInt8 (c >>> ((8 : Int32) &&& 31))).toInt32.toInt := rfl
  obtain ⟨a, ha⟩ : ∃ a : Nat, (a : Int) = c.toInt % 256 := ⟨(c.toInt % 256).toNat, by omega⟩
  obtain ⟨b, hb⟩ : ∃ b : Nat, (b : Int) = c.toInt / 256 := ⟨(c.toInt / 256).toNat, by omega⟩
  have x1 : (own_lo c &&& 255) <<< ((0 : Int32) &&& 31) = Int32.ofNat a := Int32.toInt_inj.mp (by rw [own_n0 a (by omega)]; omega)
  have x2 : (own_hi c &&& 255) <<< ((8 : Int32) &&& 31) = Int32.ofNat (256 * b) := Int32.toInt_inj.mp (by rw [own_n0 _ (by omega)]; omega)
  rw [x1, x2, own_or (by omega) (by omega)]
  exact Int32.toInt_inj.mp (by rw [own_n0 _ (by omega)]; omega)
theorem own_take1 {cs : List Int32} {i : Nat} (h : i < cs.length) : cs.take i ++ [cs.getD i 0] = cs.take (i + 1) := by
  rw [List.take_succ_eq_append_getElem h, List.getD_eq_getElem?_getD, List.getElem?_eq_getElem h]; rfl
theorem own_tkl {cs : List Int32} {i : Nat} (h : i ≤ cs.length) : (cs.take i).length = i := by rw [List.length_take]; omega
theorem own_or2 {a b : Nat} : Int32.ofNat a ||| Int32.ofNat b = Int32.ofNat (a ||| b) := by
  apply Int32.toBitVec_inj.mp
  rw [Int32.toBitVec_or]
  show BitVec.ofNat 32 a ||| BitVec.ofNat 32 b = BitVec.ofNat 32 (a ||| b)
  rw [BitVec.ofNat_or]
theorem own_orlt {a b : Nat} (ha : a < 1073741824) (hb : b < 1073741824) : a ||| b < 1073741824 := Nat.or_lt_two_pow (n := 30) ha hb
/-- chars of Java -/
def Chs (cs : List Int32) : Prop := ∀ c ∈ cs, ¬ c < 0 ∧ ¬ (65535 : Int32) < c
/-- the String b, its bytes in the array t, says the chars cs, two bytes each -/
def Stw (Z : State) (h : Heap) (b t : Addr) (k : ClassId) (cs : List Int32) : Prop := Obj Z h b "java/lang/String" [("java/lang/String", "value", "[B", .ref t), ("java/lang/String", "coder", "B", .int 1)] ∧ Arv Z h t k .byte (Int32.ofNat (2 * cs.length)) (own_ws cs) (.int 0) ∧ Chs cs ∧ cs.length < 1000000
theorem Stw.keep {Z : State} {h h' : Heap} {b t : Addr} {k : ClassId} {cs : List Int32} {ws : List Addr} (S : Stw Z h b t k cs) (K : Keep h h' ws) (q : b ∉ ws) (r : t ∉ ws) : Stw Z h' b t k cs := ⟨S.1.keep K q, S.2.1.keep K r, S.2.2⟩
theorem own_chg {ys : List Int32} (h : Chs ys) {i : Nat} (hi : i < ys.length) : ¬ ys.getD i 0 < 0 ∧ ¬ (65535 : Int32) < ys.getD i 0 := by
  rw [List.getD_eq_getElem?_getD, List.getElem?_eq_getElem hi]; exact h _ (List.getElem_mem hi)
theorem own_setb (xs : List Int32) (c : Int32) (m : Nat) : ((xs.map own_b) ++ List.replicate (1 + m) (Value.int 0)).set xs.length (own_b c) = (xs ++ [c]).map own_b ++ List.replicate m (.int 0) := by
  rw [show 1 + m = m + 1 by omega, List.replicate_succ, ← List.length_map (f := own_b) (as := xs), List.set_append_right _ _ (Nat.le_refl _), Nat.sub_self, List.set_cons_zero, List.map_append, List.append_assoc]; rfl
theorem own_latof {cs : List Int32} (hC : Chs cs) (h : ∀ i, i < cs.length → ¬ (255 : Int32) < cs.getD i 0) : Lat cs := fun c hc => by
  obtain ⟨i, hi, rfl⟩ := List.getElem_of_mem hc
  have := h i hi
  rw [List.getD_eq_getElem?_getD, List.getElem?_eq_getElem hi] at this
  exact ⟨(hC _ hc).1, this⟩
theorem own_b255 {c : Int32} (h : ¬ c < 0 ∧ ¬ (255 : Int32) < c) : (Int32.toInt8 c).toInt32 &&& 255 = c := by
  have e1 : (0 : Int32).toInt = 0 := rfl
  have e2 : (255 : Int32).toInt = 255 := rfl
  rw [Int32.lt_iff_toInt_lt, Int32.lt_iff_toInt_lt] at h
  have h1 := c_i2b c
  have h2 : ((Int32.toInt8 c).toInt32 &&& 255).toInt = ((Int32.toInt8 c).toInt32).toInt % (2 ^ 8 : Nat) := c_mask _ 255 8 (by decide) (by decide)
  apply Int32.toInt_inj.mp
  omega
theorem own_gbv (ys : List Int32) (i : Nat) : (ys.map own_b).getD i (.int 0) = .int ((Int32.toInt8 (ys.getD i 0)).toInt32) := by
  rw [own_mapb, own_getb]; congr 1; simp only [List.getD_eq_getElem?_getD, List.getElem?_map]; cases ys[i]? <;> rfl
theorem own_latg {ys : List Int32} (h : Lat ys) {i : Nat} (hi : i < ys.length) : ¬ ys.getD i 0 < 0 ∧ ¬ (255 : Int32) < ys.getD i 0 := by
  rw [List.getD_eq_getElem?_getD, List.getElem?_eq_getElem hi]; exact h _ (List.getElem_mem hi)
def own_8 (z : Int32) : Int32 := (Int32.toInt8 z).toInt32
theorem own_88 (z : Int32) : (Int32.toInt8 (own_8 z)).toInt32 = own_8 z := own_bb z
theorem own_get8 (cs : List Int32) (i : Nat) : (cs.map own_b).getD i (.int 0) = .int (own_8 (cs.getD i 0)) := own_gbv cs i
theorem own_cfl {n m : Nat} (hn : n < 1000000) (hm : m < 1000000) : (Int32.toInt8 (Jvm.Free.XT.ushr (Int32.ofNat n - Int32.ofNat m) 31)).toInt32 = if m ≤ n then 0 else 1 := by
  have h1 : (Jvm.Free.XT.ushr (Int32.ofNat n - Int32.ofNat m) 31).toInt = _ := c_iushr (Int32.ofNat n - Int32.ofNat m) 31 31 (by decide) (by decide)
  have h2 : (Int32.ofNat n - Int32.ofNat m).toInt = (n : Int) - m := by rw [Int32.toInt_sub, own_n0 n (by omega), own_n0 m (by omega), Int.bmod_eq_of_le (by omega) (by omega)]
  have h3 := c_i2b (Jvm.Free.XT.ushr (Int32.ofNat n - Int32.ofNat m) 31)
  rw [h2] at h1
  have e0 : (0 : Int32).toInt = 0 := rfl
  have e1 : (1 : Int32).toInt = 1 := rfl
  split
  · exact Int32.toInt_inj.mp (by rw [e0]; omega)
  · exact Int32.toInt_inj.mp (by rw [e1]; omega)
/-- the String b says the chars cs; its bytes are one a char where all are of Latin-1, else two -/
def Sx (Z : State) (h : Heap) (b t : Addr) (k : ClassId) (cs : List Int32) : Prop := Str Z h b t k cs ∨ (¬ Lat cs ∧ Stw Z h b t k cs)
theorem Sx.keep {Z : State} {h h' : Heap} {b t : Addr} {k : ClassId} {cs : List Int32} {ws : List Addr} (S : Sx Z h b t k cs) (K : Keep h h' ws) (q : b ∉ ws) (r : t ∉ ws) : Sx Z h' b t k cs := S.imp (fun S => S.keep K q r) (fun S => ⟨S.1, S.2.keep K q r⟩)
theorem own_neg8 {c : Int32} (h : ¬ c < 0 ∧ ¬ (255 : Int32) < c) : own_8 c < 0 ↔ ¬ c < 128 := by
  have e1 : (0 : Int32).toInt = 0 := rfl
  have e2 : (255 : Int32).toInt = 255 := rfl
  have e3 : (128 : Int32).toInt = 128 := rfl
  rw [Int32.lt_iff_toInt_lt, Int32.lt_iff_toInt_lt] at h
  have h1 := c_i2b c
  have h2 : (own_8 c).toInt = (Int32.toInt8 c).toInt32.toInt := rfl
  rw [Int32.lt_iff_toInt_lt, Int32.lt_iff_toInt_lt]
  omega
theorem own_xadd {n a b : Nat} (h : b < 2 ^ n) : (2 ^ n * a) ^^^ b = 2 ^ n * a + b := by
  have h1 : ((2 ^ n * a) ^^^ b) / 2 ^ n = a := by rw [Nat.xor_div_two_pow, Nat.mul_div_cancel_left _ (Nat.two_pow_pos n), Nat.div_eq_of_lt h, Nat.xor_zero]
  have h2 : ((2 ^ n * a) ^^^ b) % 2 ^ n = b := by rw [Nat.xor_mod_two_pow, Nat.mul_mod_right, Nat.zero_xor, Nat.mod_eq_of_lt h]
  rw [← Nat.div_add_mod ((2 ^ n * a) ^^^ b) (2 ^ n), h1, h2]
theorem own_xorN (a b : Nat) : Int32.ofNat a ^^^ Int32.ofNat b = Int32.ofNat (a ^^^ b) := by
  apply Int32.toBitVec_inj.mp
  rw [Int32.toBitVec_xor]
  show BitVec.ofNat 32 a ^^^ BitVec.ofNat 32 b = BitVec.ofNat 32 (a ^^^ b)
  rw [BitVec.ofNat_xor]
theorem own_xac {A B C F G H : Int32} (h : F ^^^ G ^^^ H = 0) : ((A ^^^ F) ^^^ (B ^^^ G)) ^^^ (C ^^^ H) = A ^^^ B ^^^ C := by
  have e : ((A ^^^ F) ^^^ (B ^^^ G)) ^^^ (C ^^^ H) = (A ^^^ B ^^^ C) ^^^ (F ^^^ G ^^^ H) := by ac_rfl
  rw [e, h, Int32.xor_zero]
theorem own_xac4 {A B C D F G H J : Int32} (h : F ^^^ G ^^^ H ^^^ J = 0) : (((A ^^^ F) ^^^ (B ^^^ G)) ^^^ (C ^^^ H)) ^^^ (D ^^^ J) = A ^^^ B ^^^ C ^^^ D := by
  have e : (((A ^^^ F) ^^^ (B ^^^ G)) ^^^ (C ^^^ H)) ^^^ (D ^^^ J) = (A ^^^ B ^^^ C ^^^ D) ^^^ (F ^^^ G ^^^ H ^^^ J) := by ac_rfl
  rw [e, h, Int32.xor_zero]
theorem own_shrN {N k : Nat} {q : Int32} (hN : N < 2147483648) (hk : q.toBitVec.toNat % 32 = k) : Int32.ofNat N >>> (q &&& 31) = Int32.ofNat (N / 2 ^ k) := by
  apply Int32.toInt_inj.mp
  rw [c_ishr _ q k hk, own_n0 N hN, own_n0 _ (Nat.lt_of_le_of_lt (Nat.div_le_self ..) hN)]
  exact (Int.natCast_ediv N (2 ^ k)).symm
theorem own_andN {N k : Nat} {m : Int32} (hN : N < 2147483648) (hk : k ≤ 31) (hm : m.toBitVec.toNat = 2 ^ k - 1) : Int32.ofNat N &&& m = Int32.ofNat (N % 2 ^ k) := by
  apply Int32.toInt_inj.mp
  rw [c_mask _ m k hk hm, own_n0 N hN, own_n0 _ (Nat.lt_of_le_of_lt (Nat.mod_le ..) hN)]
  exact (Int.natCast_emod N (2 ^ k)).symm
theorem own_ccN {N : Nat} (h : N < 65536) : (Int32.ofNat N).toUInt32.toUInt16.toUInt32.toInt32 = Int32.ofNat N := by
  have h1 := c_i2c (Int32.ofNat N)
  apply Int32.toInt_inj.mp
  rw [own_n0 N (by omega)] at h1 ⊢
  omega
theorem own_chN {N : Nat} (h : N < 65536) : ¬ Int32.ofNat N < 0 ∧ ¬ (65535 : Int32) < Int32.ofNat N := ⟨own_nn (by omega), own_nlt (a := 65535) (by omega) (by omega)⟩
-- the first bytes
theorem own_f2 : ∀ a, a < 32 → 2 ≤ a → own_8 ((192 : Int32) ||| Int32.ofNat a) < 0 ∧ own_8 ((192 : Int32) ||| Int32.ofNat a) >>> ((5 : Int32) &&& 31) = -2 ∧ ¬ own_8 ((192 : Int32) ||| Int32.ofNat a) &&& 30 = 0 ∧ (own_8 ((192 : Int32) ||| Int32.ofNat a) &&& 254 = 194 ↔ a < 4) := by decide +kernel
theorem own_f3 : ∀ a, a < 16 → own_8 ((224 : Int32) ||| Int32.ofNat a) < 0 ∧ ¬ own_8 ((224 : Int32) ||| Int32.ofNat a) >>> ((5 : Int32) &&& 31) = -2 ∧ own_8 ((224 : Int32) ||| Int32.ofNat a) >>> ((4 : Int32) &&& 31) = -2 ∧ ¬ own_8 ((224 : Int32) ||| Int32.ofNat a) &&& 254 = 194 ∧ (own_8 ((224 : Int32) ||| Int32.ofNat a) = -32 → a = 0) := by decide +kernel
theorem own_f4 : ∀ a, a < 5 → own_8 ((240 : Int32) ||| Int32.ofNat a) < 0 ∧ ¬ own_8 ((240 : Int32) ||| Int32.ofNat a) >>> ((5 : Int32) &&& 31) = -2 ∧ ¬ own_8 ((240 : Int32) ||| Int32.ofNat a) >>> ((4 : Int32) &&& 31) = -2 ∧ own_8 ((240 : Int32) ||| Int32.ofNat a) >>> ((3 : Int32) &&& 31) = -2 ∧ ¬ own_8 ((240 : Int32) ||| Int32.ofNat a) &&& 254 = 194 := by decide +kernel
theorem own_fc : ∀ c, c < 64 → own_8 ((128 : Int32) ||| Int32.ofNat c) &&& 192 = 128 ∧ own_8 ((128 : Int32) ||| Int32.ofNat c) < -64 ∧ (32 ≤ c → ¬ own_8 ((128 : Int32) ||| Int32.ofNat c) &&& 224 = 128) := by decide +kernel
theorem own_dc2 : ∀ a, a < 32 → ∀ c, c < 64 → (((own_8 ((192 : Int32) ||| Int32.ofNat a) <<< ((6 : Int32) &&& 31)) ^^^ own_8 ((128 : Int32) ||| Int32.ofNat c)) ^^^ 3968).toUInt32.toUInt16.toUInt32.toInt32 = Int32.ofNat (64 * a + c) := by decide +kernel
theorem own_p3a : ∀ a, a < 16 → own_8 ((224 : Int32) ||| Int32.ofNat a) <<< ((12 : Int32) &&& 31) = Int32.ofNat (4096 * a) ^^^ (-131072) := by decide +kernel
theorem own_p3b : ∀ b, b < 64 → own_8 ((128 : Int32) ||| Int32.ofNat b) <<< ((6 : Int32) &&& 31) = Int32.ofNat (64 * b) ^^^ (-8192) := by decide +kernel
theorem own_p3c : ∀ c, c < 64 → own_8 ((128 : Int32) ||| Int32.ofNat c) ^^^ (-123008) = Int32.ofNat c ^^^ (122880) := by decide +kernel
theorem own_p4a : ∀ a, a < 5 → own_8 ((240 : Int32) ||| Int32.ofNat a) <<< ((18 : Int32) &&& 31) = Int32.ofNat (262144 * a) ^^^ (-4194304) := by decide +kernel
theorem own_p4b : ∀ b, b < 64 → own_8 ((128 : Int32) ||| Int32.ofNat b) <<< ((12 : Int32) &&& 31) = Int32.ofNat (4096 * b) ^^^ (-524288) := by decide +kernel
theorem own_p4d : ∀ d, d < 64 → own_8 ((128 : Int32) ||| Int32.ofNat d) ^^^ 3678080 = Int32.ofNat d ^^^ (-3678208) := by decide +kernel
theorem own_dc3 {a b c : Nat} (ha : a < 16) (hb : b < 64) (hc : c < 64) : ((own_8 ((224 : Int32) ||| Int32.ofNat a) <<< ((12 : Int32) &&& 31)) ^^^ (own_8 ((128 : Int32) ||| Int32.ofNat b) <<< ((6 : Int32) &&& 31))) ^^^ (own_8 ((128 : Int32) ||| Int32.ofNat c) ^^^ (-123008)) = Int32.ofNat (4096 * a + 64 * b + c) := by
  rw [own_p3a a ha, own_p3b b hb, own_p3c c hc, own_xac (by decide), own_xorN, own_xorN, Nat.xor_assoc, own_xadd (n := 6) (a := b) (b := c) hc, own_xadd (n := 12) (a := a) (b := 2 ^ 6 * b + c) (by omega)]
  exact congrArg Int32.ofNat (by omega)
theorem own_dc4 {a b c d : Nat} (ha : a < 5) (hb : b < 64) (hc : c < 64) (hd : d < 64) : (((own_8 ((240 : Int32) ||| Int32.ofNat a) <<< ((18 : Int32) &&& 31)) ^^^ (own_8 ((128 : Int32) ||| Int32.ofNat b) <<< ((12 : Int32) &&& 31))) ^^^ (own_8 ((128 : Int32) ||| Int32.ofNat c) <<< ((6 : Int32) &&& 31))) ^^^ (own_8 ((128 : Int32) ||| Int32.ofNat d) ^^^ 3678080) = Int32.ofNat (262144 * a + 4096 * b + 64 * c + d) := by
  rw [own_p4a a ha, own_p4b b hb, own_p3b c hc, own_p4d d hd, own_xac4 (by decide), own_xorN, own_xorN, own_xorN, Nat.xor_assoc, Nat.xor_assoc, own_xadd (n := 6) (a := c) (b := d) hd, own_xadd (n := 12) (a := b) (b := 2 ^ 6 * c + d) (by omega), own_xadd (n := 18) (a := a) (b := 2 ^ 12 * b + (2 ^ 6 * c + d)) (by omega)]
  exact congrArg Int32.ofNat (by omega)
theorem own_hsur {N : Nat} (h : 65536 ≤ N ∧ N < 1114112) : (Jvm.Free.XT.ushr (Int32.ofNat N) 10 + 55232).toUInt32.toUInt16.toUInt32.toInt32 = Int32.ofNat (55296 + (N - 65536) / 1024) := by
  have h1 : (Jvm.Free.XT.ushr (Int32.ofNat N) 10).toInt = _ := c_iushr (Int32.ofNat N) 10 10 (by decide) (by decide)
  have e : Jvm.Free.XT.ushr (Int32.ofNat N) 10 = Int32.ofNat (N / 1024) := Int32.toInt_inj.mp (by rw [h1, own_n0 N (by omega), own_n0 _ (by omega)]; omega)
  rw [e, show (55232 : Int32) = Int32.ofNat 55232 from rfl, own_add (by omega), own_ccN (by omega)]
  exact congrArg Int32.ofNat (by omega)
theorem own_lsur {N : Nat} (h : 65536 ≤ N ∧ N < 1114112) : ((Int32.ofNat N &&& 1023) + 56320).toUInt32.toUInt16.toUInt32.toInt32 = Int32.ofNat (56320 + (N - 65536) % 1024) := by
  rw [own_andN (k := 10) (m := 1023) (by omega) (by decide) (by decide), show (56320 : Int32) = Int32.ofNat 56320 from rfl, own_add (by omega), own_ccN (by omega)]
  exact congrArg Int32.ofNat (by omega)
theorem own_latN {N : Nat} (h : N < 256) : ¬ Int32.ofNat N < 0 ∧ ¬ (255 : Int32) < Int32.ofNat N := ⟨own_nn (by omega), own_nlt (a := 255) (by omega) (by omega)⟩
theorem own_8p {N : Nat} (h : N < 128) : ¬ own_8 (Int32.ofNat N) < 0 := fun q => (own_neg8 (own_latN (by omega))).mp q (own_lt (b := 128) h (by omega))
theorem own_8g {N : Nat} (h : 128 ≤ N ∧ N < 256) : own_8 (Int32.ofNat N) < 0 := (own_neg8 (own_latN h.2)).mpr (own_nlt (b := 128) h.1 (by omega))
theorem own_8id {N : Nat} (h : N < 128) : own_8 (Int32.ofNat N) = Int32.ofNat N := by
  have h1 := c_i2b (Int32.ofNat N)
  have h2 : (own_8 (Int32.ofNat N)).toInt = (Int32.toInt8 (Int32.ofNat N)).toInt32.toInt := rfl
  apply Int32.toInt_inj.mp
  rw [own_n0 N (by omega)] at h1 ⊢
  omega
theorem own_aS {α : Type} {P : α → Prop} {a : α} {l : List α} (h : P a) (k : ∀ x ∈ l, P x) : ∀ x ∈ a :: l, P x := fun x hx => by
  rcases List.mem_cons.mp hx with rfl | hx
  · exact h
  · exact k x hx
theorem own_a0 {α : Type} {P : α → Prop} : ∀ x ∈ ([] : List α), P x := fun _ q => nomatch q
theorem own_nlat {cs : List Int32} {c : Int32} (h : c ∈ cs) (hc : (255 : Int32) < c) : ¬ Lat cs := fun q => (q c h).2 hc
theorem own_sa {Z : State} {a0 : Array Value} (hw : Wds Z a0) : ∀ a ∈ Bundle.stringAtoms, a.before a0 Z = true := fun a ha => by
  simp only [Bundle.stringAtoms, List.mem_cons, List.not_mem_nil, or_false] at ha
  rcases ha with rfl | rfl | rfl | rfl | rfl | rfl | rfl
  · exact (w32 hw)
  · exact (w31 hw)
  · exact (w3 hw)
  · exact (w70 hw)
  · exact (w72 hw)
  · exact (w183 hw)
  · exact (w184 hw)
theorem own_EW {Z : State} {a0 : Array Value} (hw : Wds Z a0) : EW Z a0 [("java/lang/String", 7)] := (EW.cons (hw _ (mi 182 rfl)) (by decide) EW.nil)
theorem own_cpo_l (l : Launch) (Z : State) (a0 : Array Value) (hw : Wds Z a0) (n0 : Nat) (u : Addr) (ku : ClassId) (cs : List Int32) (hcs : cs.length < 1000000) (h0 : Heap) (U0 : Arv Z h0 u ku .byte (Int32.ofNat cs.length) (cs.map own_b) (.int 0)) (d : Nat) : ∀ (i : Nat), d + i = cs.length → (∀ j, j < i → ¬ own_8 (cs.getD j 0) < 0) → Runs 1 l Z [("java/lang/String", 7)] n0 "java/lang/StringCoding" "countPositives" c8_ 5 (some .int) ({ frames := 0, cells := 0, slots := 0, locals := 0 } : Room) (fun v h D' => ∃ j : Nat, v = some (.int (Int32.ofNat j)) ∧ j ≤ cs.length ∧ (∀ i, i < j → ¬ own_8 (cs.getD i 0) < 0) ∧ (j < cs.length → own_8 (cs.getD j 0) < 0) ∧ h0 = h ∧ D' = []) [] h0 0 0 7 #[vr u, vi 0, vi (Int32.ofNat cs.length), vi (Int32.ofNat cs.length), vi (Int32.ofNat i)] [] := by
  induction d with
  | zero =>
    intro i hd hp
    refine Runs.iload i8_7 rfl ?_
    refine Runs.iloadN i8_9 rfl ?_
    refine Runs.icY (t := 31) i8_10 (by decide) (flt (own_nlt (by omega) (by omega))).2.1 ?_
    refine Runs.iloadN i8_31 rfl ?_
    exact Runs.retI (z := Int32.ofNat cs.length) i8_32 rfl (Or.inl rfl) rfl (by decide) (by decide) ⟨cs.length, rfl, Nat.le_refl _, fun j hj => hp j (by omega), fun q => absurd q (Nat.lt_irrefl _), rfl, rfl⟩
  | succ d ih =>
    intro i hd hp
    refine Runs.iload i8_7 rfl ?_
    refine Runs.iloadN i8_9 rfl ?_
    refine Runs.icN i8_10 (tlt (own_lt (by omega) (by omega))).2.1 ?_
    refine Runs.aloadN i8_13 rfl rfl ?_
    refine Runs.iload i8_14 rfl ?_
    refine Runs.baload (v := .int (own_8 (cs.getD i 0))) i8_16 U0 ⟨own_nn (by omega), own_lt (by omega) (by omega)⟩ (by rw [own_cl (by omega)]; exact own_get8 _ _) ?_
    by_cases hc17 : (own_8 (cs.getD i 0)) < (0 : Int32)
    · refine Runs.ifN i8_17 (tlt hc17).2.1 ?_
      refine Runs.iload i8_20 rfl ?_
      refine Runs.iloadN i8_22 rfl ?_
      refine Runs.isub (z := Int32.ofNat i) i8_23 (own_sub (a := i) (b := 0) (by omega) (by omega)) ?_
      exact Runs.retI (z := Int32.ofNat i) i8_24 rfl (Or.inl rfl) rfl (by decide) (by decide) ⟨i, rfl, by omega, hp, fun _ => hc17, rfl, rfl⟩
    · refine Runs.ifY (t := 25) i8_17 (by decide) (flt hc17).2.1 ?_
      refine Runs.iinc (z := (Int32.ofNat (i + 1))) (ls' := #[vr u, vi 0, vi (Int32.ofNat cs.length), vi (Int32.ofNat cs.length), vi (Int32.ofNat (i + 1))]) i8_25 rfl (own_add (a := i) (b := 1) (by omega)) rfl ?_
      refine Runs.goto (t := 7) i8_28 (by decide) ?_
      exact ih (i + 1) (by omega) (fun j hj => by rcases Nat.lt_or_ge j i with q | q; exact hp j q; rw [show j = i by omega]; exact hc17)
theorem own_ctp (l : Launch) (Z : State) (a0 : Array Value) (hw : Wds Z a0) (n0 : Nat) (u : Addr) (ku : ClassId) (cs : List Int32) (hcs : cs.length < 1000000) (h0 : Heap) (U0 : Arv Z h0 u ku .byte (Int32.ofNat cs.length) (cs.map own_b) (.int 0)) : Con 1 l Z [("java/lang/String", 7)] n0 (⟨"java/lang/StringCoding", "countPositives", "([BII)I"⟩ : MethodName) c8_ 5 (some .int) ({ frames := 0, cells := 0, slots := 0, locals := 0 } : Room) #[(.ref u), (.int 0), (.int (Int32.ofNat cs.length))] [] h0 (fun v h D' => ∃ j : Nat, v = some (.int (Int32.ofNat j)) ∧ j ≤ cs.length ∧ (∀ i, i < j → ¬ own_8 (cs.getD i 0) < 0) ∧ (j < cs.length → own_8 (cs.getD j 0) < 0) ∧ h0 = h ∧ D' = []) := by
  refine Con.of_runs (ls := #[vr u, vi 0, vi (Int32.ofNat cs.length), .unset, .unset]) (by decide +kernel) (fun m => rfl) ?_
  refine Runs.iloadN i8_0 rfl ?_
  refine Runs.iloadN i8_1 rfl ?_
  refine Runs.iadd (z := Int32.ofNat cs.length) i8_2 (by rw [show (0 : Int32) = Int32.ofNat 0 from rfl, own_add (by omega), Nat.zero_add]) ?_
  refine Runs.istoreN (ls' := #[vr u, vi 0, vi (Int32.ofNat cs.length), vi (Int32.ofNat cs.length), .unset]) i8_3 rfl ?_
  refine Runs.iloadN i8_4 rfl ?_
  refine Runs.istore (ls' := #[vr u, vi 0, vi (Int32.ofNat cs.length), vi (Int32.ofNat cs.length), vi 0]) i8_5 rfl ?_
  exact own_cpo_l l Z a0 hw n0 u ku cs hcs h0 U0 cs.length 0 (by omega) (fun _ q => absurd q (Nat.not_lt_zero _))
theorem own_cor (l : Launch) (Z : State) (a0 : Array Value) (hw : Wds Z a0) (n0 : Nat) (t : Addr) (k : ClassId) (c NS : Nat) (vs : List Value) (hNS : c ≤ NS ∧ NS < 10000000) (h0 : Heap) (T0 : Arv Z h0 t k .byte (Int32.ofNat c) vs (.int 0)) (E0 : Exa Z h0 t "[B") : Con 1 l Z [("java/lang/String", 7)] n0 (⟨"java/util/Arrays", "copyOfRange", "([BII)[B"⟩ : MethodName) c9_ 3 (some (.array .byte)) ({ frames := 1, cells := 1, slots := NS, locals := 14 } : Room) #[(.ref t), (.int 0), (.int (Int32.ofNat c))] [] h0 (fun v h D' => ∃ b, v = some (.ref b) ∧ h0.size ≤ b ∧ Keep h0 h [] ∧ Arv Z h b k .byte (Int32.ofNat c) vs (.int 0) ∧ D' = [b]) := by
  refine Con.of_runs (ls := #[vr t, vi 0, vi (Int32.ofNat c)]) (by decide +kernel) (fun m => rfl) ?_
  refine Runs.iloadN i9_0 rfl ?_
  refine Runs.ifN i9_1 (teq (by decide : (0 : Int32) = (0 : Int32))).2 ?_
  refine Runs.iloadN i9_4 rfl ?_
  refine Runs.aloadN i9_5 rfl rfl ?_
  refine Runs.arrlen i9_6 T0 ?_
  refine Runs.icY (t := 17) i9_7 (by decide) (teq (rfl : (Int32.ofNat c) = (Int32.ofNat c))).1 ?_
  refine Runs.aloadN i9_17 rfl rfl ?_
  refine Runs.clone (W := 0) (cap := NS) i9_18 (w60 hw) (w61 hw) (w65 hw) (w63 hw) (w64 hw) (w66 hw) T0 E0 rfl (by first | decide | (dsimp only; first | decide | omega)) rfl (by first | decide | (dsimp only; first | decide | omega)) (by rw [own_cl (n := c) (by omega)]; omega) (by first | decide | (dsimp only; first | decide | omega)) (by first | decide | (dsimp only; first | decide | omega)) ?_
  intro h_7 b_1 g_2 ge_3 K_4 A_5 E_6
  refine Runs.castY i9_21 (w67 hw) (Jvm.RoadKit.Ins.self E_6) ?_
  exact Runs.retA i9_24 rfl rfl rfl (by first | decide | (dsimp only; first | decide | omega)) (by first | decide | (dsimp only; first | decide | omega)) ⟨b_1, rfl, g_2, K_4, A_5, rfl⟩
theorem own_min (l : Launch) (Z : State) (a0 : Array Value) (hw : Wds Z a0) (n0 : Nat) (a b : Nat) (ha : a < 2147483648) (hb : b < 2147483648) (h0 : Heap) : Con 1 l Z [("java/lang/String", 7)] n0 (⟨"java/lang/Math", "min", "(II)I"⟩ : MethodName) c19_ 2 (some .int) ({ frames := 0, cells := 0, slots := 0, locals := 0 } : Room) #[(.int (Int32.ofNat a)), (.int (Int32.ofNat b))] [] h0 (fun v h D' => v = some (.int (Int32.ofNat (min a b))) ∧ h0 = h ∧ D' = []) := by
  refine Con.of_runs (ls := #[vi (Int32.ofNat a), vi (Int32.ofNat b)]) (Jvm.Free.JP.mathPlain rfl (by decide +kernel)) (fun m => rfl) ?_
  refine Runs.iloadN i19_0 rfl ?_
  refine Runs.iloadN i19_1 rfl ?_
  by_cases hc2 : (Int32.ofNat b) < (Int32.ofNat a)
  · refine Runs.icY (t := 9) i19_2 (by decide) (tlt hc2).2.2.1 ?_
    refine Runs.iloadN i19_9 rfl ?_
    exact Runs.retI (z := (Int32.ofNat b)) i19_10 rfl (Or.inl rfl) rfl (by decide) (by decide) ⟨by rw [own_ltI (by omega) (by omega)] at hc2; congr 3; omega, rfl, rfl⟩
  · refine Runs.icN i19_2 (flt hc2).2.2.1 ?_
    refine Runs.iloadN i19_5 rfl ?_
    refine Runs.goto (t := 10) i19_6 (by decide) ?_
    exact Runs.retI (z := (Int32.ofNat a)) i19_10 rfl (Or.inl rfl) rfl (by decide) (by decide) ⟨by rw [own_ltI (by omega) (by omega)] at hc2; congr 3; omega, rfl, rfl⟩
theorem own_cpt (l : Launch) (Z : State) (a0 : Array Value) (hw : Wds Z a0) (n0 : Nat) (t : Addr) (k : ClassId) (c n NS : Nat) (vs : List Value) (hn : n < c ∧ c < 1000) (hNS : n ≤ NS ∧ NS < 1000) (h0 : Heap) (T0 : Arv Z h0 t k .byte (Int32.ofNat c) vs (.int 0)) : Con 1 l Z [("java/lang/String", 7)] n0 (⟨"java/util/Arrays", "copyOf", "([BI)[B"⟩ : MethodName) c18_ 3 (some (.array .byte)) ({ frames := 1, cells := 1, slots := NS, locals := 40 } : Room) #[(.ref t), (.int (Int32.ofNat n))] [] h0 (fun v h D' => ∃ b k', v = some (.ref b) ∧ h0.size ≤ b ∧ Keep h0 h [] ∧ Arv Z h b k' .byte (Int32.ofNat n) ((List.range n).map fun i => vs.getD (0 + i) (.int 0)) (.int 0) ∧ D' = [b]) := by
  refine Con.of_runs (ls := #[vr t, vi (Int32.ofNat n), .unset]) (by decide +kernel) (fun m => rfl) ?_
  refine Runs.iloadN i18_0 rfl ?_
  refine Runs.aloadN i18_1 rfl rfl ?_
  refine Runs.arrlen i18_2 T0 ?_
  refine Runs.icY (t := 14) i18_3 (by decide) (feq (fun q => absurd ((own_inj (a := n) (b := c) (by omega) (by omega)).mp q) (by omega))).2 ?_
  refine Runs.iloadN i18_14 rfl ?_
  refine Runs.newP (cap := NS) (ad := "[B") i18_15 (w3 hw) (own_nn (n := n) (by omega)) (by rw [own_cl (n := n) (by omega)]; omega) (by omega) (by first | decide | (dsimp only; first | decide | omega)) (by first | decide | (dsimp only; first | decide | omega)) rfl ?_
  intro h_1 b_2 k_3 g_6 ge_7 K_4 (A_5 : Arv Z h_1 b_2 k_3 .byte (Int32.ofNat n) ([]) (.int 0)) E_8
  refine Runs.astoreN (ls' := #[vr t, vi (Int32.ofNat n), vr b_2]) i18_17 rfl rfl ?_
  refine Runs.aloadN i18_18 rfl rfl ?_
  refine Runs.iconst (v := (0 : Int32)) i18_19 (by decide) ?_
  refine Runs.aloadN i18_20 rfl rfl ?_
  refine Runs.iconst (v := (0 : Int32)) i18_21 (by decide) ?_
  refine Runs.aloadN i18_22 rfl rfl ?_
  have A_9 := (T0.keep K_4 nin0)
  refine Runs.arrlen i18_23 A_9 ?_
  refine Runs.iloadN i18_24 rfl ?_
  refine Runs.callSW (argsL := [(.int (Int32.ofNat c)), (.int (Int32.ofNat n))]) (rest := [(.int 0), (.ref b_2), (.int 0), (.ref t)]) (W := 4) i18_25 (w107 hw) (w108 hw) (w109 hw) (w110 hw) (by decide) pd_0 rfl rfl rfl rfl (by first | decide | (dsimp only; first | decide | omega)) (by first | decide | (dsimp only; first | decide | omega)) (by first | decide | (dsimp only; first | decide | omega)) (by first | decide | (dsimp only; first | decide | omega)) all0 (by decide) (own_min l Z a0 hw n0 c n (by omega) (by omega) _) ?_
  rw [show min c n = n by omega]
  intro v h1 D1 q hsz
  obtain ⟨rfl, rfl, rfl⟩ := q
  show Runs _ _ _ _ _ _ _ _ _ _ _ _ [b_2] h_1 1 (0 + NS) 28 #[vr t, vi (Int32.ofNat n), vr b_2] [(.int (Int32.ofNat n)), (.int 0), (.ref b_2), (.int 0), (.ref t)]
  have A_10 : Arv Z h_1 b_2 k_3 .byte (Int32.ofNat n) (List.replicate n (.int 0)) (.int 0) := A_5.pad (pad_rep [] (.int 0) n)
  refine Runs.acopy (W := 0) (us := ((List.range n).map fun i => vs.getD (0 + i) (.int 0))) i18_28 (w111 hw) (w114 hw) (w112 hw) (w113 hw) A_9 A_10 rfl (by decide) (by decide) (own_nn (by omega)) (by rw [own_cl (n := n) (by omega), own_cl (n := c) (by omega)]; show 0 + n ≤ c; omega) (by rw [own_cl (n := n) (by omega)]; show 0 + n ≤ n; omega) (by rw [own_cl (n := n) (by omega)]; rfl) (by rw [own_cl (n := n) (by omega)]; show 0 + n ≤ _; rw [List.length_replicate]; omega) ge_7 (Or.inl (mi 0 rfl)) rfl (by first | decide | (dsimp only; first | decide | omega)) rfl (by first | decide | (dsimp only; first | decide | omega)) ?_
  intro h_11 K_12 A_13
  have A_14 : Arv Z h_11 b_2 k_3 .byte (Int32.ofNat n) ((List.range n).map fun i => vs.getD (0 + i) (.int 0)) (.int 0) := by
    rw [own_cl (n := n) (by omega)] at A_13
    rw [show (0 : Int32).toNatClampNeg = 0 from rfl, List.take_zero, List.nil_append, Nat.zero_add, List.drop_eq_nil_of_le (by rw [List.length_replicate]; exact Nat.le_refl _), List.append_nil] at A_13
    exact A_13
  refine Runs.aloadN i18_31 rfl rfl ?_
  exact Runs.retA i18_32 rfl rfl rfl (by first | decide | (dsimp only; first | decide | omega)) (by first | decide | (dsimp only; first | decide | omega)) ⟨b_2, k_3, rfl, g_6, (((Keep.refl _ _).trans K_4 all0).trans K_12 (allS (Or.inr (Nat.le_trans (Nat.le_refl _) g_6)) all0)), A_14, rfl⟩
theorem own_ubl (l : Launch) (Z : State) (a0 : Array Value) (hw : Wds Z a0) (n0 : Nat) (n : Nat) (hn : n < 1000000) (h0 : Heap) : Con 1 l Z [("java/lang/String", 7)] n0 (⟨"java/lang/StringUTF16", "newBytesLength", "(I)I"⟩ : MethodName) c21_ 1 (some .int) ({ frames := 0, cells := 0, slots := 0, locals := 0 } : Room) #[(.int (Int32.ofNat n))] [] h0 (fun v h D' => v = some (.int (Int32.ofNat (2 * n))) ∧ h0 = h ∧ D' = []) := by
  refine Con.of_runs (ls := #[vi (Int32.ofNat n)]) (by decide +kernel) (fun m => rfl) ?_
  refine Runs.iloadN i21_0 rfl ?_
  refine Runs.ifY (t := 12) i21_1 (by decide) (flt (own_nn (by omega))).2.1 ?_
  refine Runs.iloadN i21_12 rfl ?_
  refine Runs.ldcI i21_13 (w123 hw) ?_
  refine Runs.icY (t := 55) i21_15 (by decide) (tlt (own_lt (a := n) (b := 1073741823) (by omega) (by omega))).1 ?_
  refine Runs.iloadN i21_55 rfl ?_
  refine Runs.iconst (v := (1 : Int32)) i21_56 (by decide) ?_
  refine Runs.ishl (z := Int32.ofNat (2 * n)) i21_57 (own_shl1 (by omega)) ?_
  exact Runs.retI (z := (Int32.ofNat (2 * n))) i21_58 rfl (Or.inl rfl) rfl (by decide) (by decide) ⟨rfl, rfl, rfl⟩
theorem own_ubf (l : Launch) (Z : State) (a0 : Array Value) (hw : Wds Z a0) (n0 : Nat) (n NS : Nat) (hn : n < 1000000) (hNS : 2 * n ≤ NS ∧ NS < 10000000) (h0 : Heap) : Con 1 l Z [("java/lang/String", 7)] n0 (⟨"java/lang/StringUTF16", "newBytesFor", "(I)[B"⟩ : MethodName) c20_ 1 (some (.array .byte)) ({ frames := 1, cells := 1, slots := NS, locals := 12 } : Room) #[(.int (Int32.ofNat n))] [] h0 (fun v h D' => ∃ b k, v = some (.ref b) ∧ h0.size ≤ b ∧ Keep h0 h [] ∧ Arv Z h b k .byte (Int32.ofNat (2 * n)) (own_ws []) (.int 0) ∧ Exa Z h b "[B" ∧ D' = [b]) := by
  refine Con.of_runs (ls := #[vi (Int32.ofNat n)]) (by decide +kernel) (fun m => rfl) ?_
  refine Runs.iloadN i20_0 rfl ?_
  refine Runs.callSW (argsL := [(.int (Int32.ofNat n))]) (rest := []) (W := 0) i20_1 (w120 hw) (w121 hw) (w82 hw) (w122 hw) (by decide) pd_1 rfl rfl rfl rfl (by first | decide | (dsimp only; first | decide | omega)) (by first | decide | (dsimp only; first | decide | omega)) (by first | decide | (dsimp only; first | decide | omega)) (by first | decide | (dsimp only; first | decide | omega)) all0 (by decide) (own_ubl l Z a0 hw n0 n (by omega) _) ?_
  intro v h1 D1 q hsz
  obtain ⟨rfl, rfl, rfl⟩ := q
  show Runs _ _ _ _ _ _ _ _ _ _ _ _ [] h0 0 0 4 #[vi (Int32.ofNat n)] [(.int (Int32.ofNat (2 * n)))]
  refine Runs.newP (cap := NS) (ad := "[B") i20_4 (w3 hw) (own_nn (by omega)) (by rw [own_cl (n := 2 * n) (by omega)]; omega) (by omega) (by first | decide | (dsimp only; first | decide | omega)) (by first | decide | (dsimp only; first | decide | omega)) rfl ?_
  intro h_1 b_2 k_3 g_6 ge_7 K_4 (A_5 : Arv Z h_1 b_2 k_3 .byte (Int32.ofNat (2 * n)) (own_ws []) (.int 0)) E_8
  exact Runs.retA i20_6 rfl rfl rfl (by first | decide | (dsimp only; first | decide | omega)) (by first | decide | (dsimp only; first | decide | omega)) ⟨b_2, k_3, rfl, g_6, K_4, A_5, E_8, rfl⟩
theorem own_cfs (l : Launch) (Z : State) (a0 : Array Value) (hw : Wds Z a0) (n0 : Nat) (n cap : Nat) (hn : n ≤ cap) (hcap : cap < 1000000) (fm : Value) (hfm : fm.isRef = true) (h0 : Heap) : Con 1 l Z [("java/lang/String", 7)] n0 (⟨"jdk/internal/util/Preconditions", "checkFromIndexSize", "(IIILjava/util/function/BiFunction;)I"⟩ : MethodName) c27_ 4 (some .int) ({ frames := 0, cells := 0, slots := 0, locals := 0 } : Room) #[(.int 0), (.int (Int32.ofNat n)), (.int (Int32.ofNat cap)), fm] [] h0 (fun v h D' => v = some (.int 0) ∧ h0 = h ∧ D' = []) := by
  refine Con.of_runs (ls := #[vi 0, vi (Int32.ofNat n), vi (Int32.ofNat cap), .val fm]) (by decide +kernel) (fun m => by rcases ref_cases hfm with rfl | ⟨_, rfl⟩ <;> rfl) ?_
  refine Runs.iloadN i27_0 rfl ?_
  refine Runs.iloadN i27_1 rfl ?_
  refine Runs.ior (z := Int32.ofNat (cap ||| 0)) i27_2 (own_or2 (a := cap) (b := 0)) ?_
  refine Runs.iloadN i27_3 rfl ?_
  refine Runs.ior (z := Int32.ofNat ((cap ||| 0) ||| n)) i27_4 (own_or2 (a := (cap ||| 0)) (b := n)) ?_
  refine Runs.ifN i27_5 (flt (own_nn (by have := own_orlt (own_orlt (a := cap) (b := 0) (by omega) (by omega)) (show n < 1073741824 by omega); omega))).1 ?_
  refine Runs.iloadN i27_8 rfl ?_
  refine Runs.iloadN i27_9 rfl ?_
  refine Runs.iloadN i27_10 rfl ?_
  refine Runs.isub (z := Int32.ofNat cap) i27_11 (own_sub (a := cap) (b := 0) (by omega) (by omega)) ?_
  refine Runs.icY (t := 23) i27_12 (by decide) (flt (own_nlt (a := cap) (b := n) hn (by omega))).2.2.2 ?_
  refine Runs.iloadN i27_23 rfl ?_
  exact Runs.retI (z := (0 : Int32)) i27_24 rfl (Or.inl rfl) rfl (by decide) (by decide) ⟨rfl, rfl, rfl⟩
theorem own_sbo (l : Launch) (Z : State) (a0 : Array Value) (hw : Wds Z a0) (n0 : Nat) (n cap : Nat) (hn : n ≤ cap) (hcap : cap < 1000000) (fm : Value) (hfm : fm.isRef = true) (S_F : SF Z fm) (h0 : Heap) : Con 1 l Z [("java/lang/String", 7)] n0 (⟨"java/lang/String", "checkBoundsOffCount", "(III)I"⟩ : MethodName) c26_ 3 (some .int) ({ frames := 1, cells := 0, slots := 0, locals := 15 } : Room) #[(.int 0), (.int (Int32.ofNat n)), (.int (Int32.ofNat cap))] [] h0 (fun v h D' => v = some (.int 0) ∧ h0 = h ∧ D' = []) := by
  refine Con.of_runs (ls := #[vi 0, vi (Int32.ofNat n), vi (Int32.ofNat cap)]) (by decide +kernel) (fun m => rfl) ?_
  refine Runs.iloadN i26_0 rfl ?_
  refine Runs.iloadN i26_1 rfl ?_
  refine Runs.iloadN i26_2 rfl ?_
  refine Runs.getS i26_3 (w139 hw) Via.refl S_F ?_
  refine Runs.callSW (argsL := [(.int 0), (.int (Int32.ofNat n)), (.int (Int32.ofNat cap)), fm]) (rest := []) (W := 0) i26_6 (w141 hw) (w142 hw) (w140 hw) (w143 hw) (by decide) pd_2 rfl rfl rfl rfl (by decide) (by decide) (by decide) (by decide) all0 (by decide) (own_cfs l Z a0 hw n0 n cap hn hcap fm hfm _) ?_
  intro v h1 D1 q hsz
  obtain ⟨rfl, rfl, rfl⟩ := q
  show Runs _ _ _ _ _ _ _ _ _ _ _ _ [] h0 0 0 9 #[vi 0, vi (Int32.ofNat n), vi (Int32.ofNat cap)] [(.int 0)]
  exact Runs.retI (z := (0 : Int32)) i26_9 rfl (Or.inl rfl) rfl (by decide) (by decide) ⟨rfl, rfl, rfl⟩
theorem own_ulen (l : Launch) (Z : State) (a0 : Array Value) (hw : Wds Z a0) (n0 : Nat) (cap : Nat) (hcap : cap < 1000000) (t : Addr) (k : ClassId) (vs : List Value) (h0 : Heap) (T0 : Arv Z h0 t k .byte (Int32.ofNat (2 * cap)) vs (.int 0)) : Con 1 l Z [("java/lang/String", 7)] n0 (⟨"java/lang/StringUTF16", "length", "([B)I"⟩ : MethodName) c25_ 1 (some .int) ({ frames := 0, cells := 0, slots := 0, locals := 0 } : Room) #[(.ref t)] [] h0 (fun v h D' => v = some (.int (Int32.ofNat cap)) ∧ h0 = h ∧ D' = []) := by
  refine Con.of_runs (ls := #[vr t]) (by decide +kernel) (fun m => rfl) ?_
  refine Runs.aloadN i25_0 rfl rfl ?_
  refine Runs.arrlen i25_1 T0 ?_
  refine Runs.iconst (v := (1 : Int32)) i25_2 (by decide) ?_
  refine Runs.ishr (z := Int32.ofNat cap) i25_3 (own_shr1 (by omega)) ?_
  exact Runs.retI (z := (Int32.ofNat cap)) i25_4 rfl (Or.inl rfl) rfl (by decide) (by decide) ⟨rfl, rfl, rfl⟩
theorem own_ubo (l : Launch) (Z : State) (a0 : Array Value) (hw : Wds Z a0) (n0 : Nat) (n cap : Nat) (hn : n ≤ cap) (hcap : cap < 1000000) (fm : Value) (hfm : fm.isRef = true) (S_F : SF Z fm) (t : Addr) (k : ClassId) (vs : List Value) (h0 : Heap) (T0 : Arv Z h0 t k .byte (Int32.ofNat (2 * cap)) vs (.int 0)) : Con 1 l Z [("java/lang/String", 7)] n0 (⟨"java/lang/StringUTF16", "checkBoundsOffCount", "(II[B)V"⟩ : MethodName) c24_ 3 none ({ frames := 2, cells := 0, slots := 0, locals := 31 } : Room) #[(.int 0), (.int (Int32.ofNat n)), (.ref t)] [] h0 (fun v h D' => v = none ∧ h0 = h ∧ D' = []) := by
  refine Con.of_runs (ls := #[vi 0, vi (Int32.ofNat n), vr t]) (by decide +kernel) (fun m => rfl) ?_
  refine Runs.iloadN i24_0 rfl ?_
  refine Runs.iloadN i24_1 rfl ?_
  refine Runs.aloadN i24_2 rfl rfl ?_
  refine Runs.callSW (argsL := [(.ref t)]) (rest := [(.int (Int32.ofNat n)), (.int 0)]) (W := 2) i24_3 (w133 hw) (w134 hw) (w82 hw) (w135 hw) (by decide) pd_3 rfl rfl rfl rfl (by decide) (by decide) (by decide) (by decide) all0 (by decide) (own_ulen l Z a0 hw n0 cap hcap t k vs _ T0) ?_
  intro v h1 D1 q hsz
  obtain ⟨rfl, rfl, rfl⟩ := q
  show Runs _ _ _ _ _ _ _ _ _ _ _ _ [] h0 0 0 6 #[vi 0, vi (Int32.ofNat n), vr t] [(.int (Int32.ofNat cap)), (.int (Int32.ofNat n)), (.int 0)]
  refine Runs.callSW (argsL := [(.int 0), (.int (Int32.ofNat n)), (.int (Int32.ofNat cap))]) (rest := []) (W := 0) i24_6 (w136 hw) (w137 hw) (w32 hw) (w138 hw) (by decide) pd_4 rfl rfl rfl rfl (by decide) (by decide) (by decide) (by decide) all0 (by decide) (own_sbo l Z a0 hw n0 n cap hn hcap fm hfm S_F _) ?_
  intro v h1 D1 q hsz
  obtain ⟨rfl, rfl, rfl⟩ := q
  show Runs _ _ _ _ _ _ _ _ _ _ _ _ [] h0 0 0 9 #[vi 0, vi (Int32.ofNat n), vr t] [(.int 0)]
  refine Runs.pop i24_9 rfl ?_
  exact Runs.retV i24_10 rfl (by decide) (by decide) ⟨rfl, rfl, rfl⟩
theorem own_upc (l : Launch) (Z : State) (a0 : Array Value) (hw : Wds Z a0) (n0 : Nat) (t : Addr) (k : ClassId) (cap : Nat) (xs : List Int32) (h0 : Heap) (T0 : Arv Z h0 t k .byte (Int32.ofNat (2 * cap)) (own_ws xs) (.int 0)) (c : Int32) (hx : xs.length < cap) (hcap : cap < 1000000) (gt : n0 ≤ t) (S_A : SA Z) (S_H : SH Z) (S_L : SL Z) : Con 1 l Z [("java/lang/String", 7)] n0 (⟨"java/lang/StringUTF16", "putChar", "([BII)V"⟩ : MethodName) c33_ 3 none ({ frames := 0, cells := 0, slots := 0, locals := 0 } : Room) #[(.ref t), (.int (Int32.ofNat xs.length)), (.int c)] [t] h0 (fun v h D' => v = none ∧ Keep h0 h [t] ∧ Arv Z h t k .byte (Int32.ofNat (2 * cap)) (own_ws (xs ++ [c])) (.int 0) ∧ D' = []) := by
  refine Con.of_runs (ls := #[vr t, vi (Int32.ofNat xs.length), vi c]) (by decide +kernel) (fun m => rfl) ?_
  refine Runs.getS i33_0 (w167 hw) Via.refl S_A ?_
  refine Runs.ifY (t := 28) i33_3 (by decide) (feq (by decide : ¬ ((1 : Int32) = (0 : Int32)))).2 ?_
  refine Runs.iloadN i33_28 rfl ?_
  refine Runs.iconst (v := (1 : Int32)) i33_29 (by decide) ?_
  refine Runs.ishl (z := Int32.ofNat (2 * xs.length)) i33_30 (own_shl1 (by omega)) ?_
  refine Runs.istoreN (ls' := #[vr t, vi (Int32.ofNat (2 * xs.length)), vi c]) i33_31 rfl ?_
  refine Runs.aloadN i33_32 rfl rfl ?_
  refine Runs.iloadN i33_33 rfl ?_
  refine Runs.iinc (z := (Int32.ofNat ((2 * xs.length) + 1))) (ls' := #[vr t, vi (Int32.ofNat ((2 * xs.length) + 1)), vi c]) i33_34 rfl (own_add (b := 1) (by omega)) rfl ?_
  refine Runs.iloadN i33_37 rfl ?_
  refine Runs.getS i33_38 (w168 hw) Via.refl S_H ?_
  refine Runs.ishr (z := c) i33_41 (own_shr0 _) ?_
  refine Runs.i2b (z := (own_lo c)) i33_42 rfl ?_
  have T1 : Arv Z h0 t k .byte (Int32.ofNat (2 * cap)) (own_ws xs ++ List.replicate 2 (.int 0)) (.int 0) := T0.pad (pad_rep _ _ _)
  refine Runs.bastore (i := (2 * xs.length)) (y := (own_lo c)) i33_43 T1 ⟨own_nn (by omega), own_lt (by omega) (by omega)⟩ (own_cl (by omega)) (by simp [own_wsl]) (own_bb _) gt (Or.inl (mi 0 rfl)) ?_
  intro h_1 K_2 A_3
  refine Runs.aloadN i33_44 rfl rfl ?_
  refine Runs.iloadN i33_45 rfl ?_
  refine Runs.iloadN i33_46 rfl ?_
  refine Runs.getS i33_47 (w169 hw) Via.refl S_L ?_
  refine Runs.ishr (z := (c >>> ((8 : Int32) &&& 31))) i33_50 rfl ?_
  refine Runs.i2b (z := (own_hi c)) i33_51 rfl ?_
  refine Runs.bastore (i := ((2 * xs.length) + 1)) (y := (own_hi c)) i33_52 A_3 ⟨own_nn (by omega), own_lt (by omega) (by omega)⟩ (own_cl (by omega)) (by simp [own_wsl]) (own_bb _) gt (Or.inl (mi 0 rfl)) ?_
  intro h_4 K_5 A_6
  rw [own_put] at A_6
  exact Runs.weak (D1 := []) (fun _ q => nomatch q) (Runs.retV i33_53 rfl (by decide) (by decide) ⟨rfl, (((Keep.refl _ _).trans K_2 (allS (Or.inl (mi 0 rfl)) all0)).trans K_5 (allS (Or.inl (mi 0 rfl)) all0)), A_6, rfl⟩)
theorem own_uil (l : Launch) (Z : State) (a0 : Array Value) (hw : Wds Z a0) (n0 : Nat) (u t : Addr) (ku k : ClassId) (c0 cap : Nat) (xs : List Int32) (vs : List Value) (hv : ∀ i, i < xs.length → vs.getD i (.int 0) = .int ((Int32.toInt8 (xs.getD i 0)).toInt32)) (hut : u ≠ t) (hx : xs.length ≤ cap) (hcap : cap < 1000000) (hc0 : xs.length ≤ c0 ∧ c0 < 1000000) (hL : Lat xs) (h0 : Heap) (U0 : Arv Z h0 u ku .byte (Int32.ofNat c0) vs (.int 0)) (gt : n0 ≤ t) (S_A : SA Z) (S_H : SH Z) (S_L : SL Z) (d : Nat) : ∀ (i : Nat) (h : Heap), d + i = xs.length → Keep h0 h [t] → Arv Z h t k .byte (Int32.ofNat (2 * cap)) (own_ws (xs.take i)) (.int 0) → Runs 1 l Z [("java/lang/String", 7)] n0 "java/lang/StringUTF16" "inflate" c23_ 6 none ({ frames := 3, cells := 0, slots := 0, locals := 50 } : Room) (fun v h D' => v = none ∧ Keep h0 h [t] ∧ Arv Z h t k .byte (Int32.ofNat (2 * cap)) (own_ws xs) (.int 0) ∧ D' = []) [t] h 0 0 10 #[vr u, vi (Int32.ofNat i), vr t, vi (Int32.ofNat i), vi (Int32.ofNat xs.length), vi (Int32.ofNat i)] [] := by
  induction d with
  | zero =>
    intro i h hd K T
    refine Runs.iload i23_10 rfl ?_
    refine Runs.iload i23_12 rfl ?_
    refine Runs.icY (t := 41) i23_14 (by decide) (flt (own_nlt (by omega) (by omega))).2.1 ?_
    exact Runs.weak (D1 := []) (fun _ q => nomatch q) (Runs.retV i23_41 rfl (by decide) (by decide) ⟨rfl, K, by rw [List.take_of_length_le (by omega)] at T; exact T, rfl⟩)
  | succ d ih =>
    intro i h hd K T
    refine Runs.iload i23_10 rfl ?_
    refine Runs.iload i23_12 rfl ?_
    refine Runs.icN i23_14 (tlt (own_lt (by omega) (by omega))).2.1 ?_
    refine Runs.aloadN i23_17 rfl rfl ?_
    refine Runs.iloadN i23_18 rfl ?_
    refine Runs.iinc (z := (Int32.ofNat (i + 1))) (ls' := #[vr u, vi (Int32.ofNat i), vr t, vi (Int32.ofNat (i + 1)), vi (Int32.ofNat xs.length), vi (Int32.ofNat i)]) i23_19 rfl (own_add (b := 1) (by omega)) rfl ?_
    refine Runs.aloadN i23_22 rfl rfl ?_
    refine Runs.iloadN i23_23 rfl ?_
    refine Runs.iinc (z := (Int32.ofNat (i + 1))) (ls' := #[vr u, vi (Int32.ofNat (i + 1)), vr t, vi (Int32.ofNat (i + 1)), vi (Int32.ofNat xs.length), vi (Int32.ofNat i)]) i23_24 rfl (own_add (b := 1) (by omega)) rfl ?_
    refine Runs.baload (v := .int ((Int32.toInt8 (xs.getD i 0)).toInt32)) i23_27 (U0.keep K (ninS hut nin0)) ⟨own_nn (by omega), own_lt (by omega) (by omega)⟩ (by rw [own_cl (by omega)]; exact hv i (by omega)) ?_
    refine Runs.sipush (v := (255 : Int32)) i23_28 (by decide) ?_
    refine Runs.iand (z := xs.getD i 0) i23_31 (own_b255 (own_latg hL (by omega))) ?_
    have Hc := own_upc l Z a0 hw n0 t k cap (xs.take i) _ T (xs.getD i 0) (by rw [own_tkl (by omega)]; omega) hcap gt S_A S_H S_L
    rw [own_tkl (by omega)] at Hc
    refine Runs.callSW (argsL := [(.ref t), (.int (Int32.ofNat i)), (.int (xs.getD i 0))]) (rest := []) (W := 0) i23_32 (w178 hw) (w165 hw) (w82 hw) (w166 hw) (by decide) pd_5 rfl rfl rfl rfl (by decide) (by decide) (by decide) (by decide) (allS (mi 0 rfl) all0) (by decide) Hc ?_
    intro v h_3 D1 q hsz
    obtain ⟨rfl, K_1, A_2, rfl⟩ := q
    show Runs _ _ _ _ _ _ _ _ _ _ _ _ [t] h_3 0 0 35 #[vr u, vi (Int32.ofNat (i + 1)), vr t, vi (Int32.ofNat (i + 1)), vi (Int32.ofNat xs.length), vi (Int32.ofNat i)] []
    refine Runs.iinc (z := (Int32.ofNat (i + 1))) (ls' := #[vr u, vi (Int32.ofNat (i + 1)), vr t, vi (Int32.ofNat (i + 1)), vi (Int32.ofNat xs.length), vi (Int32.ofNat (i + 1))]) i23_35 rfl (own_add (b := 1) (by omega)) rfl ?_
    refine Runs.goto (t := 10) i23_38 (by decide) ?_
    exact ih (i + 1) _ (by omega) (K.trans K_1 (allS (Or.inl (mi 0 rfl)) all0)) (by rw [← own_take1 (by omega)]; exact A_2)
theorem own_uin (l : Launch) (Z : State) (a0 : Array Value) (hw : Wds Z a0) (n0 : Nat) (u t : Addr) (ku k : ClassId) (c0 cap : Nat) (xs : List Int32) (vs : List Value) (hv : ∀ i, i < xs.length → vs.getD i (.int 0) = .int ((Int32.toInt8 (xs.getD i 0)).toInt32)) (hut : u ≠ t) (hx : xs.length ≤ cap) (hcap : cap < 1000000) (hc0 : xs.length ≤ c0 ∧ c0 < 1000000) (hL : Lat xs) (h0 : Heap) (U0 : Arv Z h0 u ku .byte (Int32.ofNat c0) vs (.int 0)) (gt : n0 ≤ t) (S_A : SA Z) (S_H : SH Z) (S_L : SL Z) (T0 : Arv Z h0 t k .byte (Int32.ofNat (2 * cap)) (own_ws []) (.int 0)) (fm : Value) (hfm : fm.isRef = true) (S_F : SF Z fm) : Con 1 l Z [("java/lang/String", 7)] n0 (⟨"java/lang/StringUTF16", "inflate", "([BI[BII)V"⟩ : MethodName) c23_ 6 none ({ frames := 3, cells := 0, slots := 0, locals := 50 } : Room) #[(.ref u), (.int 0), (.ref t), (.int 0), (.int (Int32.ofNat xs.length))] [t] h0 (fun v h D' => v = none ∧ Keep h0 h [t] ∧ Arv Z h t k .byte (Int32.ofNat (2 * cap)) (own_ws xs) (.int 0) ∧ D' = []) := by
  refine Con.of_runs (ls := #[vr u, vi 0, vr t, vi 0, vi (Int32.ofNat xs.length), .unset]) (by decide +kernel) (fun m => rfl) ?_
  refine Runs.iloadN i23_0 rfl ?_
  refine Runs.iload i23_1 rfl ?_
  refine Runs.aloadN i23_3 rfl rfl ?_
  refine Runs.callSW (argsL := [(.int 0), (.int (Int32.ofNat xs.length)), (.ref t)]) (rest := []) (W := 0) i23_4 (w130 hw) (w131 hw) (w82 hw) (w132 hw) (by decide) pd_6 rfl rfl rfl rfl (by decide) (by decide) (by decide) (by decide) all0 (by decide) (own_ubo l Z a0 hw n0 xs.length cap hx hcap fm hfm S_F t k _ _ T0) ?_
  intro v h1 D1 q hsz
  obtain ⟨rfl, rfl, rfl⟩ := q
  show Runs _ _ _ _ _ _ _ _ _ _ _ _ [t] h0 0 0 7 #[vr u, vi 0, vr t, vi 0, vi (Int32.ofNat xs.length), .unset] []
  refine Runs.iconst (v := (0 : Int32)) i23_7 (by decide) ?_
  refine Runs.istore (ls' := #[vr u, vi 0, vr t, vi 0, vi (Int32.ofNat xs.length), vi 0]) i23_8 rfl ?_
  exact own_uil l Z a0 hw n0 u t ku k c0 cap xs vs hv hut hx hcap hc0 hL h0 U0 gt S_A S_H S_L xs.length 0 _ (by omega) (Keep.refl _ _) T0
theorem own_lin (l : Launch) (Z : State) (a0 : Array Value) (hw : Wds Z a0) (n0 : Nat) (u t : Addr) (ku k : ClassId) (c0 cap : Nat) (xs : List Int32) (vs : List Value) (hv : ∀ i, i < xs.length → vs.getD i (.int 0) = .int ((Int32.toInt8 (xs.getD i 0)).toInt32)) (hut : u ≠ t) (hx : xs.length ≤ cap) (hcap : cap < 1000000) (hc0 : xs.length ≤ c0 ∧ c0 < 1000000) (hL : Lat xs) (h0 : Heap) (U0 : Arv Z h0 u ku .byte (Int32.ofNat c0) vs (.int 0)) (gt : n0 ≤ t) (S_A : SA Z) (S_H : SH Z) (S_L : SL Z) (T0 : Arv Z h0 t k .byte (Int32.ofNat (2 * cap)) (own_ws []) (.int 0)) (fm : Value) (hfm : fm.isRef = true) (S_F : SF Z fm) : Con 1 l Z [("java/lang/String", 7)] n0 (⟨"java/lang/StringLatin1", "inflate", "([BI[BII)V"⟩ : MethodName) c22_ 5 none ({ frames := 4, cells := 0, slots := 0, locals := 67 } : Room) #[(.ref u), (.int 0), (.ref t), (.int 0), (.int (Int32.ofNat xs.length))] [t] h0 (fun v h D' => v = none ∧ Keep h0 h [t] ∧ Arv Z h t k .byte (Int32.ofNat (2 * cap)) (own_ws xs) (.int 0) ∧ D' = []) := by
  refine Con.of_runs (ls := #[vr u, vi 0, vr t, vi 0, vi (Int32.ofNat xs.length)]) (by decide +kernel) (fun m => rfl) ?_
  refine Runs.aloadN i22_0 rfl rfl ?_
  refine Runs.iloadN i22_1 rfl ?_
  refine Runs.aloadN i22_2 rfl rfl ?_
  refine Runs.iloadN i22_3 rfl ?_
  refine Runs.iload i22_4 rfl ?_
  refine Runs.callSW (argsL := [(.ref u), (.int 0), (.ref t), (.int 0), (.int (Int32.ofNat xs.length))]) (rest := []) (W := 0) i22_6 (w127 hw) (w128 hw) (w82 hw) (w129 hw) (by decide) pd_7 rfl rfl rfl rfl (by decide) (by decide) (by decide) (by decide) (allS (mi 0 rfl) all0) (by decide) (own_uin l Z a0 hw n0 u t ku k c0 cap xs vs hv hut hx hcap hc0 hL h0 U0 gt S_A S_H S_L T0 fm hfm S_F) ?_
  intro v h1 D1 q hsz
  obtain ⟨rfl, K1, A1, rfl⟩ := q
  show Runs _ _ _ _ _ _ _ _ _ _ _ _ [t] h1 0 0 9 #[vr u, vi 0, vr t, vi 0, vi (Int32.ofNat xs.length)] []
  refine Runs.weak (D1 := []) (fun _ q => nomatch q) ?_
  exact Runs.retV i22_9 rfl (by decide) (by decide) ⟨rfl, K1, A1, rfl⟩
theorem own_inc (l : Launch) (Z : State) (a0 : Array Value) (hw : Wds Z a0) (n0 : Nat) (b1 : Int32) (h1 : b1 &&& 192 = 128) (h0 : Heap) : Con 1 l Z [("java/lang/String", 7)] n0 (⟨"java/lang/String", "isNotContinuation", "(I)Z"⟩ : MethodName) c37_ 1 (some .boolean) ({ frames := 0, cells := 0, slots := 0, locals := 0 } : Room) #[(.int b1)] [] h0 (fun v h D' => v = some (.int 0) ∧ h0 = h ∧ D' = []) := by
  refine Con.of_runs (ls := #[vi b1]) (by decide +kernel) (fun m => rfl) ?_
  refine Runs.iloadN i37_0 rfl ?_
  refine Runs.sipush (v := (192 : Int32)) i37_1 (by decide) ?_
  refine Runs.iand (z := (b1 &&& (192 : Int32))) i37_4 rfl ?_
  refine Runs.sipush (v := (128 : Int32)) i37_5 (by decide) ?_
  refine Runs.icY (t := 15) i37_8 (by decide) (teq h1).1 ?_
  refine Runs.iconst (v := (0 : Int32)) i37_15 (by decide) ?_
  exact Runs.retI (z := (0 : Int32)) i37_16 rfl (Or.inr (Or.inl rfl)) (by decide) (by decide) (by decide) ⟨rfl, rfl, rfl⟩
theorem own_im3 (l : Launch) (Z : State) (a0 : Array Value) (hw : Wds Z a0) (n0 : Nat) (b1 b2 b3 : Int32) (h1 : b1 = -32 → ¬ b2 &&& 224 = 128) (h2 : b2 &&& 192 = 128) (h3 : b3 &&& 192 = 128) (h0 : Heap) : Con 1 l Z [("java/lang/String", 7)] n0 (⟨"java/lang/String", "isMalformed3", "(III)Z"⟩ : MethodName) c38_ 3 (some .boolean) ({ frames := 0, cells := 0, slots := 0, locals := 0 } : Room) #[(.int b1), (.int b2), (.int b3)] [] h0 (fun v h D' => v = some (.int 0) ∧ h0 = h ∧ D' = []) := by
  refine Con.of_runs (ls := #[vi b1, vi b2, vi b3]) (by decide +kernel) (fun m => rfl) ?_
  refine Runs.iloadN i38_0 rfl ?_
  refine Runs.bipush (v := (-32 : Int32)) i38_1 (by decide) ?_
  by_cases hc3 : b1 = (-32 : Int32)
  · refine Runs.icN i38_3 (teq hc3).2 ?_
    refine Runs.iloadN i38_6 rfl ?_
    refine Runs.sipush (v := (224 : Int32)) i38_7 (by decide) ?_
    refine Runs.iand (z := (b2 &&& (224 : Int32))) i38_10 rfl ?_
    refine Runs.sipush (v := (128 : Int32)) i38_11 (by decide) ?_
    refine Runs.icN i38_14 (feq (h1 hc3)).1 ?_
    refine Runs.iloadN i38_17 rfl ?_
    refine Runs.sipush (v := (192 : Int32)) i38_18 (by decide) ?_
    refine Runs.iand (z := (b2 &&& (192 : Int32))) i38_21 rfl ?_
    refine Runs.sipush (v := (128 : Int32)) i38_22 (by decide) ?_
    refine Runs.icN i38_25 (teq h2).2 ?_
    refine Runs.iloadN i38_28 rfl ?_
    refine Runs.sipush (v := (192 : Int32)) i38_29 (by decide) ?_
    refine Runs.iand (z := (b3 &&& (192 : Int32))) i38_32 rfl ?_
    refine Runs.sipush (v := (128 : Int32)) i38_33 (by decide) ?_
    refine Runs.icY (t := 43) i38_36 (by decide) (teq h3).1 ?_
    refine Runs.iconst (v := (0 : Int32)) i38_43 (by decide) ?_
    exact Runs.retI (z := (0 : Int32)) i38_44 rfl (Or.inr (Or.inl rfl)) (by decide) (by decide) (by decide) ⟨rfl, rfl, rfl⟩
  · refine Runs.icY (t := 17) i38_3 (by decide) (feq hc3).2 ?_
    refine Runs.iloadN i38_17 rfl ?_
    refine Runs.sipush (v := (192 : Int32)) i38_18 (by decide) ?_
    refine Runs.iand (z := (b2 &&& (192 : Int32))) i38_21 rfl ?_
    refine Runs.sipush (v := (128 : Int32)) i38_22 (by decide) ?_
    refine Runs.icN i38_25 (teq h2).2 ?_
    refine Runs.iloadN i38_28 rfl ?_
    refine Runs.sipush (v := (192 : Int32)) i38_29 (by decide) ?_
    refine Runs.iand (z := (b3 &&& (192 : Int32))) i38_32 rfl ?_
    refine Runs.sipush (v := (128 : Int32)) i38_33 (by decide) ?_
    refine Runs.icY (t := 43) i38_36 (by decide) (teq h3).1 ?_
    refine Runs.iconst (v := (0 : Int32)) i38_43 (by decide) ?_
    exact Runs.retI (z := (0 : Int32)) i38_44 rfl (Or.inr (Or.inl rfl)) (by decide) (by decide) (by decide) ⟨rfl, rfl, rfl⟩
theorem own_im4 (l : Launch) (Z : State) (a0 : Array Value) (hw : Wds Z a0) (n0 : Nat) (b1 b2 b3 : Int32) (h1 : b1 &&& 192 = 128) (h2 : b2 &&& 192 = 128) (h3 : b3 &&& 192 = 128) (h0 : Heap) : Con 1 l Z [("java/lang/String", 7)] n0 (⟨"java/lang/String", "isMalformed4", "(III)Z"⟩ : MethodName) c30_ 3 (some .boolean) ({ frames := 0, cells := 0, slots := 0, locals := 0 } : Room) #[(.int b1), (.int b2), (.int b3)] [] h0 (fun v h D' => v = some (.int 0) ∧ h0 = h ∧ D' = []) := by
  refine Con.of_runs (ls := #[vi b1, vi b2, vi b3]) (by decide +kernel) (fun m => rfl) ?_
  refine Runs.iloadN i30_0 rfl ?_
  refine Runs.sipush (v := (192 : Int32)) i30_1 (by decide) ?_
  refine Runs.iand (z := (b1 &&& (192 : Int32))) i30_4 rfl ?_
  refine Runs.sipush (v := (128 : Int32)) i30_5 (by decide) ?_
  refine Runs.icN i30_8 (teq h1).2 ?_
  refine Runs.iloadN i30_11 rfl ?_
  refine Runs.sipush (v := (192 : Int32)) i30_12 (by decide) ?_
  refine Runs.iand (z := (b2 &&& (192 : Int32))) i30_15 rfl ?_
  refine Runs.sipush (v := (128 : Int32)) i30_16 (by decide) ?_
  refine Runs.icN i30_19 (teq h2).2 ?_
  refine Runs.iloadN i30_22 rfl ?_
  refine Runs.sipush (v := (192 : Int32)) i30_23 (by decide) ?_
  refine Runs.iand (z := (b3 &&& (192 : Int32))) i30_26 rfl ?_
  refine Runs.sipush (v := (128 : Int32)) i30_27 (by decide) ?_
  refine Runs.icY (t := 37) i30_30 (by decide) (teq h3).1 ?_
  refine Runs.iconst (v := (0 : Int32)) i30_37 (by decide) ?_
  exact Runs.retI (z := (0 : Int32)) i30_38 rfl (Or.inr (Or.inl rfl)) (by decide) (by decide) (by decide) ⟨rfl, rfl, rfl⟩
theorem own_isp (l : Launch) (Z : State) (a0 : Array Value) (hw : Wds Z a0) (n0 : Nat) (b1 : Int32) (h1 : ¬ b1 < 65536) (h2 : b1 < 1114112) (h0 : Heap) : Con 1 l Z [("java/lang/String", 7)] n0 (⟨"java/lang/Character", "isSupplementaryCodePoint", "(I)Z"⟩ : MethodName) c31_ 1 (some .boolean) ({ frames := 0, cells := 0, slots := 0, locals := 0 } : Room) #[(.int b1)] [] h0 (fun v h D' => v = some (.int 1) ∧ h0 = h ∧ D' = []) := by
  refine Con.of_runs (ls := #[vi b1]) (by decide +kernel) (fun m => rfl) ?_
  refine Runs.iloadN i31_0 rfl ?_
  refine Runs.ldcI i31_1 (w158 hw) ?_
  refine Runs.icN i31_3 (flt h1).1 ?_
  refine Runs.iloadN i31_6 rfl ?_
  refine Runs.ldcI i31_7 (w159 hw) ?_
  refine Runs.icN i31_9 (tlt h2).2.1 ?_
  refine Runs.iconst (v := (1 : Int32)) i31_12 (by decide) ?_
  refine Runs.goto (t := 17) i31_13 (by decide) ?_
  exact Runs.retI (z := (1 : Int32)) i31_17 rfl (Or.inr (Or.inl rfl)) (by decide) (by decide) (by decide) ⟨rfl, rfl, rfl⟩
theorem own_dd2 (l : Launch) (Z : State) (a0 : Array Value) (hw : Wds Z a0) (n0 : Nat) (b1 b2 z : Int32) (hz : (((b1 <<< ((6 : Int32) &&& 31)) ^^^ b2) ^^^ 3968).toUInt32.toUInt16.toUInt32.toInt32 = z) (hc : ¬ z < 0 ∧ ¬ (65535 : Int32) < z) (h0 : Heap) : Con 1 l Z [("java/lang/String", 7)] n0 (⟨"java/lang/String", "decode2", "(II)C"⟩ : MethodName) c17_ 2 (some .char) ({ frames := 0, cells := 0, slots := 0, locals := 0 } : Room) #[(.int b1), (.int b2)] [] h0 (fun v h D' => v = some (.int z) ∧ h0 = h ∧ D' = []) := by
  refine Con.of_runs (ls := #[vi b1, vi b2]) (by decide +kernel) (fun m => rfl) ?_
  refine Runs.iloadN i17_0 rfl ?_
  refine Runs.bipush (v := (6 : Int32)) i17_1 (by decide) ?_
  refine Runs.ishl (z := (b1 <<< ((6 : Int32) &&& 31))) i17_3 rfl ?_
  refine Runs.iloadN i17_4 rfl ?_
  refine Runs.ixor (z := ((b1 <<< ((6 : Int32) &&& 31)) ^^^ b2)) i17_5 rfl ?_
  refine Runs.sipush (v := (3968 : Int32)) i17_6 (by decide) ?_
  refine Runs.ixor (z := (((b1 <<< ((6 : Int32) &&& 31)) ^^^ b2) ^^^ (3968 : Int32))) i17_9 rfl ?_
  refine Runs.i2c (z := z) i17_10 hz ?_
  exact Runs.retI (z := z) i17_11 rfl (Or.inr (Or.inr (Or.inr (Or.inl rfl)))) (congrArg Value.int (own_cc hc)) (by decide) (by decide) ⟨rfl, rfl, rfl⟩
theorem own_dd3 (l : Launch) (Z : State) (a0 : Array Value) (hw : Wds Z a0) (n0 : Nat) (b1 b2 b3 z : Int32) (hz : (((b1 <<< ((12 : Int32) &&& 31)) ^^^ (b2 <<< ((6 : Int32) &&& 31))) ^^^ (b3 ^^^ (-123008))).toUInt32.toUInt16.toUInt32.toInt32 = z) (hc : ¬ z < 0 ∧ ¬ (65535 : Int32) < z) (h0 : Heap) : Con 1 l Z [("java/lang/String", 7)] n0 (⟨"java/lang/String", "decode3", "(III)C"⟩ : MethodName) c39_ 3 (some .char) ({ frames := 0, cells := 0, slots := 0, locals := 0 } : Room) #[(.int b1), (.int b2), (.int b3)] [] h0 (fun v h D' => v = some (.int z) ∧ h0 = h ∧ D' = []) := by
  refine Con.of_runs (ls := #[vi b1, vi b2, vi b3]) (by decide +kernel) (fun m => rfl) ?_
  refine Runs.iloadN i39_0 rfl ?_
  refine Runs.bipush (v := (12 : Int32)) i39_1 (by decide) ?_
  refine Runs.ishl (z := (b1 <<< ((12 : Int32) &&& 31))) i39_3 rfl ?_
  refine Runs.iloadN i39_4 rfl ?_
  refine Runs.bipush (v := (6 : Int32)) i39_5 (by decide) ?_
  refine Runs.ishl (z := (b2 <<< ((6 : Int32) &&& 31))) i39_7 rfl ?_
  refine Runs.ixor (z := ((b1 <<< ((12 : Int32) &&& 31)) ^^^ (b2 <<< ((6 : Int32) &&& 31)))) i39_8 rfl ?_
  refine Runs.iloadN i39_9 rfl ?_
  refine Runs.ldcWI i39_10 (w196 hw) ?_
  refine Runs.ixor (z := (b3 ^^^ (-123008 : Int32))) i39_13 rfl ?_
  refine Runs.ixor (z := (((b1 <<< ((12 : Int32) &&& 31)) ^^^ (b2 <<< ((6 : Int32) &&& 31))) ^^^ (b3 ^^^ (-123008 : Int32)))) i39_14 rfl ?_
  refine Runs.i2c (z := z) i39_15 hz ?_
  exact Runs.retI (z := z) i39_16 rfl (Or.inr (Or.inr (Or.inr (Or.inl rfl)))) (congrArg Value.int (own_cc hc)) (by decide) (by decide) ⟨rfl, rfl, rfl⟩
theorem own_dd4 (l : Launch) (Z : State) (a0 : Array Value) (hw : Wds Z a0) (n0 : Nat) (b1 b2 b3 b4 z : Int32) (hz : (((b1 <<< ((18 : Int32) &&& 31)) ^^^ (b2 <<< ((12 : Int32) &&& 31))) ^^^ (b3 <<< ((6 : Int32) &&& 31))) ^^^ (b4 ^^^ 3678080) = z) (h0 : Heap) : Con 1 l Z [("java/lang/String", 7)] n0 (⟨"java/lang/String", "decode4", "(IIII)I"⟩ : MethodName) c29_ 4 (some .int) ({ frames := 0, cells := 0, slots := 0, locals := 0 } : Room) #[(.int b1), (.int b2), (.int b3), (.int b4)] [] h0 (fun v h D' => v = some (.int z) ∧ h0 = h ∧ D' = []) := by
  refine Con.of_runs (ls := #[vi b1, vi b2, vi b3, vi b4]) (by decide +kernel) (fun m => rfl) ?_
  refine Runs.iloadN i29_0 rfl ?_
  refine Runs.bipush (v := (18 : Int32)) i29_1 (by decide) ?_
  refine Runs.ishl (z := (b1 <<< ((18 : Int32) &&& 31))) i29_3 rfl ?_
  refine Runs.iloadN i29_4 rfl ?_
  refine Runs.bipush (v := (12 : Int32)) i29_5 (by decide) ?_
  refine Runs.ishl (z := (b2 <<< ((12 : Int32) &&& 31))) i29_7 rfl ?_
  refine Runs.ixor (z := ((b1 <<< ((18 : Int32) &&& 31)) ^^^ (b2 <<< ((12 : Int32) &&& 31)))) i29_8 rfl ?_
  refine Runs.iloadN i29_9 rfl ?_
  refine Runs.bipush (v := (6 : Int32)) i29_10 (by decide) ?_
  refine Runs.ishl (z := (b3 <<< ((6 : Int32) &&& 31))) i29_12 rfl ?_
  refine Runs.ixor (z := (((b1 <<< ((18 : Int32) &&& 31)) ^^^ (b2 <<< ((12 : Int32) &&& 31))) ^^^ (b3 <<< ((6 : Int32) &&& 31)))) i29_13 rfl ?_
  refine Runs.iloadN i29_14 rfl ?_
  refine Runs.ldcWI i29_15 (w150 hw) ?_
  refine Runs.ixor (z := (b4 ^^^ (3678080 : Int32))) i29_18 rfl ?_
  refine Runs.ixor (z := z) i29_19 hz ?_
  exact Runs.retI (z := z) i29_20 rfl (Or.inl rfl) rfl (by decide) (by decide) ⟨rfl, rfl, rfl⟩
theorem own_hs (l : Launch) (Z : State) (a0 : Array Value) (hw : Wds Z a0) (n0 : Nat) (b1 z : Int32) (hz : (Jvm.Free.XT.ushr b1 10 + 55232).toUInt32.toUInt16.toUInt32.toInt32 = z) (hc : ¬ z < 0 ∧ ¬ (65535 : Int32) < z) (h0 : Heap) : Con 1 l Z [("java/lang/String", 7)] n0 (⟨"java/lang/Character", "highSurrogate", "(I)C"⟩ : MethodName) c32_ 1 (some .char) ({ frames := 0, cells := 0, slots := 0, locals := 0 } : Room) #[(.int b1)] [] h0 (fun v h D' => v = some (.int z) ∧ h0 = h ∧ D' = []) := by
  refine Con.of_runs (ls := #[vi b1]) (by decide +kernel) (fun m => rfl) ?_
  refine Runs.iloadN i32_0 rfl ?_
  refine Runs.bipush (v := (10 : Int32)) i32_1 (by decide) ?_
  refine Runs.iushr (z := (Jvm.Free.XT.ushr b1 (10 : Int32))) i32_3 rfl ?_
  refine Runs.ldcI i32_4 (w163 hw) ?_
  refine Runs.iadd (z := ((Jvm.Free.XT.ushr b1 (10 : Int32)) + (55232 : Int32))) i32_6 rfl ?_
  refine Runs.i2c (z := z) i32_7 hz ?_
  exact Runs.retI (z := z) i32_8 rfl (Or.inr (Or.inr (Or.inr (Or.inl rfl)))) (congrArg Value.int (own_cc hc)) (by decide) (by decide) ⟨rfl, rfl, rfl⟩
theorem own_ls (l : Launch) (Z : State) (a0 : Array Value) (hw : Wds Z a0) (n0 : Nat) (b1 z : Int32) (hz : ((b1 &&& 1023) + 56320).toUInt32.toUInt16.toUInt32.toInt32 = z) (hc : ¬ z < 0 ∧ ¬ (65535 : Int32) < z) (h0 : Heap) : Con 1 l Z [("java/lang/String", 7)] n0 (⟨"java/lang/Character", "lowSurrogate", "(I)C"⟩ : MethodName) c34_ 1 (some .char) ({ frames := 0, cells := 0, slots := 0, locals := 0 } : Room) #[(.int b1)] [] h0 (fun v h D' => v = some (.int z) ∧ h0 = h ∧ D' = []) := by
  refine Con.of_runs (ls := #[vi b1]) (by decide +kernel) (fun m => rfl) ?_
  refine Runs.iloadN i34_0 rfl ?_
  refine Runs.sipush (v := (1023 : Int32)) i34_1 (by decide) ?_
  refine Runs.iand (z := (b1 &&& (1023 : Int32))) i34_4 rfl ?_
  refine Runs.ldcI i34_5 (w173 hw) ?_
  refine Runs.iadd (z := ((b1 &&& (1023 : Int32)) + (56320 : Int32))) i34_7 rfl ?_
  refine Runs.i2c (z := z) i34_8 hz ?_
  exact Runs.retI (z := z) i34_9 rfl (Or.inr (Or.inr (Or.inr (Or.inl rfl)))) (congrArg Value.int (own_cc hc)) (by decide) (by decide) ⟨rfl, rfl, rfl⟩
theorem own_iss (l : Launch) (Z : State) (a0 : Array Value) (hw : Wds Z a0) (n0 : Nat) (c : Int32) (hs : c < 55296 ∨ ¬ c < 57344) (h0 : Heap) : Con 1 l Z [("java/lang/String", 7)] n0 (⟨"java/lang/Character", "isSurrogate", "(C)Z"⟩ : MethodName) c40_ 1 (some .boolean) ({ frames := 0, cells := 0, slots := 0, locals := 0 } : Room) #[(.int c)] [] h0 (fun v h D' => v = some (.int 0) ∧ h0 = h ∧ D' = []) := by
  refine Con.of_runs (ls := #[vi c]) (by decide +kernel) (fun m => rfl) ?_
  refine Runs.iloadN i40_0 rfl ?_
  refine Runs.ldcI i40_1 (w200 hw) ?_
  by_cases hc3 : c < (55296 : Int32)
  · refine Runs.icY (t := 16) i40_3 (by decide) (tlt hc3).1 ?_
    refine Runs.iconst (v := (0 : Int32)) i40_16 (by decide) ?_
    exact Runs.retI (z := (0 : Int32)) i40_17 rfl (Or.inr (Or.inl rfl)) (by decide) (by decide) (by decide) ⟨rfl, rfl, rfl⟩
  · refine Runs.icN i40_3 (flt hc3).1 ?_
    refine Runs.iloadN i40_6 rfl ?_
    refine Runs.ldcI i40_7 (w201 hw) ?_
    refine Runs.icY (t := 16) i40_9 (by decide) (flt (fun q => absurd q (hs.resolve_left hc3))).2.1 ?_
    refine Runs.iconst (v := (0 : Int32)) i40_16 (by decide) ?_
    exact Runs.retI (z := (0 : Int32)) i40_17 rfl (Or.inr (Or.inl rfl)) (by decide) (by decide) (by decide) ⟨rfl, rfl, rfl⟩
theorem own_dt0g (l : Launch) (Z : State) (a0 : Array Value) (hw : Wds Z a0) (n0 : Nat) (u t : Addr) (ku k : ClassId) (vs : List Value) (n : Nat) (hut : u ≠ t) (hn : n < 1000) (h0 : Heap) (U0 : Arv Z h0 u ku .byte (Int32.ofNat n) vs (.int 0)) (gt : n0 ≤ t) (S_A : SA Z) (S_H : SH Z) (S_L : SL Z) (xs : List Int32) (sp : Nat) (hx : xs.length < n) (hsp : sp + 1 = n) (e : Int32) (he : e < 0) (hb : vs.getD sp (.int 0) = .int e) (h : Heap) (K : Keep h0 h [t]) (T : Arv Z h t k .byte (Int32.ofNat (2 * n)) (own_ws xs) (.int 0)) : Runs 1 l Z [("java/lang/String", 7)] n0 "java/lang/String" "decodeUTF8_UTF16" c28_ 11 (some .int) ({ frames := 1, cells := 0, slots := 0, locals := 40 } : Room) (fun v h D' => v = some (.int (Int32.ofNat (xs ++ [65533]).length)) ∧ Keep h0 h [t] ∧ Arv Z h t k .byte (Int32.ofNat (2 * n)) (own_ws (xs ++ [65533])) (.int 0) ∧ D' = []) [t] h 0 0 0 #[vr u, vi (Int32.ofNat sp), vi (Int32.ofNat n), vr t, vi (Int32.ofNat xs.length), vi 1, .unset, .unset, .unset, .unset, .unset] [] := by
  refine Runs.iloadN i28_0 rfl ?_
  refine Runs.iloadN i28_1 rfl ?_
  refine Runs.icN i28_2 (tlt (own_lt (a := sp) (b := n) (by omega) (by omega))).2.1 ?_
  refine Runs.aloadN i28_5 rfl rfl ?_
  refine Runs.iloadN i28_6 rfl ?_
  refine Runs.iinc (z := (Int32.ofNat (sp + 1))) (ls' := #[vr u, vi (Int32.ofNat (sp + 1)), vi (Int32.ofNat n), vr t, vi (Int32.ofNat xs.length), vi 1, .unset, .unset, .unset, .unset, .unset]) i28_7 rfl (own_add (a := sp) (b := 1) (by omega)) rfl ?_
  refine Runs.baload (v := .int e) i28_10 (U0.keep K (ninS hut nin0)) ⟨own_nn (by omega), own_lt (by omega) (by omega)⟩ (by rw [own_cl (by omega)]; exact hb) ?_
  refine Runs.istore (ls' := #[vr u, vi (Int32.ofNat (sp + 1)), vi (Int32.ofNat n), vr t, vi (Int32.ofNat xs.length), vi 1, vi e, .unset, .unset, .unset, .unset]) i28_11 rfl ?_
  refine Runs.iload i28_13 rfl ?_
  refine Runs.ifY (t := 33) i28_15 (by decide) (tlt he).1 ?_
  refine Runs.iload i28_33 rfl ?_
  refine Runs.iconst (v := (5 : Int32)) i28_35 (by decide) ?_
  refine Runs.ishr (z := (e >>> ((5 : Int32) &&& 31))) i28_36 rfl ?_
  refine Runs.bipush (v := (-2 : Int32)) i28_37 (by decide) ?_
  by_cases hc39 : (e >>> ((5 : Int32) &&& 31)) = (-2 : Int32)
  · refine Runs.icN i28_39 (teq hc39).2 ?_
    refine Runs.iload i28_42 rfl ?_
    refine Runs.bipush (v := (30 : Int32)) i28_44 (by decide) ?_
    refine Runs.iand (z := (e &&& (30 : Int32))) i28_46 rfl ?_
    by_cases hc47 : (e &&& (30 : Int32)) = (0 : Int32)
    · refine Runs.ifY (t := 143) i28_47 (by decide) (teq hc47).1 ?_
      refine Runs.iload i28_143 rfl ?_
      refine Runs.iconst (v := (4 : Int32)) i28_145 (by decide) ?_
      refine Runs.ishr (z := (e >>> ((4 : Int32) &&& 31))) i28_146 rfl ?_
      refine Runs.bipush (v := (-2 : Int32)) i28_147 (by decide) ?_
      by_cases hc149 : (e >>> ((4 : Int32) &&& 31)) = (-2 : Int32)
      · refine Runs.icN i28_149 (teq hc149).2 ?_
        refine Runs.iloadN i28_152 rfl ?_
        refine Runs.iconst (v := (1 : Int32)) i28_153 (by decide) ?_
        refine Runs.iadd (z := (Int32.ofNat ((sp + 1) + 1))) i28_154 (own_add (a := (sp + 1)) (b := 1) (by omega)) ?_
        refine Runs.iloadN i28_155 rfl ?_
        refine Runs.icY (t := 283) i28_156 (by decide) (flt (own_nlt (a := ((sp + 1) + 1)) (b := n) (by omega) (by omega))).2.1 ?_
        refine Runs.iloadN i28_283 rfl ?_
        refine Runs.iloadN i28_284 rfl ?_
        refine Runs.icY (t := 325) i28_285 (by decide) (flt (own_nlt (a := (sp + 1)) (b := n) (by omega) (by omega))).2.1 ?_
        refine Runs.iload i28_325 rfl ?_
        refine Runs.ifY (t := 335) i28_327 (by decide) (feq (by decide : ¬ ((1 : Int32) = (0 : Int32)))).2 ?_
        refine Runs.aloadN i28_335 rfl rfl ?_
        refine Runs.iload i28_336 rfl ?_
        refine Runs.iinc (z := (Int32.ofNat (xs.length + 1))) (ls' := #[vr u, vi (Int32.ofNat (sp + 1)), vi (Int32.ofNat n), vr t, vi (Int32.ofNat (xs.length + 1)), vi 1, vi e, .unset, .unset, .unset, .unset]) i28_338 rfl (own_add (a := xs.length) (b := 1) (by omega)) rfl ?_
        refine Runs.ldcI i28_341 (w186 hw) ?_
        refine Runs.callSW (argsL := [(.ref t), (.int (Int32.ofNat xs.length)), (.int 65533)]) (rest := []) (W := 0) i28_343 (w164 hw) (w165 hw) (w82 hw) (w166 hw) (by decide) pd_5 rfl rfl rfl rfl (by decide) (by decide) (by decide) (by decide) (allS (mi 0 rfl) all0) (by decide) (own_upc l Z a0 hw n0 t k n xs _ T (65533 : Int32) hx (by omega) gt S_A S_H S_L) ?_
        intro v h_3 D1 q hsz
        obtain ⟨rfl, K_1, A_2, rfl⟩ := q
        show Runs _ _ _ _ _ _ _ _ _ _ _ _ [t] h_3 0 0 346 #[vr u, vi (Int32.ofNat (sp + 1)), vi (Int32.ofNat n), vr t, vi (Int32.ofNat (xs.length + 1)), vi 1, vi e, .unset, .unset, .unset, .unset] []
        refine Runs.goto (t := 621) i28_346 (by decide) ?_
        refine Runs.iload i28_621 rfl ?_
        refine Runs.weak (D1 := []) (fun _ q => nomatch q) ?_
        exact Runs.retI (z := Int32.ofNat (xs.length + 1)) i28_623 rfl (Or.inl rfl) rfl (by decide) (by decide) ⟨by rw [List.length_append]; rfl, K.trans K_1 (allS (Or.inl (mi 0 rfl)) all0), A_2, rfl⟩
      · refine Runs.icY (t := 349) i28_149 (by decide) (feq hc149).2 ?_
        refine Runs.iload i28_349 rfl ?_
        refine Runs.iconst (v := (3 : Int32)) i28_351 (by decide) ?_
        refine Runs.ishr (z := (e >>> ((3 : Int32) &&& 31))) i28_352 rfl ?_
        refine Runs.bipush (v := (-2 : Int32)) i28_353 (by decide) ?_
        by_cases hc355 : (e >>> ((3 : Int32) &&& 31)) = (-2 : Int32)
        · refine Runs.icN i28_355 (teq hc355).2 ?_
          refine Runs.iloadN i28_358 rfl ?_
          refine Runs.iconst (v := (2 : Int32)) i28_359 (by decide) ?_
          refine Runs.iadd (z := (Int32.ofNat ((sp + 1) + 2))) i28_360 (own_add (a := (sp + 1)) (b := 2) (by omega)) ?_
          refine Runs.iloadN i28_361 rfl ?_
          refine Runs.icY (t := 490) i28_362 (by decide) (flt (own_nlt (a := ((sp + 1) + 2)) (b := n) (by omega) (by omega))).2.1 ?_
          refine Runs.iload i28_490 rfl ?_
          refine Runs.sipush (v := (255 : Int32)) i28_492 (by decide) ?_
          refine Runs.iand (z := (e &&& (255 : Int32))) i28_495 rfl ?_
          refine Runs.istore (ls' := #[vr u, vi (Int32.ofNat (sp + 1)), vi (Int32.ofNat n), vr t, vi (Int32.ofNat xs.length), vi 1, vi (e &&& (255 : Int32)), .unset, .unset, .unset, .unset]) i28_496 rfl ?_
          refine Runs.iload i28_498 rfl ?_
          refine Runs.sipush (v := (244 : Int32)) i28_500 (by decide) ?_
          by_cases hc503 : (244 : Int32) < (e &&& (255 : Int32))
          · refine Runs.icY (t := 526) i28_503 (by decide) (tlt hc503).2.2.1 ?_
            refine Runs.iload i28_526 rfl ?_
            refine Runs.ifY (t := 538) i28_528 (by decide) (feq (by decide : ¬ ((1 : Int32) = (0 : Int32)))).2 ?_
            refine Runs.aloadN i28_538 rfl rfl ?_
            refine Runs.iload i28_539 rfl ?_
            refine Runs.iinc (z := (Int32.ofNat (xs.length + 1))) (ls' := #[vr u, vi (Int32.ofNat (sp + 1)), vi (Int32.ofNat n), vr t, vi (Int32.ofNat (xs.length + 1)), vi 1, vi (e &&& (255 : Int32)), .unset, .unset, .unset, .unset]) i28_541 rfl (own_add (a := xs.length) (b := 1) (by omega)) rfl ?_
            refine Runs.ldcI i28_544 (w186 hw) ?_
            refine Runs.callSW (argsL := [(.ref t), (.int (Int32.ofNat xs.length)), (.int 65533)]) (rest := []) (W := 0) i28_546 (w164 hw) (w165 hw) (w82 hw) (w166 hw) (by decide) pd_5 rfl rfl rfl rfl (by decide) (by decide) (by decide) (by decide) (allS (mi 0 rfl) all0) (by decide) (own_upc l Z a0 hw n0 t k n xs _ T (65533 : Int32) hx (by omega) gt S_A S_H S_L) ?_
            intro v h_6 D1 q hsz
            obtain ⟨rfl, K_4, A_5, rfl⟩ := q
            show Runs _ _ _ _ _ _ _ _ _ _ _ _ [t] h_6 0 0 549 #[vr u, vi (Int32.ofNat (sp + 1)), vi (Int32.ofNat n), vr t, vi (Int32.ofNat (xs.length + 1)), vi 1, vi (e &&& (255 : Int32)), .unset, .unset, .unset, .unset] []
            refine Runs.goto (t := 0) i28_549 (by decide) ?_
            refine Runs.iloadN i28_0 rfl ?_
            refine Runs.iloadN i28_1 rfl ?_
            refine Runs.icY (t := 621) i28_2 (by decide) (flt (own_nlt (a := (sp + 1)) (b := n) (by omega) (by omega))).2.1 ?_
            refine Runs.iload i28_621 rfl ?_
            refine Runs.weak (D1 := []) (fun _ q => nomatch q) ?_
            exact Runs.retI (z := Int32.ofNat (xs.length + 1)) i28_623 rfl (Or.inl rfl) rfl (by decide) (by decide) ⟨by rw [List.length_append]; rfl, K.trans K_4 (allS (Or.inl (mi 0 rfl)) all0), A_5, rfl⟩
          · refine Runs.icN i28_503 (flt hc503).2.2.1 ?_
            refine Runs.iloadN i28_506 rfl ?_
            refine Runs.iloadN i28_507 rfl ?_
            refine Runs.icY (t := 552) i28_508 (by decide) (flt (own_nlt (a := (sp + 1)) (b := n) (by omega) (by omega))).2.1 ?_
            refine Runs.iload i28_552 rfl ?_
            refine Runs.ifY (t := 564) i28_554 (by decide) (feq (by decide : ¬ ((1 : Int32) = (0 : Int32)))).2 ?_
            refine Runs.iinc (z := (Int32.ofNat ((sp + 1) + 1))) (ls' := #[vr u, vi (Int32.ofNat ((sp + 1) + 1)), vi (Int32.ofNat n), vr t, vi (Int32.ofNat xs.length), vi 1, vi (e &&& (255 : Int32)), .unset, .unset, .unset, .unset]) i28_564 rfl (own_add (a := (sp + 1)) (b := 1) (by omega)) rfl ?_
            refine Runs.aloadN i28_567 rfl rfl ?_
            refine Runs.iload i28_568 rfl ?_
            refine Runs.iinc (z := (Int32.ofNat (xs.length + 1))) (ls' := #[vr u, vi (Int32.ofNat ((sp + 1) + 1)), vi (Int32.ofNat n), vr t, vi (Int32.ofNat (xs.length + 1)), vi 1, vi (e &&& (255 : Int32)), .unset, .unset, .unset, .unset]) i28_570 rfl (own_add (a := xs.length) (b := 1) (by omega)) rfl ?_
            refine Runs.ldcI i28_573 (w186 hw) ?_
            refine Runs.callSW (argsL := [(.ref t), (.int (Int32.ofNat xs.length)), (.int 65533)]) (rest := []) (W := 0) i28_575 (w164 hw) (w165 hw) (w82 hw) (w166 hw) (by decide) pd_5 rfl rfl rfl rfl (by decide) (by decide) (by decide) (by decide) (allS (mi 0 rfl) all0) (by decide) (own_upc l Z a0 hw n0 t k n xs _ T (65533 : Int32) hx (by omega) gt S_A S_H S_L) ?_
            intro v h_9 D1 q hsz
            obtain ⟨rfl, K_7, A_8, rfl⟩ := q
            show Runs _ _ _ _ _ _ _ _ _ _ _ _ [t] h_9 0 0 578 #[vr u, vi (Int32.ofNat ((sp + 1) + 1)), vi (Int32.ofNat n), vr t, vi (Int32.ofNat (xs.length + 1)), vi 1, vi (e &&& (255 : Int32)), .unset, .unset, .unset, .unset] []
            refine Runs.iloadN i28_578 rfl ?_
            refine Runs.iloadN i28_579 rfl ?_
            refine Runs.icY (t := 621) i28_580 (by decide) (flt (own_nlt (a := ((sp + 1) + 1)) (b := n) (by omega) (by omega))).2.1 ?_
            refine Runs.iload i28_621 rfl ?_
            refine Runs.weak (D1 := []) (fun _ q => nomatch q) ?_
            exact Runs.retI (z := Int32.ofNat (xs.length + 1)) i28_623 rfl (Or.inl rfl) rfl (by decide) (by decide) ⟨by rw [List.length_append]; rfl, K.trans K_7 (allS (Or.inl (mi 0 rfl)) all0), A_8, rfl⟩
        · refine Runs.icY (t := 595) i28_355 (by decide) (feq hc355).2 ?_
          refine Runs.iload i28_595 rfl ?_
          refine Runs.ifY (t := 607) i28_597 (by decide) (feq (by decide : ¬ ((1 : Int32) = (0 : Int32)))).2 ?_
          refine Runs.aloadN i28_607 rfl rfl ?_
          refine Runs.iload i28_608 rfl ?_
          refine Runs.iinc (z := (Int32.ofNat (xs.length + 1))) (ls' := #[vr u, vi (Int32.ofNat (sp + 1)), vi (Int32.ofNat n), vr t, vi (Int32.ofNat (xs.length + 1)), vi 1, vi e, .unset, .unset, .unset, .unset]) i28_610 rfl (own_add (a := xs.length) (b := 1) (by omega)) rfl ?_
          refine Runs.ldcI i28_613 (w186 hw) ?_
          refine Runs.callSW (argsL := [(.ref t), (.int (Int32.ofNat xs.length)), (.int 65533)]) (rest := []) (W := 0) i28_615 (w164 hw) (w165 hw) (w82 hw) (w166 hw) (by decide) pd_5 rfl rfl rfl rfl (by decide) (by decide) (by decide) (by decide) (allS (mi 0 rfl) all0) (by decide) (own_upc l Z a0 hw n0 t k n xs _ T (65533 : Int32) hx (by omega) gt S_A S_H S_L) ?_
          intro v h_12 D1 q hsz
          obtain ⟨rfl, K_10, A_11, rfl⟩ := q
          show Runs _ _ _ _ _ _ _ _ _ _ _ _ [t] h_12 0 0 618 #[vr u, vi (Int32.ofNat (sp + 1)), vi (Int32.ofNat n), vr t, vi (Int32.ofNat (xs.length + 1)), vi 1, vi e, .unset, .unset, .unset, .unset] []
          refine Runs.goto (t := 0) i28_618 (by decide) ?_
          refine Runs.iloadN i28_0 rfl ?_
          refine Runs.iloadN i28_1 rfl ?_
          refine Runs.icY (t := 621) i28_2 (by decide) (flt (own_nlt (a := (sp + 1)) (b := n) (by omega) (by omega))).2.1 ?_
          refine Runs.iload i28_621 rfl ?_
          refine Runs.weak (D1 := []) (fun _ q => nomatch q) ?_
          exact Runs.retI (z := Int32.ofNat (xs.length + 1)) i28_623 rfl (Or.inl rfl) rfl (by decide) (by decide) ⟨by rw [List.length_append]; rfl, K.trans K_10 (allS (Or.inl (mi 0 rfl)) all0), A_11, rfl⟩
    · refine Runs.ifN i28_47 (feq hc47).1 ?_
      refine Runs.iloadN i28_50 rfl ?_
      refine Runs.iloadN i28_51 rfl ?_
      refine Runs.icY (t := 119) i28_52 (by decide) (flt (own_nlt (a := (sp + 1)) (b := n) (by omega) (by omega))).2.1 ?_
      refine Runs.iload i28_119 rfl ?_
      refine Runs.ifY (t := 129) i28_121 (by decide) (feq (by decide : ¬ ((1 : Int32) = (0 : Int32)))).2 ?_
      refine Runs.aloadN i28_129 rfl rfl ?_
      refine Runs.iload i28_130 rfl ?_
      refine Runs.iinc (z := (Int32.ofNat (xs.length + 1))) (ls' := #[vr u, vi (Int32.ofNat (sp + 1)), vi (Int32.ofNat n), vr t, vi (Int32.ofNat (xs.length + 1)), vi 1, vi e, .unset, .unset, .unset, .unset]) i28_132 rfl (own_add (a := xs.length) (b := 1) (by omega)) rfl ?_
      refine Runs.ldcI i28_135 (w186 hw) ?_
      refine Runs.callSW (argsL := [(.ref t), (.int (Int32.ofNat xs.length)), (.int 65533)]) (rest := []) (W := 0) i28_137 (w164 hw) (w165 hw) (w82 hw) (w166 hw) (by decide) pd_5 rfl rfl rfl rfl (by decide) (by decide) (by decide) (by decide) (allS (mi 0 rfl) all0) (by decide) (own_upc l Z a0 hw n0 t k n xs _ T (65533 : Int32) hx (by omega) gt S_A S_H S_L) ?_
      intro v h_15 D1 q hsz
      obtain ⟨rfl, K_13, A_14, rfl⟩ := q
      show Runs _ _ _ _ _ _ _ _ _ _ _ _ [t] h_15 0 0 140 #[vr u, vi (Int32.ofNat (sp + 1)), vi (Int32.ofNat n), vr t, vi (Int32.ofNat (xs.length + 1)), vi 1, vi e, .unset, .unset, .unset, .unset] []
      refine Runs.goto (t := 621) i28_140 (by decide) ?_
      refine Runs.iload i28_621 rfl ?_
      refine Runs.weak (D1 := []) (fun _ q => nomatch q) ?_
      exact Runs.retI (z := Int32.ofNat (xs.length + 1)) i28_623 rfl (Or.inl rfl) rfl (by decide) (by decide) ⟨by rw [List.length_append]; rfl, K.trans K_13 (allS (Or.inl (mi 0 rfl)) all0), A_14, rfl⟩
  · refine Runs.icY (t := 143) i28_39 (by decide) (feq hc39).2 ?_
    refine Runs.iload i28_143 rfl ?_
    refine Runs.iconst (v := (4 : Int32)) i28_145 (by decide) ?_
    refine Runs.ishr (z := (e >>> ((4 : Int32) &&& 31))) i28_146 rfl ?_
    refine Runs.bipush (v := (-2 : Int32)) i28_147 (by decide) ?_
    by_cases hc149 : (e >>> ((4 : Int32) &&& 31)) = (-2 : Int32)
    · refine Runs.icN i28_149 (teq hc149).2 ?_
      refine Runs.iloadN i28_152 rfl ?_
      refine Runs.iconst (v := (1 : Int32)) i28_153 (by decide) ?_
      refine Runs.iadd (z := (Int32.ofNat ((sp + 1) + 1))) i28_154 (own_add (a := (sp + 1)) (b := 1) (by omega)) ?_
      refine Runs.iloadN i28_155 rfl ?_
      refine Runs.icY (t := 283) i28_156 (by decide) (flt (own_nlt (a := ((sp + 1) + 1)) (b := n) (by omega) (by omega))).2.1 ?_
      refine Runs.iloadN i28_283 rfl ?_
      refine Runs.iloadN i28_284 rfl ?_
      refine Runs.icY (t := 325) i28_285 (by decide) (flt (own_nlt (a := (sp + 1)) (b := n) (by omega) (by omega))).2.1 ?_
      refine Runs.iload i28_325 rfl ?_
      refine Runs.ifY (t := 335) i28_327 (by decide) (feq (by decide : ¬ ((1 : Int32) = (0 : Int32)))).2 ?_
      refine Runs.aloadN i28_335 rfl rfl ?_
      refine Runs.iload i28_336 rfl ?_
      refine Runs.iinc (z := (Int32.ofNat (xs.length + 1))) (ls' := #[vr u, vi (Int32.ofNat (sp + 1)), vi (Int32.ofNat n), vr t, vi (Int32.ofNat (xs.length + 1)), vi 1, vi e, .unset, .unset, .unset, .unset]) i28_338 rfl (own_add (a := xs.length) (b := 1) (by omega)) rfl ?_
      refine Runs.ldcI i28_341 (w186 hw) ?_
      refine Runs.callSW (argsL := [(.ref t), (.int (Int32.ofNat xs.length)), (.int 65533)]) (rest := []) (W := 0) i28_343 (w164 hw) (w165 hw) (w82 hw) (w166 hw) (by decide) pd_5 rfl rfl rfl rfl (by decide) (by decide) (by decide) (by decide) (allS (mi 0 rfl) all0) (by decide) (own_upc l Z a0 hw n0 t k n xs _ T (65533 : Int32) hx (by omega) gt S_A S_H S_L) ?_
      intro v h_18 D1 q hsz
      obtain ⟨rfl, K_16, A_17, rfl⟩ := q
      show Runs _ _ _ _ _ _ _ _ _ _ _ _ [t] h_18 0 0 346 #[vr u, vi (Int32.ofNat (sp + 1)), vi (Int32.ofNat n), vr t, vi (Int32.ofNat (xs.length + 1)), vi 1, vi e, .unset, .unset, .unset, .unset] []
      refine Runs.goto (t := 621) i28_346 (by decide) ?_
      refine Runs.iload i28_621 rfl ?_
      refine Runs.weak (D1 := []) (fun _ q => nomatch q) ?_
      exact Runs.retI (z := Int32.ofNat (xs.length + 1)) i28_623 rfl (Or.inl rfl) rfl (by decide) (by decide) ⟨by rw [List.length_append]; rfl, K.trans K_16 (allS (Or.inl (mi 0 rfl)) all0), A_17, rfl⟩
    · refine Runs.icY (t := 349) i28_149 (by decide) (feq hc149).2 ?_
      refine Runs.iload i28_349 rfl ?_
      refine Runs.iconst (v := (3 : Int32)) i28_351 (by decide) ?_
      refine Runs.ishr (z := (e >>> ((3 : Int32) &&& 31))) i28_352 rfl ?_
      refine Runs.bipush (v := (-2 : Int32)) i28_353 (by decide) ?_
      by_cases hc355 : (e >>> ((3 : Int32) &&& 31)) = (-2 : Int32)
      · refine Runs.icN i28_355 (teq hc355).2 ?_
        refine Runs.iloadN i28_358 rfl ?_
        refine Runs.iconst (v := (2 : Int32)) i28_359 (by decide) ?_
        refine Runs.iadd (z := (Int32.ofNat ((sp + 1) + 2))) i28_360 (own_add (a := (sp + 1)) (b := 2) (by omega)) ?_
        refine Runs.iloadN i28_361 rfl ?_
        refine Runs.icY (t := 490) i28_362 (by decide) (flt (own_nlt (a := ((sp + 1) + 2)) (b := n) (by omega) (by omega))).2.1 ?_
        refine Runs.iload i28_490 rfl ?_
        refine Runs.sipush (v := (255 : Int32)) i28_492 (by decide) ?_
        refine Runs.iand (z := (e &&& (255 : Int32))) i28_495 rfl ?_
        refine Runs.istore (ls' := #[vr u, vi (Int32.ofNat (sp + 1)), vi (Int32.ofNat n), vr t, vi (Int32.ofNat xs.length), vi 1, vi (e &&& (255 : Int32)), .unset, .unset, .unset, .unset]) i28_496 rfl ?_
        refine Runs.iload i28_498 rfl ?_
        refine Runs.sipush (v := (244 : Int32)) i28_500 (by decide) ?_
        by_cases hc503 : (244 : Int32) < (e &&& (255 : Int32))
        · refine Runs.icY (t := 526) i28_503 (by decide) (tlt hc503).2.2.1 ?_
          refine Runs.iload i28_526 rfl ?_
          refine Runs.ifY (t := 538) i28_528 (by decide) (feq (by decide : ¬ ((1 : Int32) = (0 : Int32)))).2 ?_
          refine Runs.aloadN i28_538 rfl rfl ?_
          refine Runs.iload i28_539 rfl ?_
          refine Runs.iinc (z := (Int32.ofNat (xs.length + 1))) (ls' := #[vr u, vi (Int32.ofNat (sp + 1)), vi (Int32.ofNat n), vr t, vi (Int32.ofNat (xs.length + 1)), vi 1, vi (e &&& (255 : Int32)), .unset, .unset, .unset, .unset]) i28_541 rfl (own_add (a := xs.length) (b := 1) (by omega)) rfl ?_
          refine Runs.ldcI i28_544 (w186 hw) ?_
          refine Runs.callSW (argsL := [(.ref t), (.int (Int32.ofNat xs.length)), (.int 65533)]) (rest := []) (W := 0) i28_546 (w164 hw) (w165 hw) (w82 hw) (w166 hw) (by decide) pd_5 rfl rfl rfl rfl (by decide) (by decide) (by decide) (by decide) (allS (mi 0 rfl) all0) (by decide) (own_upc l Z a0 hw n0 t k n xs _ T (65533 : Int32) hx (by omega) gt S_A S_H S_L) ?_
          intro v h_21 D1 q hsz
          obtain ⟨rfl, K_19, A_20, rfl⟩ := q
          show Runs _ _ _ _ _ _ _ _ _ _ _ _ [t] h_21 0 0 549 #[vr u, vi (Int32.ofNat (sp + 1)), vi (Int32.ofNat n), vr t, vi (Int32.ofNat (xs.length + 1)), vi 1, vi (e &&& (255 : Int32)), .unset, .unset, .unset, .unset] []
          refine Runs.goto (t := 0) i28_549 (by decide) ?_
          refine Runs.iloadN i28_0 rfl ?_
          refine Runs.iloadN i28_1 rfl ?_
          refine Runs.icY (t := 621) i28_2 (by decide) (flt (own_nlt (a := (sp + 1)) (b := n) (by omega) (by omega))).2.1 ?_
          refine Runs.iload i28_621 rfl ?_
          refine Runs.weak (D1 := []) (fun _ q => nomatch q) ?_
          exact Runs.retI (z := Int32.ofNat (xs.length + 1)) i28_623 rfl (Or.inl rfl) rfl (by decide) (by decide) ⟨by rw [List.length_append]; rfl, K.trans K_19 (allS (Or.inl (mi 0 rfl)) all0), A_20, rfl⟩
        · refine Runs.icN i28_503 (flt hc503).2.2.1 ?_
          refine Runs.iloadN i28_506 rfl ?_
          refine Runs.iloadN i28_507 rfl ?_
          refine Runs.icY (t := 552) i28_508 (by decide) (flt (own_nlt (a := (sp + 1)) (b := n) (by omega) (by omega))).2.1 ?_
          refine Runs.iload i28_552 rfl ?_
          refine Runs.ifY (t := 564) i28_554 (by decide) (feq (by decide : ¬ ((1 : Int32) = (0 : Int32)))).2 ?_
          refine Runs.iinc (z := (Int32.ofNat ((sp + 1) + 1))) (ls' := #[vr u, vi (Int32.ofNat ((sp + 1) + 1)), vi (Int32.ofNat n), vr t, vi (Int32.ofNat xs.length), vi 1, vi (e &&& (255 : Int32)), .unset, .unset, .unset, .unset]) i28_564 rfl (own_add (a := (sp + 1)) (b := 1) (by omega)) rfl ?_
          refine Runs.aloadN i28_567 rfl rfl ?_
          refine Runs.iload i28_568 rfl ?_
          refine Runs.iinc (z := (Int32.ofNat (xs.length + 1))) (ls' := #[vr u, vi (Int32.ofNat ((sp + 1) + 1)), vi (Int32.ofNat n), vr t, vi (Int32.ofNat (xs.length + 1)), vi 1, vi (e &&& (255 : Int32)), .unset, .unset, .unset, .unset]) i28_570 rfl (own_add (a := xs.length) (b := 1) (by omega)) rfl ?_
          refine Runs.ldcI i28_573 (w186 hw) ?_
          refine Runs.callSW (argsL := [(.ref t), (.int (Int32.ofNat xs.length)), (.int 65533)]) (rest := []) (W := 0) i28_575 (w164 hw) (w165 hw) (w82 hw) (w166 hw) (by decide) pd_5 rfl rfl rfl rfl (by decide) (by decide) (by decide) (by decide) (allS (mi 0 rfl) all0) (by decide) (own_upc l Z a0 hw n0 t k n xs _ T (65533 : Int32) hx (by omega) gt S_A S_H S_L) ?_
          intro v h_24 D1 q hsz
          obtain ⟨rfl, K_22, A_23, rfl⟩ := q
          show Runs _ _ _ _ _ _ _ _ _ _ _ _ [t] h_24 0 0 578 #[vr u, vi (Int32.ofNat ((sp + 1) + 1)), vi (Int32.ofNat n), vr t, vi (Int32.ofNat (xs.length + 1)), vi 1, vi (e &&& (255 : Int32)), .unset, .unset, .unset, .unset] []
          refine Runs.iloadN i28_578 rfl ?_
          refine Runs.iloadN i28_579 rfl ?_
          refine Runs.icY (t := 621) i28_580 (by decide) (flt (own_nlt (a := ((sp + 1) + 1)) (b := n) (by omega) (by omega))).2.1 ?_
          refine Runs.iload i28_621 rfl ?_
          refine Runs.weak (D1 := []) (fun _ q => nomatch q) ?_
          exact Runs.retI (z := Int32.ofNat (xs.length + 1)) i28_623 rfl (Or.inl rfl) rfl (by decide) (by decide) ⟨by rw [List.length_append]; rfl, K.trans K_22 (allS (Or.inl (mi 0 rfl)) all0), A_23, rfl⟩
      · refine Runs.icY (t := 595) i28_355 (by decide) (feq hc355).2 ?_
        refine Runs.iload i28_595 rfl ?_
        refine Runs.ifY (t := 607) i28_597 (by decide) (feq (by decide : ¬ ((1 : Int32) = (0 : Int32)))).2 ?_
        refine Runs.aloadN i28_607 rfl rfl ?_
        refine Runs.iload i28_608 rfl ?_
        refine Runs.iinc (z := (Int32.ofNat (xs.length + 1))) (ls' := #[vr u, vi (Int32.ofNat (sp + 1)), vi (Int32.ofNat n), vr t, vi (Int32.ofNat (xs.length + 1)), vi 1, vi e, .unset, .unset, .unset, .unset]) i28_610 rfl (own_add (a := xs.length) (b := 1) (by omega)) rfl ?_
        refine Runs.ldcI i28_613 (w186 hw) ?_
        refine Runs.callSW (argsL := [(.ref t), (.int (Int32.ofNat xs.length)), (.int 65533)]) (rest := []) (W := 0) i28_615 (w164 hw) (w165 hw) (w82 hw) (w166 hw) (by decide) pd_5 rfl rfl rfl rfl (by decide) (by decide) (by decide) (by decide) (allS (mi 0 rfl) all0) (by decide) (own_upc l Z a0 hw n0 t k n xs _ T (65533 : Int32) hx (by omega) gt S_A S_H S_L) ?_
        intro v h_27 D1 q hsz
        obtain ⟨rfl, K_25, A_26, rfl⟩ := q
        show Runs _ _ _ _ _ _ _ _ _ _ _ _ [t] h_27 0 0 618 #[vr u, vi (Int32.ofNat (sp + 1)), vi (Int32.ofNat n), vr t, vi (Int32.ofNat (xs.length + 1)), vi 1, vi e, .unset, .unset, .unset, .unset] []
        refine Runs.goto (t := 0) i28_618 (by decide) ?_
        refine Runs.iloadN i28_0 rfl ?_
        refine Runs.iloadN i28_1 rfl ?_
        refine Runs.icY (t := 621) i28_2 (by decide) (flt (own_nlt (a := (sp + 1)) (b := n) (by omega) (by omega))).2.1 ?_
        refine Runs.iload i28_621 rfl ?_
        refine Runs.weak (D1 := []) (fun _ q => nomatch q) ?_
        exact Runs.retI (z := Int32.ofNat (xs.length + 1)) i28_623 rfl (Or.inl rfl) rfl (by decide) (by decide) ⟨by rw [List.length_append]; rfl, K.trans K_25 (allS (Or.inl (mi 0 rfl)) all0), A_26, rfl⟩
theorem own_dng (l : Launch) (Z : State) (a0 : Array Value) (hw : Wds Z a0) (n0 : Nat) (u t : Addr) (ku k : ClassId) (vs : List Value) (n : Nat) (hut : u ≠ t) (hn : n < 1000) (h0 : Heap) (U0 : Arv Z h0 u ku .byte (Int32.ofNat n) vs (.int 0)) (gt : n0 ≤ t) (S_A : SA Z) (S_H : SH Z) (S_L : SL Z) (xs : List Int32) (sp : Nat) (hx : xs.length < n) (hsp : sp + 1 = n) (e : Int32) (he : e < 0) (hb : vs.getD sp (.int 0) = .int e) (T0 : Arv Z h0 t k .byte (Int32.ofNat (2 * n)) (own_ws xs) (.int 0)) : Con 1 l Z [("java/lang/String", 7)] n0 (⟨"java/lang/String", "decodeUTF8_UTF16", "([BII[BIZ)I"⟩ : MethodName) c28_ 11 (some .int) ({ frames := 1, cells := 0, slots := 0, locals := 40 } : Room) #[(.ref u), (.int (Int32.ofNat sp)), (.int (Int32.ofNat n)), (.ref t), (.int (Int32.ofNat xs.length)), (.int 1)] [t] h0 (fun v h D' => v = some (.int (Int32.ofNat (xs ++ [65533]).length)) ∧ Keep h0 h [t] ∧ Arv Z h t k .byte (Int32.ofNat (2 * n)) (own_ws (xs ++ [65533])) (.int 0) ∧ D' = []) := by
  refine Con.of_runs (ls := #[vr u, vi (Int32.ofNat sp), vi (Int32.ofNat n), vr t, vi (Int32.ofNat xs.length), vi 1, .unset, .unset, .unset, .unset, .unset]) (by decide +kernel) (fun m => by simp [entryFrame, mkF, argsToLocals, Value.category]) ?_
  exact own_dt0g l Z a0 hw n0 u t ku k vs n hut hn h0 U0 gt S_A S_H S_L xs sp hx hsp e he hb h0 (Keep.refl _ _) T0
theorem own_dk2 (l : Launch) (Z : State) (a0 : Array Value) (hw : Wds Z a0) (n0 : Nat) (u t : Addr) (ku k : ClassId) (vs : List Value) (n : Nat) (hut : u ≠ t) (hn : n < 1000) (h0 : Heap) (U0 : Arv Z h0 u ku .byte (Int32.ofNat n) vs (.int 0)) (gt : n0 ≤ t) (S_A : SA Z) (S_H : SH Z) (S_L : SL Z) (hc : 2 ≤ n) (N : Nat) (hN : 128 ≤ N ∧ N < 2048) (hv0 : vs.getD 0 (.int 0) = .int (own_8 ((192 : Int32) ||| (Int32.ofNat (N / 64))))) (hv1 : vs.getD 1 (.int 0) = .int (own_8 ((128 : Int32) ||| (Int32.ofNat (N % 64))))) (T0 : Arv Z h0 t k .byte (Int32.ofNat (2 * n)) (own_ws []) (.int 0)) (Q : Option Value → Heap → List Addr → Prop) (Kc : ∀ h : Heap, Keep h0 h [t] → Arv Z h t k .byte (Int32.ofNat (2 * n)) (own_ws [(Int32.ofNat N)]) (.int 0) → Runs 1 l Z [("java/lang/String", 7)] n0 "java/lang/String" "decodeUTF8_UTF16" c28_ 11 (some .int) ({ frames := 1, cells := 0, slots := 0, locals := 40 } : Room) Q [t] h 0 0 0 #[vr u, vi 2, vi (Int32.ofNat n), vr t, vi 1, vi 1, vi (own_8 ((192 : Int32) ||| (Int32.ofNat (N / 64)))), vi (own_8 ((128 : Int32) ||| (Int32.ofNat (N % 64)))), .unset, .unset, .unset] []) : Runs 1 l Z [("java/lang/String", 7)] n0 "java/lang/String" "decodeUTF8_UTF16" c28_ 11 (some .int) ({ frames := 1, cells := 0, slots := 0, locals := 40 } : Room) Q [t] h0 0 0 0 #[vr u, vi 0, vi (Int32.ofNat n), vr t, vi 0, vi 1, .unset, .unset, .unset, .unset, .unset] [] := by
  refine Runs.iloadN i28_0 rfl ?_
  refine Runs.iloadN i28_1 rfl ?_
  refine Runs.icN i28_2 (tlt (own_lt (a := 0) (b := n) (by omega) (by omega))).2.1 ?_
  refine Runs.aloadN i28_5 rfl rfl ?_
  refine Runs.iloadN i28_6 rfl ?_
  refine Runs.iinc (z := (1 : Int32)) (ls' := #[vr u, vi 1, vi (Int32.ofNat n), vr t, vi 0, vi 1, .unset, .unset, .unset, .unset, .unset]) i28_7 rfl (by decide) rfl ?_
  refine Runs.baload (v := .int (own_8 ((192 : Int32) ||| (Int32.ofNat (N / 64))))) i28_10 U0 ⟨by decide, own_lt (a := 0) (b := n) (by omega) (by omega)⟩ hv0 ?_
  refine Runs.istore (ls' := #[vr u, vi 1, vi (Int32.ofNat n), vr t, vi 0, vi 1, vi (own_8 ((192 : Int32) ||| (Int32.ofNat (N / 64)))), .unset, .unset, .unset, .unset]) i28_11 rfl ?_
  refine Runs.iload i28_13 rfl ?_
  refine Runs.ifY (t := 33) i28_15 (by decide) (tlt (own_f2 (N / 64) (by omega) (by omega)).1).1 ?_
  refine Runs.iload i28_33 rfl ?_
  refine Runs.iconst (v := (5 : Int32)) i28_35 (by decide) ?_
  refine Runs.ishr (z := ((own_8 ((192 : Int32) ||| (Int32.ofNat (N / 64)))) >>> ((5 : Int32) &&& 31))) i28_36 rfl ?_
  refine Runs.bipush (v := (-2 : Int32)) i28_37 (by decide) ?_
  refine Runs.icN i28_39 (teq (own_f2 (N / 64) (by omega) (by omega)).2.1).2 ?_
  refine Runs.iload i28_42 rfl ?_
  refine Runs.bipush (v := (30 : Int32)) i28_44 (by decide) ?_
  refine Runs.iand (z := ((own_8 ((192 : Int32) ||| (Int32.ofNat (N / 64)))) &&& (30 : Int32))) i28_46 rfl ?_
  refine Runs.ifN i28_47 (feq (own_f2 (N / 64) (by omega) (by omega)).2.2.1).1 ?_
  refine Runs.iloadN i28_50 rfl ?_
  refine Runs.iloadN i28_51 rfl ?_
  refine Runs.icN i28_52 (tlt (own_lt (a := 1) (b := n) (by omega) (by omega))).2.1 ?_
  refine Runs.aloadN i28_55 rfl rfl ?_
  refine Runs.iloadN i28_56 rfl ?_
  refine Runs.iinc (z := (2 : Int32)) (ls' := #[vr u, vi 2, vi (Int32.ofNat n), vr t, vi 0, vi 1, vi (own_8 ((192 : Int32) ||| (Int32.ofNat (N / 64)))), .unset, .unset, .unset, .unset]) i28_57 rfl (by decide) rfl ?_
  refine Runs.baload (v := .int (own_8 ((128 : Int32) ||| (Int32.ofNat (N % 64))))) i28_60 U0 ⟨by decide, own_lt (a := 1) (b := n) (by omega) (by omega)⟩ hv1 ?_
  refine Runs.istore (ls' := #[vr u, vi 2, vi (Int32.ofNat n), vr t, vi 0, vi 1, vi (own_8 ((192 : Int32) ||| (Int32.ofNat (N / 64)))), vi (own_8 ((128 : Int32) ||| (Int32.ofNat (N % 64)))), .unset, .unset, .unset]) i28_61 rfl ?_
  refine Runs.iload i28_63 rfl ?_
  refine Runs.callSW (argsL := [(.int (own_8 ((128 : Int32) ||| (Int32.ofNat (N % 64)))))]) (rest := []) (W := 0) i28_65 (w187 hw) (w188 hw) (w32 hw) (w189 hw) (by decide) pd_8 rfl rfl rfl rfl (by decide) (by decide) (by decide) (by decide) all0 (by decide) (own_inc l Z a0 hw n0 (own_8 ((128 : Int32) ||| (Int32.ofNat (N % 64)))) (own_fc _ (show N % 64 < 64 by omega)).1 _) ?_
  intro v h1 D1 q hsz
  obtain ⟨rfl, rfl, rfl⟩ := q
  show Runs _ _ _ _ _ _ _ _ _ _ _ _ [t] h0 0 0 68 #[vr u, vi 2, vi (Int32.ofNat n), vr t, vi 0, vi 1, vi (own_8 ((192 : Int32) ||| (Int32.ofNat (N / 64)))), vi (own_8 ((128 : Int32) ||| (Int32.ofNat (N % 64)))), .unset, .unset, .unset] [(.int 0)]
  refine Runs.ifY (t := 100) i28_68 (by decide) (teq (by decide : (0 : Int32) = (0 : Int32))).1 ?_
  refine Runs.aloadN i28_100 rfl rfl ?_
  refine Runs.iload i28_101 rfl ?_
  refine Runs.iinc (z := (1 : Int32)) (ls' := #[vr u, vi 2, vi (Int32.ofNat n), vr t, vi 1, vi 1, vi (own_8 ((192 : Int32) ||| (Int32.ofNat (N / 64)))), vi (own_8 ((128 : Int32) ||| (Int32.ofNat (N % 64)))), .unset, .unset, .unset]) i28_103 rfl (by decide) rfl ?_
  refine Runs.iload i28_106 rfl ?_
  refine Runs.iload i28_108 rfl ?_
  refine Runs.callSW (argsL := [(.int (own_8 ((192 : Int32) ||| (Int32.ofNat (N / 64))))), (.int (own_8 ((128 : Int32) ||| (Int32.ofNat (N % 64)))))]) (rest := [(.int 0), (.ref t)]) (W := 2) i28_110 (w101 hw) (w102 hw) (w32 hw) (w103 hw) (by decide) pd_9 rfl rfl rfl rfl (by decide) (by decide) (by decide) (by decide) all0 (by decide) (own_dd2 l Z a0 hw n0 (own_8 ((192 : Int32) ||| (Int32.ofNat (N / 64)))) (own_8 ((128 : Int32) ||| (Int32.ofNat (N % 64)))) (Int32.ofNat N) ((own_dc2 _ (by omega) _ (by omega)).trans (congrArg Int32.ofNat (by omega))) (own_chN (by omega)) _) ?_
  intro v h1 D1 q hsz
  obtain ⟨rfl, rfl, rfl⟩ := q
  show Runs _ _ _ _ _ _ _ _ _ _ _ _ [t] h0 0 0 113 #[vr u, vi 2, vi (Int32.ofNat n), vr t, vi 1, vi 1, vi (own_8 ((192 : Int32) ||| (Int32.ofNat (N / 64)))), vi (own_8 ((128 : Int32) ||| (Int32.ofNat (N % 64)))), .unset, .unset, .unset] [(.int (Int32.ofNat N)), (.int 0), (.ref t)]
  refine Runs.callSW (argsL := [(.ref t), (.int 0), (.int (Int32.ofNat N))]) (rest := []) (W := 0) i28_113 (w164 hw) (w165 hw) (w82 hw) (w166 hw) (by decide) pd_5 rfl rfl rfl rfl (by decide) (by decide) (by decide) (by decide) (allS (mi 0 rfl) all0) (by decide) (own_upc l Z a0 hw n0 t k n ([] : List Int32) _ T0 (Int32.ofNat N) (by show 0 < n; omega) (by omega) gt S_A S_H S_L) ?_
  intro v h_4 D1 q hsz
  obtain ⟨rfl, K_1, A_2, rfl⟩ := q
  show Runs _ _ _ _ _ _ _ _ _ _ _ _ [t] h_4 0 0 116 #[vr u, vi 2, vi (Int32.ofNat n), vr t, vi 1, vi 1, vi (own_8 ((192 : Int32) ||| (Int32.ofNat (N / 64)))), vi (own_8 ((128 : Int32) ||| (Int32.ofNat (N % 64)))), .unset, .unset, .unset] []
  have A_3 : Arv Z h_4 t k .byte (Int32.ofNat (2 * n)) (own_ws [(Int32.ofNat N)]) (.int 0) := A_2
  refine Runs.goto (t := 0) i28_116 (by decide) ?_
  exact Kc _ K_1 A_3
theorem own_dt1n (l : Launch) (Z : State) (a0 : Array Value) (hw : Wds Z a0) (n0 : Nat) (u t : Addr) (ku k : ClassId) (vs : List Value) (n : Nat) (hut : u ≠ t) (hn : n < 1000) (h0 : Heap) (U0 : Arv Z h0 u ku .byte (Int32.ofNat n) vs (.int 0)) (gt : n0 ≤ t) (S_A : SA Z) (S_H : SH Z) (S_L : SL Z) (xs : List Int32) (sp : Nat) (hx : xs.length ≤ n) (hsp : sp = n) (h : Heap) (K : Keep h0 h [t]) (T : Arv Z h t k .byte (Int32.ofNat (2 * n)) (own_ws xs) (.int 0)) (x6 : Int32) (q7 q8 q9 q10 : Slot) : Runs 1 l Z [("java/lang/String", 7)] n0 "java/lang/String" "decodeUTF8_UTF16" c28_ 11 (some .int) ({ frames := 1, cells := 0, slots := 0, locals := 40 } : Room) (fun v h D' => v = some (.int (Int32.ofNat xs.length)) ∧ Keep h0 h [t] ∧ Arv Z h t k .byte (Int32.ofNat (2 * n)) (own_ws xs) (.int 0) ∧ D' = []) [t] h 0 0 0 #[vr u, vi (Int32.ofNat sp), vi (Int32.ofNat n), vr t, vi (Int32.ofNat xs.length), vi 1, vi x6, q7, q8, q9, q10] [] := by
  refine Runs.iloadN i28_0 rfl ?_
  refine Runs.iloadN i28_1 rfl ?_
  refine Runs.icY (t := 621) i28_2 (by decide) (flt (own_nlt (a := sp) (b := n) (by omega) (by omega))).2.1 ?_
  refine Runs.iload i28_621 rfl ?_
  refine Runs.weak (D1 := []) (fun _ q => nomatch q) ?_
  exact Runs.retI (z := Int32.ofNat xs.length) i28_623 rfl (Or.inl rfl) rfl (by decide) (by decide) ⟨rfl, K, T, rfl⟩
theorem own_dh2n (l : Launch) (Z : State) (a0 : Array Value) (hw : Wds Z a0) (n0 : Nat) (u t : Addr) (ku k : ClassId) (vs : List Value) (hut : u ≠ t) (h0 : Heap) (U0 : Arv Z h0 u ku .byte (Int32.ofNat 2) vs (.int 0)) (gt : n0 ≤ t) (S_A : SA Z) (S_H : SH Z) (S_L : SL Z) (N : Nat) (hN : 128 ≤ N ∧ N < 2048) (hv0 : vs.getD 0 (.int 0) = .int (own_8 ((192 : Int32) ||| (Int32.ofNat (N / 64))))) (hv1 : vs.getD 1 (.int 0) = .int (own_8 ((128 : Int32) ||| (Int32.ofNat (N % 64)))))  (T0 : Arv Z h0 t k .byte (Int32.ofNat (2 * 2)) (own_ws []) (.int 0)) : Con 1 l Z [("java/lang/String", 7)] n0 (⟨"java/lang/String", "decodeUTF8_UTF16", "([BII[BIZ)I"⟩ : MethodName) c28_ 11 (some .int) ({ frames := 1, cells := 0, slots := 0, locals := 40 } : Room) #[(.ref u), (.int 0), (.int 2), (.ref t), (.int 0), (.int 1)] [t] h0 (fun v h D' => v = some (.int (Int32.ofNat [(Int32.ofNat N)].length)) ∧ Keep h0 h [t] ∧ Arv Z h t k .byte (Int32.ofNat (2 * 2)) (own_ws [(Int32.ofNat N)]) (.int 0) ∧ D' = []) := by
  refine Con.of_runs (ls := #[vr u, vi 0, vi 2, vr t, vi 0, vi 1, .unset, .unset, .unset, .unset, .unset]) (by decide +kernel) (fun m => by simp [entryFrame, mkF, argsToLocals, Value.category]) ?_
  exact own_dk2 l Z a0 hw n0 u t ku k vs 2 hut (by decide) h0 U0 gt S_A S_H S_L (by decide) N hN hv0 hv1 T0 _ (fun h K T => own_dt1n l Z a0 hw n0 u t ku k vs 2 hut (by decide) h0 U0 gt S_A S_H S_L [(Int32.ofNat N)] 2 (by simp) rfl h K T (own_8 ((192 : Int32) ||| (Int32.ofNat (N / 64)))) (vi (own_8 ((128 : Int32) ||| (Int32.ofNat (N % 64))))) (.unset) (.unset) (.unset))
theorem own_dt1p (l : Launch) (Z : State) (a0 : Array Value) (hw : Wds Z a0) (n0 : Nat) (u t : Addr) (ku k : ClassId) (vs : List Value) (n : Nat) (hut : u ≠ t) (hn : n < 1000) (h0 : Heap) (U0 : Arv Z h0 u ku .byte (Int32.ofNat n) vs (.int 0)) (gt : n0 ≤ t) (S_A : SA Z) (S_H : SH Z) (S_L : SL Z) (xs : List Int32) (sp : Nat) (hx : xs.length < n) (hsp : sp + 1 = n) (B : Nat) (hB : B < 128) (hb : vs.getD sp (.int 0) = .int (Int32.ofNat B)) (h : Heap) (K : Keep h0 h [t]) (T : Arv Z h t k .byte (Int32.ofNat (2 * n)) (own_ws xs) (.int 0)) (x6 : Int32) (q7 q8 q9 q10 : Slot) : Runs 1 l Z [("java/lang/String", 7)] n0 "java/lang/String" "decodeUTF8_UTF16" c28_ 11 (some .int) ({ frames := 1, cells := 0, slots := 0, locals := 40 } : Room) (fun v h D' => v = some (.int (Int32.ofNat (xs ++ [Int32.ofNat B]).length)) ∧ Keep h0 h [t] ∧ Arv Z h t k .byte (Int32.ofNat (2 * n)) (own_ws (xs ++ [Int32.ofNat B])) (.int 0) ∧ D' = []) [t] h 0 0 0 #[vr u, vi (Int32.ofNat sp), vi (Int32.ofNat n), vr t, vi (Int32.ofNat xs.length), vi 1, vi x6, q7, q8, q9, q10] [] := by
  refine Runs.iloadN i28_0 rfl ?_
  refine Runs.iloadN i28_1 rfl ?_
  refine Runs.icN i28_2 (tlt (own_lt (a := sp) (b := n) (by omega) (by omega))).2.1 ?_
  refine Runs.aloadN i28_5 rfl rfl ?_
  refine Runs.iloadN i28_6 rfl ?_
  refine Runs.iinc (z := (Int32.ofNat (sp + 1))) (ls' := #[vr u, vi (Int32.ofNat (sp + 1)), vi (Int32.ofNat n), vr t, vi (Int32.ofNat xs.length), vi 1, vi x6, q7, q8, q9, q10]) i28_7 rfl (own_add (a := sp) (b := 1) (by omega)) rfl ?_
  refine Runs.baload (v := .int (Int32.ofNat B)) i28_10 (U0.keep K (ninS hut nin0)) ⟨own_nn (by omega), own_lt (by omega) (by omega)⟩ (by rw [own_cl (by omega)]; exact hb) ?_
  refine Runs.istore (ls' := #[vr u, vi (Int32.ofNat (sp + 1)), vi (Int32.ofNat n), vr t, vi (Int32.ofNat xs.length), vi 1, vi (Int32.ofNat B), q7, q8, q9, q10]) i28_11 rfl ?_
  refine Runs.iload i28_13 rfl ?_
  refine Runs.ifN i28_15 (flt (own_nn (by omega))).1 ?_
  refine Runs.aloadN i28_18 rfl rfl ?_
  refine Runs.iload i28_19 rfl ?_
  refine Runs.iinc (z := (Int32.ofNat (xs.length + 1))) (ls' := #[vr u, vi (Int32.ofNat (sp + 1)), vi (Int32.ofNat n), vr t, vi (Int32.ofNat (xs.length + 1)), vi 1, vi (Int32.ofNat B), q7, q8, q9, q10]) i28_21 rfl (own_add (a := xs.length) (b := 1) (by omega)) rfl ?_
  refine Runs.iload i28_24 rfl ?_
  refine Runs.i2c (z := Int32.ofNat B) i28_26 (own_ccN (by omega)) ?_
  refine Runs.callSW (argsL := [(.ref t), (.int (Int32.ofNat xs.length)), (.int (Int32.ofNat B))]) (rest := []) (W := 0) i28_27 (w164 hw) (w165 hw) (w82 hw) (w166 hw) (by decide) pd_5 rfl rfl rfl rfl (by decide) (by decide) (by decide) (by decide) (allS (mi 0 rfl) all0) (by decide) (own_upc l Z a0 hw n0 t k n xs _ T (Int32.ofNat B) hx (by omega) gt S_A S_H S_L) ?_
  intro v h_3 D1 q hsz
  obtain ⟨rfl, K_1, A_2, rfl⟩ := q
  show Runs _ _ _ _ _ _ _ _ _ _ _ _ [t] h_3 0 0 30 #[vr u, vi (Int32.ofNat (sp + 1)), vi (Int32.ofNat n), vr t, vi (Int32.ofNat (xs.length + 1)), vi 1, vi (Int32.ofNat B), q7, q8, q9, q10] []
  refine Runs.goto (t := 618) i28_30 (by decide) ?_
  refine Runs.goto (t := 0) i28_618 (by decide) ?_
  refine Runs.iloadN i28_0 rfl ?_
  refine Runs.iloadN i28_1 rfl ?_
  refine Runs.icY (t := 621) i28_2 (by decide) (flt (own_nlt (a := (sp + 1)) (b := n) (by omega) (by omega))).2.1 ?_
  refine Runs.iload i28_621 rfl ?_
  refine Runs.weak (D1 := []) (fun _ q => nomatch q) ?_
  exact Runs.retI (z := Int32.ofNat (xs.length + 1)) i28_623 rfl (Or.inl rfl) rfl (by decide) (by decide) ⟨by rw [List.length_append]; rfl, K.trans K_1 (allS (Or.inl (mi 0 rfl)) all0), A_2, rfl⟩
theorem own_dh2p (l : Launch) (Z : State) (a0 : Array Value) (hw : Wds Z a0) (n0 : Nat) (u t : Addr) (ku k : ClassId) (vs : List Value) (hut : u ≠ t) (h0 : Heap) (U0 : Arv Z h0 u ku .byte (Int32.ofNat 3) vs (.int 0)) (gt : n0 ≤ t) (S_A : SA Z) (S_H : SH Z) (S_L : SL Z) (N : Nat) (hN : 128 ≤ N ∧ N < 2048) (hv0 : vs.getD 0 (.int 0) = .int (own_8 ((192 : Int32) ||| (Int32.ofNat (N / 64))))) (hv1 : vs.getD 1 (.int 0) = .int (own_8 ((128 : Int32) ||| (Int32.ofNat (N % 64))))) (B : Nat) (hB : B < 128) (hb : vs.getD 2 (.int 0) = .int (Int32.ofNat B))  (T0 : Arv Z h0 t k .byte (Int32.ofNat (2 * 3)) (own_ws []) (.int 0)) : Con 1 l Z [("java/lang/String", 7)] n0 (⟨"java/lang/String", "decodeUTF8_UTF16", "([BII[BIZ)I"⟩ : MethodName) c28_ 11 (some .int) ({ frames := 1, cells := 0, slots := 0, locals := 40 } : Room) #[(.ref u), (.int 0), (.int 3), (.ref t), (.int 0), (.int 1)] [t] h0 (fun v h D' => v = some (.int (Int32.ofNat ([(Int32.ofNat N)] ++ [Int32.ofNat B]).length)) ∧ Keep h0 h [t] ∧ Arv Z h t k .byte (Int32.ofNat (2 * 3)) (own_ws ([(Int32.ofNat N)] ++ [Int32.ofNat B])) (.int 0) ∧ D' = []) := by
  refine Con.of_runs (ls := #[vr u, vi 0, vi 3, vr t, vi 0, vi 1, .unset, .unset, .unset, .unset, .unset]) (by decide +kernel) (fun m => by simp [entryFrame, mkF, argsToLocals, Value.category]) ?_
  exact own_dk2 l Z a0 hw n0 u t ku k vs 3 hut (by decide) h0 U0 gt S_A S_H S_L (by decide) N hN hv0 hv1 T0 _ (fun h K T => own_dt1p l Z a0 hw n0 u t ku k vs 3 hut (by decide) h0 U0 gt S_A S_H S_L [(Int32.ofNat N)] 2 (by simp) rfl B hB hb h K T (own_8 ((192 : Int32) ||| (Int32.ofNat (N / 64)))) (vi (own_8 ((128 : Int32) ||| (Int32.ofNat (N % 64))))) (.unset) (.unset) (.unset))
theorem own_dt1g (l : Launch) (Z : State) (a0 : Array Value) (hw : Wds Z a0) (n0 : Nat) (u t : Addr) (ku k : ClassId) (vs : List Value) (n : Nat) (hut : u ≠ t) (hn : n < 1000) (h0 : Heap) (U0 : Arv Z h0 u ku .byte (Int32.ofNat n) vs (.int 0)) (gt : n0 ≤ t) (S_A : SA Z) (S_H : SH Z) (S_L : SL Z) (xs : List Int32) (sp : Nat) (hx : xs.length < n) (hsp : sp + 1 = n) (e : Int32) (he : e < 0) (hb : vs.getD sp (.int 0) = .int e) (h : Heap) (K : Keep h0 h [t]) (T : Arv Z h t k .byte (Int32.ofNat (2 * n)) (own_ws xs) (.int 0)) (x6 : Int32) (q7 q8 q9 q10 : Slot) : Runs 1 l Z [("java/lang/String", 7)] n0 "java/lang/String" "decodeUTF8_UTF16" c28_ 11 (some .int) ({ frames := 1, cells := 0, slots := 0, locals := 40 } : Room) (fun v h D' => v = some (.int (Int32.ofNat (xs ++ [65533]).length)) ∧ Keep h0 h [t] ∧ Arv Z h t k .byte (Int32.ofNat (2 * n)) (own_ws (xs ++ [65533])) (.int 0) ∧ D' = []) [t] h 0 0 0 #[vr u, vi (Int32.ofNat sp), vi (Int32.ofNat n), vr t, vi (Int32.ofNat xs.length), vi 1, vi x6, q7, q8, q9, q10] [] := by
  refine Runs.iloadN i28_0 rfl ?_
  refine Runs.iloadN i28_1 rfl ?_
  refine Runs.icN i28_2 (tlt (own_lt (a := sp) (b := n) (by omega) (by omega))).2.1 ?_
  refine Runs.aloadN i28_5 rfl rfl ?_
  refine Runs.iloadN i28_6 rfl ?_
  refine Runs.iinc (z := (Int32.ofNat (sp + 1))) (ls' := #[vr u, vi (Int32.ofNat (sp + 1)), vi (Int32.ofNat n), vr t, vi (Int32.ofNat xs.length), vi 1, vi x6, q7, q8, q9, q10]) i28_7 rfl (own_add (a := sp) (b := 1) (by omega)) rfl ?_
  refine Runs.baload (v := .int e) i28_10 (U0.keep K (ninS hut nin0)) ⟨own_nn (by omega), own_lt (by omega) (by omega)⟩ (by rw [own_cl (by omega)]; exact hb) ?_
  refine Runs.istore (ls' := #[vr u, vi (Int32.ofNat (sp + 1)), vi (Int32.ofNat n), vr t, vi (Int32.ofNat xs.length), vi 1, vi e, q7, q8, q9, q10]) i28_11 rfl ?_
  refine Runs.iload i28_13 rfl ?_
  refine Runs.ifY (t := 33) i28_15 (by decide) (tlt he).1 ?_
  refine Runs.iload i28_33 rfl ?_
  refine Runs.iconst (v := (5 : Int32)) i28_35 (by decide) ?_
  refine Runs.ishr (z := (e >>> ((5 : Int32) &&& 31))) i28_36 rfl ?_
  refine Runs.bipush (v := (-2 : Int32)) i28_37 (by decide) ?_
  by_cases hc39 : (e >>> ((5 : Int32) &&& 31)) = (-2 : Int32)
  · refine Runs.icN i28_39 (teq hc39).2 ?_
    refine Runs.iload i28_42 rfl ?_
    refine Runs.bipush (v := (30 : Int32)) i28_44 (by decide) ?_
    refine Runs.iand (z := (e &&& (30 : Int32))) i28_46 rfl ?_
    by_cases hc47 : (e &&& (30 : Int32)) = (0 : Int32)
    · refine Runs.ifY (t := 143) i28_47 (by decide) (teq hc47).1 ?_
      refine Runs.iload i28_143 rfl ?_
      refine Runs.iconst (v := (4 : Int32)) i28_145 (by decide) ?_
      refine Runs.ishr (z := (e >>> ((4 : Int32) &&& 31))) i28_146 rfl ?_
      refine Runs.bipush (v := (-2 : Int32)) i28_147 (by decide) ?_
      by_cases hc149 : (e >>> ((4 : Int32) &&& 31)) = (-2 : Int32)
      · refine Runs.icN i28_149 (teq hc149).2 ?_
        refine Runs.iloadN i28_152 rfl ?_
        refine Runs.iconst (v := (1 : Int32)) i28_153 (by decide) ?_
        refine Runs.iadd (z := (Int32.ofNat ((sp + 1) + 1))) i28_154 (own_add (a := (sp + 1)) (b := 1) (by omega)) ?_
        refine Runs.iloadN i28_155 rfl ?_
        refine Runs.icY (t := 283) i28_156 (by decide) (flt (own_nlt (a := ((sp + 1) + 1)) (b := n) (by omega) (by omega))).2.1 ?_
        refine Runs.iloadN i28_283 rfl ?_
        refine Runs.iloadN i28_284 rfl ?_
        refine Runs.icY (t := 325) i28_285 (by decide) (flt (own_nlt (a := (sp + 1)) (b := n) (by omega) (by omega))).2.1 ?_
        refine Runs.iload i28_325 rfl ?_
        refine Runs.ifY (t := 335) i28_327 (by decide) (feq (by decide : ¬ ((1 : Int32) = (0 : Int32)))).2 ?_
        refine Runs.aloadN i28_335 rfl rfl ?_
        refine Runs.iload i28_336 rfl ?_
        refine Runs.iinc (z := (Int32.ofNat (xs.length + 1))) (ls' := #[vr u, vi (Int32.ofNat (sp + 1)), vi (Int32.ofNat n), vr t, vi (Int32.ofNat (xs.length + 1)), vi 1, vi e, q7, q8, q9, q10]) i28_338 rfl (own_add (a := xs.length) (b := 1) (by omega)) rfl ?_
        refine Runs.ldcI i28_341 (w186 hw) ?_
        refine Runs.callSW (argsL := [(.ref t), (.int (Int32.ofNat xs.length)), (.int 65533)]) (rest := []) (W := 0) i28_343 (w164 hw) (w165 hw) (w82 hw) (w166 hw) (by decide) pd_5 rfl rfl rfl rfl (by decide) (by decide) (by decide) (by decide) (allS (mi 0 rfl) all0) (by decide) (own_upc l Z a0 hw n0 t k n xs _ T (65533 : Int32) hx (by omega) gt S_A S_H S_L) ?_
        intro v h_3 D1 q hsz
        obtain ⟨rfl, K_1, A_2, rfl⟩ := q
        show Runs _ _ _ _ _ _ _ _ _ _ _ _ [t] h_3 0 0 346 #[vr u, vi (Int32.ofNat (sp + 1)), vi (Int32.ofNat n), vr t, vi (Int32.ofNat (xs.length + 1)), vi 1, vi e, q7, q8, q9, q10] []
        refine Runs.goto (t := 621) i28_346 (by decide) ?_
        refine Runs.iload i28_621 rfl ?_
        refine Runs.weak (D1 := []) (fun _ q => nomatch q) ?_
        exact Runs.retI (z := Int32.ofNat (xs.length + 1)) i28_623 rfl (Or.inl rfl) rfl (by decide) (by decide) ⟨by rw [List.length_append]; rfl, K.trans K_1 (allS (Or.inl (mi 0 rfl)) all0), A_2, rfl⟩
      · refine Runs.icY (t := 349) i28_149 (by decide) (feq hc149).2 ?_
        refine Runs.iload i28_349 rfl ?_
        refine Runs.iconst (v := (3 : Int32)) i28_351 (by decide) ?_
        refine Runs.ishr (z := (e >>> ((3 : Int32) &&& 31))) i28_352 rfl ?_
        refine Runs.bipush (v := (-2 : Int32)) i28_353 (by decide) ?_
        by_cases hc355 : (e >>> ((3 : Int32) &&& 31)) = (-2 : Int32)
        · refine Runs.icN i28_355 (teq hc355).2 ?_
          refine Runs.iloadN i28_358 rfl ?_
          refine Runs.iconst (v := (2 : Int32)) i28_359 (by decide) ?_
          refine Runs.iadd (z := (Int32.ofNat ((sp + 1) + 2))) i28_360 (own_add (a := (sp + 1)) (b := 2) (by omega)) ?_
          refine Runs.iloadN i28_361 rfl ?_
          refine Runs.icY (t := 490) i28_362 (by decide) (flt (own_nlt (a := ((sp + 1) + 2)) (b := n) (by omega) (by omega))).2.1 ?_
          refine Runs.iload i28_490 rfl ?_
          refine Runs.sipush (v := (255 : Int32)) i28_492 (by decide) ?_
          refine Runs.iand (z := (e &&& (255 : Int32))) i28_495 rfl ?_
          refine Runs.istore (ls' := #[vr u, vi (Int32.ofNat (sp + 1)), vi (Int32.ofNat n), vr t, vi (Int32.ofNat xs.length), vi 1, vi (e &&& (255 : Int32)), q7, q8, q9, q10]) i28_496 rfl ?_
          refine Runs.iload i28_498 rfl ?_
          refine Runs.sipush (v := (244 : Int32)) i28_500 (by decide) ?_
          by_cases hc503 : (244 : Int32) < (e &&& (255 : Int32))
          · refine Runs.icY (t := 526) i28_503 (by decide) (tlt hc503).2.2.1 ?_
            refine Runs.iload i28_526 rfl ?_
            refine Runs.ifY (t := 538) i28_528 (by decide) (feq (by decide : ¬ ((1 : Int32) = (0 : Int32)))).2 ?_
            refine Runs.aloadN i28_538 rfl rfl ?_
            refine Runs.iload i28_539 rfl ?_
            refine Runs.iinc (z := (Int32.ofNat (xs.length + 1))) (ls' := #[vr u, vi (Int32.ofNat (sp + 1)), vi (Int32.ofNat n), vr t, vi (Int32.ofNat (xs.length + 1)), vi 1, vi (e &&& (255 : Int32)), q7, q8, q9, q10]) i28_541 rfl (own_add (a := xs.length) (b := 1) (by omega)) rfl ?_
            refine Runs.ldcI i28_544 (w186 hw) ?_
            refine Runs.callSW (argsL := [(.ref t), (.int (Int32.ofNat xs.length)), (.int 65533)]) (rest := []) (W := 0) i28_546 (w164 hw) (w165 hw) (w82 hw) (w166 hw) (by decide) pd_5 rfl rfl rfl rfl (by decide) (by decide) (by decide) (by decide) (allS (mi 0 rfl) all0) (by decide) (own_upc l Z a0 hw n0 t k n xs _ T (65533 : Int32) hx (by omega) gt S_A S_H S_L) ?_
            intro v h_6 D1 q hsz
            obtain ⟨rfl, K_4, A_5, rfl⟩ := q
            show Runs _ _ _ _ _ _ _ _ _ _ _ _ [t] h_6 0 0 549 #[vr u, vi (Int32.ofNat (sp + 1)), vi (Int32.ofNat n), vr t, vi (Int32.ofNat (xs.length + 1)), vi 1, vi (e &&& (255 : Int32)), q7, q8, q9, q10] []
            refine Runs.goto (t := 0) i28_549 (by decide) ?_
            refine Runs.iloadN i28_0 rfl ?_
            refine Runs.iloadN i28_1 rfl ?_
            refine Runs.icY (t := 621) i28_2 (by decide) (flt (own_nlt (a := (sp + 1)) (b := n) (by omega) (by omega))).2.1 ?_
            refine Runs.iload i28_621 rfl ?_
            refine Runs.weak (D1 := []) (fun _ q => nomatch q) ?_
            exact Runs.retI (z := Int32.ofNat (xs.length + 1)) i28_623 rfl (Or.inl rfl) rfl (by decide) (by decide) ⟨by rw [List.length_append]; rfl, K.trans K_4 (allS (Or.inl (mi 0 rfl)) all0), A_5, rfl⟩
          · refine Runs.icN i28_503 (flt hc503).2.2.1 ?_
            refine Runs.iloadN i28_506 rfl ?_
            refine Runs.iloadN i28_507 rfl ?_
            refine Runs.icY (t := 552) i28_508 (by decide) (flt (own_nlt (a := (sp + 1)) (b := n) (by omega) (by omega))).2.1 ?_
            refine Runs.iload i28_552 rfl ?_
            refine Runs.ifY (t := 564) i28_554 (by decide) (feq (by decide : ¬ ((1 : Int32) = (0 : Int32)))).2 ?_
            refine Runs.iinc (z := (Int32.ofNat ((sp + 1) + 1))) (ls' := #[vr u, vi (Int32.ofNat ((sp + 1) + 1)), vi (Int32.ofNat n), vr t, vi (Int32.ofNat xs.length), vi 1, vi (e &&& (255 : Int32)), q7, q8, q9, q10]) i28_564 rfl (own_add (a := (sp + 1)) (b := 1) (by omega)) rfl ?_
            refine Runs.aloadN i28_567 rfl rfl ?_
            refine Runs.iload i28_568 rfl ?_
            refine Runs.iinc (z := (Int32.ofNat (xs.length + 1))) (ls' := #[vr u, vi (Int32.ofNat ((sp + 1) + 1)), vi (Int32.ofNat n), vr t, vi (Int32.ofNat (xs.length + 1)), vi 1, vi (e &&& (255 : Int32)), q7, q8, q9, q10]) i28_570 rfl (own_add (a := xs.length) (b := 1) (by omega)) rfl ?_
            refine Runs.ldcI i28_573 (w186 hw) ?_
            refine Runs.callSW (argsL := [(.ref t), (.int (Int32.ofNat xs.length)), (.int 65533)]) (rest := []) (W := 0) i28_575 (w164 hw) (w165 hw) (w82 hw) (w166 hw) (by decide) pd_5 rfl rfl rfl rfl (by decide) (by decide) (by decide) (by decide) (allS (mi 0 rfl) all0) (by decide) (own_upc l Z a0 hw n0 t k n xs _ T (65533 : Int32) hx (by omega) gt S_A S_H S_L) ?_
            intro v h_9 D1 q hsz
            obtain ⟨rfl, K_7, A_8, rfl⟩ := q
            show Runs _ _ _ _ _ _ _ _ _ _ _ _ [t] h_9 0 0 578 #[vr u, vi (Int32.ofNat ((sp + 1) + 1)), vi (Int32.ofNat n), vr t, vi (Int32.ofNat (xs.length + 1)), vi 1, vi (e &&& (255 : Int32)), q7, q8, q9, q10] []
            refine Runs.iloadN i28_578 rfl ?_
            refine Runs.iloadN i28_579 rfl ?_
            refine Runs.icY (t := 621) i28_580 (by decide) (flt (own_nlt (a := ((sp + 1) + 1)) (b := n) (by omega) (by omega))).2.1 ?_
            refine Runs.iload i28_621 rfl ?_
            refine Runs.weak (D1 := []) (fun _ q => nomatch q) ?_
            exact Runs.retI (z := Int32.ofNat (xs.length + 1)) i28_623 rfl (Or.inl rfl) rfl (by decide) (by decide) ⟨by rw [List.length_append]; rfl, K.trans K_7 (allS (Or.inl (mi 0 rfl)) all0), A_8, rfl⟩
        · refine Runs.icY (t := 595) i28_355 (by decide) (feq hc355).2 ?_
          refine Runs.iload i28_595 rfl ?_
          refine Runs.ifY (t := 607) i28_597 (by decide) (feq (by decide : ¬ ((1 : Int32) = (0 : Int32)))).2 ?_
          refine Runs.aloadN i28_607 rfl rfl ?_
          refine Runs.iload i28_608 rfl ?_
          refine Runs.iinc (z := (Int32.ofNat (xs.length + 1))) (ls' := #[vr u, vi (Int32.ofNat (sp + 1)), vi (Int32.ofNat n), vr t, vi (Int32.ofNat (xs.length + 1)), vi 1, vi e, q7, q8, q9, q10]) i28_610 rfl (own_add (a := xs.length) (b := 1) (by omega)) rfl ?_
          refine Runs.ldcI i28_613 (w186 hw) ?_
          refine Runs.callSW (argsL := [(.ref t), (.int (Int32.ofNat xs.length)), (.int 65533)]) (rest := []) (W := 0) i28_615 (w164 hw) (w165 hw) (w82 hw) (w166 hw) (by decide) pd_5 rfl rfl rfl rfl (by decide) (by decide) (by decide) (by decide) (allS (mi 0 rfl) all0) (by decide) (own_upc l Z a0 hw n0 t k n xs _ T (65533 : Int32) hx (by omega) gt S_A S_H S_L) ?_
          intro v h_12 D1 q hsz
          obtain ⟨rfl, K_10, A_11, rfl⟩ := q
          show Runs _ _ _ _ _ _ _ _ _ _ _ _ [t] h_12 0 0 618 #[vr u, vi (Int32.ofNat (sp + 1)), vi (Int32.ofNat n), vr t, vi (Int32.ofNat (xs.length + 1)), vi 1, vi e, q7, q8, q9, q10] []
          refine Runs.goto (t := 0) i28_618 (by decide) ?_
          refine Runs.iloadN i28_0 rfl ?_
          refine Runs.iloadN i28_1 rfl ?_
          refine Runs.icY (t := 621) i28_2 (by decide) (flt (own_nlt (a := (sp + 1)) (b := n) (by omega) (by omega))).2.1 ?_
          refine Runs.iload i28_621 rfl ?_
          refine Runs.weak (D1 := []) (fun _ q => nomatch q) ?_
          exact Runs.retI (z := Int32.ofNat (xs.length + 1)) i28_623 rfl (Or.inl rfl) rfl (by decide) (by decide) ⟨by rw [List.length_append]; rfl, K.trans K_10 (allS (Or.inl (mi 0 rfl)) all0), A_11, rfl⟩
    · refine Runs.ifN i28_47 (feq hc47).1 ?_
      refine Runs.iloadN i28_50 rfl ?_
      refine Runs.iloadN i28_51 rfl ?_
      refine Runs.icY (t := 119) i28_52 (by decide) (flt (own_nlt (a := (sp + 1)) (b := n) (by omega) (by omega))).2.1 ?_
      refine Runs.iload i28_119 rfl ?_
      refine Runs.ifY (t := 129) i28_121 (by decide) (feq (by decide : ¬ ((1 : Int32) = (0 : Int32)))).2 ?_
      refine Runs.aloadN i28_129 rfl rfl ?_
      refine Runs.iload i28_130 rfl ?_
      refine Runs.iinc (z := (Int32.ofNat (xs.length + 1))) (ls' := #[vr u, vi (Int32.ofNat (sp + 1)), vi (Int32.ofNat n), vr t, vi (Int32.ofNat (xs.length + 1)), vi 1, vi e, q7, q8, q9, q10]) i28_132 rfl (own_add (a := xs.length) (b := 1) (by omega)) rfl ?_
      refine Runs.ldcI i28_135 (w186 hw) ?_
      refine Runs.callSW (argsL := [(.ref t), (.int (Int32.ofNat xs.length)), (.int 65533)]) (rest := []) (W := 0) i28_137 (w164 hw) (w165 hw) (w82 hw) (w166 hw) (by decide) pd_5 rfl rfl rfl rfl (by decide) (by decide) (by decide) (by decide) (allS (mi 0 rfl) all0) (by decide) (own_upc l Z a0 hw n0 t k n xs _ T (65533 : Int32) hx (by omega) gt S_A S_H S_L) ?_
      intro v h_15 D1 q hsz
      obtain ⟨rfl, K_13, A_14, rfl⟩ := q
      show Runs _ _ _ _ _ _ _ _ _ _ _ _ [t] h_15 0 0 140 #[vr u, vi (Int32.ofNat (sp + 1)), vi (Int32.ofNat n), vr t, vi (Int32.ofNat (xs.length + 1)), vi 1, vi e, q7, q8, q9, q10] []
      refine Runs.goto (t := 621) i28_140 (by decide) ?_
      refine Runs.iload i28_621 rfl ?_
      refine Runs.weak (D1 := []) (fun _ q => nomatch q) ?_
      exact Runs.retI (z := Int32.ofNat (xs.length + 1)) i28_623 rfl (Or.inl rfl) rfl (by decide) (by decide) ⟨by rw [List.length_append]; rfl, K.trans K_13 (allS (Or.inl (mi 0 rfl)) all0), A_14, rfl⟩
  · refine Runs.icY (t := 143) i28_39 (by decide) (feq hc39).2 ?_
    refine Runs.iload i28_143 rfl ?_
    refine Runs.iconst (v := (4 : Int32)) i28_145 (by decide) ?_
    refine Runs.ishr (z := (e >>> ((4 : Int32) &&& 31))) i28_146 rfl ?_
    refine Runs.bipush (v := (-2 : Int32)) i28_147 (by decide) ?_
    by_cases hc149 : (e >>> ((4 : Int32) &&& 31)) = (-2 : Int32)
    · refine Runs.icN i28_149 (teq hc149).2 ?_
      refine Runs.iloadN i28_152 rfl ?_
      refine Runs.iconst (v := (1 : Int32)) i28_153 (by decide) ?_
      refine Runs.iadd (z := (Int32.ofNat ((sp + 1) + 1))) i28_154 (own_add (a := (sp + 1)) (b := 1) (by omega)) ?_
      refine Runs.iloadN i28_155 rfl ?_
      refine Runs.icY (t := 283) i28_156 (by decide) (flt (own_nlt (a := ((sp + 1) + 1)) (b := n) (by omega) (by omega))).2.1 ?_
      refine Runs.iloadN i28_283 rfl ?_
      refine Runs.iloadN i28_284 rfl ?_
      refine Runs.icY (t := 325) i28_285 (by decide) (flt (own_nlt (a := (sp + 1)) (b := n) (by omega) (by omega))).2.1 ?_
      refine Runs.iload i28_325 rfl ?_
      refine Runs.ifY (t := 335) i28_327 (by decide) (feq (by decide : ¬ ((1 : Int32) = (0 : Int32)))).2 ?_
      refine Runs.aloadN i28_335 rfl rfl ?_
      refine Runs.iload i28_336 rfl ?_
      refine Runs.iinc (z := (Int32.ofNat (xs.length + 1))) (ls' := #[vr u, vi (Int32.ofNat (sp + 1)), vi (Int32.ofNat n), vr t, vi (Int32.ofNat (xs.length + 1)), vi 1, vi e, q7, q8, q9, q10]) i28_338 rfl (own_add (a := xs.length) (b := 1) (by omega)) rfl ?_
      refine Runs.ldcI i28_341 (w186 hw) ?_
      refine Runs.callSW (argsL := [(.ref t), (.int (Int32.ofNat xs.length)), (.int 65533)]) (rest := []) (W := 0) i28_343 (w164 hw) (w165 hw) (w82 hw) (w166 hw) (by decide) pd_5 rfl rfl rfl rfl (by decide) (by decide) (by decide) (by decide) (allS (mi 0 rfl) all0) (by decide) (own_upc l Z a0 hw n0 t k n xs _ T (65533 : Int32) hx (by omega) gt S_A S_H S_L) ?_
      intro v h_18 D1 q hsz
      obtain ⟨rfl, K_16, A_17, rfl⟩ := q
      show Runs _ _ _ _ _ _ _ _ _ _ _ _ [t] h_18 0 0 346 #[vr u, vi (Int32.ofNat (sp + 1)), vi (Int32.ofNat n), vr t, vi (Int32.ofNat (xs.length + 1)), vi 1, vi e, q7, q8, q9, q10] []
      refine Runs.goto (t := 621) i28_346 (by decide) ?_
      refine Runs.iload i28_621 rfl ?_
      refine Runs.weak (D1 := []) (fun _ q => nomatch q) ?_
      exact Runs.retI (z := Int32.ofNat (xs.length + 1)) i28_623 rfl (Or.inl rfl) rfl (by decide) (by decide) ⟨by rw [List.length_append]; rfl, K.trans K_16 (allS (Or.inl (mi 0 rfl)) all0), A_17, rfl⟩
    · refine Runs.icY (t := 349) i28_149 (by decide) (feq hc149).2 ?_
      refine Runs.iload i28_349 rfl ?_
      refine Runs.iconst (v := (3 : Int32)) i28_351 (by decide) ?_
      refine Runs.ishr (z := (e >>> ((3 : Int32) &&& 31))) i28_352 rfl ?_
      refine Runs.bipush (v := (-2 : Int32)) i28_353 (by decide) ?_
      by_cases hc355 : (e >>> ((3 : Int32) &&& 31)) = (-2 : Int32)
      · refine Runs.icN i28_355 (teq hc355).2 ?_
        refine Runs.iloadN i28_358 rfl ?_
        refine Runs.iconst (v := (2 : Int32)) i28_359 (by decide) ?_
        refine Runs.iadd (z := (Int32.ofNat ((sp + 1) + 2))) i28_360 (own_add (a := (sp + 1)) (b := 2) (by omega)) ?_
        refine Runs.iloadN i28_361 rfl ?_
        refine Runs.icY (t := 490) i28_362 (by decide) (flt (own_nlt (a := ((sp + 1) + 2)) (b := n) (by omega) (by omega))).2.1 ?_
        refine Runs.iload i28_490 rfl ?_
        refine Runs.sipush (v := (255 : Int32)) i28_492 (by decide) ?_
        refine Runs.iand (z := (e &&& (255 : Int32))) i28_495 rfl ?_
        refine Runs.istore (ls' := #[vr u, vi (Int32.ofNat (sp + 1)), vi (Int32.ofNat n), vr t, vi (Int32.ofNat xs.length), vi 1, vi (e &&& (255 : Int32)), q7, q8, q9, q10]) i28_496 rfl ?_
        refine Runs.iload i28_498 rfl ?_
        refine Runs.sipush (v := (244 : Int32)) i28_500 (by decide) ?_
        by_cases hc503 : (244 : Int32) < (e &&& (255 : Int32))
        · refine Runs.icY (t := 526) i28_503 (by decide) (tlt hc503).2.2.1 ?_
          refine Runs.iload i28_526 rfl ?_
          refine Runs.ifY (t := 538) i28_528 (by decide) (feq (by decide : ¬ ((1 : Int32) = (0 : Int32)))).2 ?_
          refine Runs.aloadN i28_538 rfl rfl ?_
          refine Runs.iload i28_539 rfl ?_
          refine Runs.iinc (z := (Int32.ofNat (xs.length + 1))) (ls' := #[vr u, vi (Int32.ofNat (sp + 1)), vi (Int32.ofNat n), vr t, vi (Int32.ofNat (xs.length + 1)), vi 1, vi (e &&& (255 : Int32)), q7, q8, q9, q10]) i28_541 rfl (own_add (a := xs.length) (b := 1) (by omega)) rfl ?_
          refine Runs.ldcI i28_544 (w186 hw) ?_
          refine Runs.callSW (argsL := [(.ref t), (.int (Int32.ofNat xs.length)), (.int 65533)]) (rest := []) (W := 0) i28_546 (w164 hw) (w165 hw) (w82 hw) (w166 hw) (by decide) pd_5 rfl rfl rfl rfl (by decide) (by decide) (by decide) (by decide) (allS (mi 0 rfl) all0) (by decide) (own_upc l Z a0 hw n0 t k n xs _ T (65533 : Int32) hx (by omega) gt S_A S_H S_L) ?_
          intro v h_21 D1 q hsz
          obtain ⟨rfl, K_19, A_20, rfl⟩ := q
          show Runs _ _ _ _ _ _ _ _ _ _ _ _ [t] h_21 0 0 549 #[vr u, vi (Int32.ofNat (sp + 1)), vi (Int32.ofNat n), vr t, vi (Int32.ofNat (xs.length + 1)), vi 1, vi (e &&& (255 : Int32)), q7, q8, q9, q10] []
          refine Runs.goto (t := 0) i28_549 (by decide) ?_
          refine Runs.iloadN i28_0 rfl ?_
          refine Runs.iloadN i28_1 rfl ?_
          refine Runs.icY (t := 621) i28_2 (by decide) (flt (own_nlt (a := (sp + 1)) (b := n) (by omega) (by omega))).2.1 ?_
          refine Runs.iload i28_621 rfl ?_
          refine Runs.weak (D1 := []) (fun _ q => nomatch q) ?_
          exact Runs.retI (z := Int32.ofNat (xs.length + 1)) i28_623 rfl (Or.inl rfl) rfl (by decide) (by decide) ⟨by rw [List.length_append]; rfl, K.trans K_19 (allS (Or.inl (mi 0 rfl)) all0), A_20, rfl⟩
        · refine Runs.icN i28_503 (flt hc503).2.2.1 ?_
          refine Runs.iloadN i28_506 rfl ?_
          refine Runs.iloadN i28_507 rfl ?_
          refine Runs.icY (t := 552) i28_508 (by decide) (flt (own_nlt (a := (sp + 1)) (b := n) (by omega) (by omega))).2.1 ?_
          refine Runs.iload i28_552 rfl ?_
          refine Runs.ifY (t := 564) i28_554 (by decide) (feq (by decide : ¬ ((1 : Int32) = (0 : Int32)))).2 ?_
          refine Runs.iinc (z := (Int32.ofNat ((sp + 1) + 1))) (ls' := #[vr u, vi (Int32.ofNat ((sp + 1) + 1)), vi (Int32.ofNat n), vr t, vi (Int32.ofNat xs.length), vi 1, vi (e &&& (255 : Int32)), q7, q8, q9, q10]) i28_564 rfl (own_add (a := (sp + 1)) (b := 1) (by omega)) rfl ?_
          refine Runs.aloadN i28_567 rfl rfl ?_
          refine Runs.iload i28_568 rfl ?_
          refine Runs.iinc (z := (Int32.ofNat (xs.length + 1))) (ls' := #[vr u, vi (Int32.ofNat ((sp + 1) + 1)), vi (Int32.ofNat n), vr t, vi (Int32.ofNat (xs.length + 1)), vi 1, vi (e &&& (255 : Int32)), q7, q8, q9, q10]) i28_570 rfl (own_add (a := xs.length) (b := 1) (by omega)) rfl ?_
          refine Runs.ldcI i28_573 (w186 hw) ?_
          refine Runs.callSW (argsL := [(.ref t), (.int (Int32.ofNat xs.length)), (.int 65533)]) (rest := []) (W := 0) i28_575 (w164 hw) (w165 hw) (w82 hw) (w166 hw) (by decide) pd_5 rfl rfl rfl rfl (by decide) (by decide) (by decide) (by decide) (allS (mi 0 rfl) all0) (by decide) (own_upc l Z a0 hw n0 t k n xs _ T (65533 : Int32) hx (by omega) gt S_A S_H S_L) ?_
          intro v h_24 D1 q hsz
          obtain ⟨rfl, K_22, A_23, rfl⟩ := q
          show Runs _ _ _ _ _ _ _ _ _ _ _ _ [t] h_24 0 0 578 #[vr u, vi (Int32.ofNat ((sp + 1) + 1)), vi (Int32.ofNat n), vr t, vi (Int32.ofNat (xs.length + 1)), vi 1, vi (e &&& (255 : Int32)), q7, q8, q9, q10] []
          refine Runs.iloadN i28_578 rfl ?_
          refine Runs.iloadN i28_579 rfl ?_
          refine Runs.icY (t := 621) i28_580 (by decide) (flt (own_nlt (a := ((sp + 1) + 1)) (b := n) (by omega) (by omega))).2.1 ?_
          refine Runs.iload i28_621 rfl ?_
          refine Runs.weak (D1 := []) (fun _ q => nomatch q) ?_
          exact Runs.retI (z := Int32.ofNat (xs.length + 1)) i28_623 rfl (Or.inl rfl) rfl (by decide) (by decide) ⟨by rw [List.length_append]; rfl, K.trans K_22 (allS (Or.inl (mi 0 rfl)) all0), A_23, rfl⟩
      · refine Runs.icY (t := 595) i28_355 (by decide) (feq hc355).2 ?_
        refine Runs.iload i28_595 rfl ?_
        refine Runs.ifY (t := 607) i28_597 (by decide) (feq (by decide : ¬ ((1 : Int32) = (0 : Int32)))).2 ?_
        refine Runs.aloadN i28_607 rfl rfl ?_
        refine Runs.iload i28_608 rfl ?_
        refine Runs.iinc (z := (Int32.ofNat (xs.length + 1))) (ls' := #[vr u, vi (Int32.ofNat (sp + 1)), vi (Int32.ofNat n), vr t, vi (Int32.ofNat (xs.length + 1)), vi 1, vi e, q7, q8, q9, q10]) i28_610 rfl (own_add (a := xs.length) (b := 1) (by omega)) rfl ?_
        refine Runs.ldcI i28_613 (w186 hw) ?_
        refine Runs.callSW (argsL := [(.ref t), (.int (Int32.ofNat xs.length)), (.int 65533)]) (rest := []) (W := 0) i28_615 (w164 hw) (w165 hw) (w82 hw) (w166 hw) (by decide) pd_5 rfl rfl rfl rfl (by decide) (by decide) (by decide) (by decide) (allS (mi 0 rfl) all0) (by decide) (own_upc l Z a0 hw n0 t k n xs _ T (65533 : Int32) hx (by omega) gt S_A S_H S_L) ?_
        intro v h_27 D1 q hsz
        obtain ⟨rfl, K_25, A_26, rfl⟩ := q
        show Runs _ _ _ _ _ _ _ _ _ _ _ _ [t] h_27 0 0 618 #[vr u, vi (Int32.ofNat (sp + 1)), vi (Int32.ofNat n), vr t, vi (Int32.ofNat (xs.length + 1)), vi 1, vi e, q7, q8, q9, q10] []
        refine Runs.goto (t := 0) i28_618 (by decide) ?_
        refine Runs.iloadN i28_0 rfl ?_
        refine Runs.iloadN i28_1 rfl ?_
        refine Runs.icY (t := 621) i28_2 (by decide) (flt (own_nlt (a := (sp + 1)) (b := n) (by omega) (by omega))).2.1 ?_
        refine Runs.iload i28_621 rfl ?_
        refine Runs.weak (D1 := []) (fun _ q => nomatch q) ?_
        exact Runs.retI (z := Int32.ofNat (xs.length + 1)) i28_623 rfl (Or.inl rfl) rfl (by decide) (by decide) ⟨by rw [List.length_append]; rfl, K.trans K_25 (allS (Or.inl (mi 0 rfl)) all0), A_26, rfl⟩
theorem own_dh2g (l : Launch) (Z : State) (a0 : Array Value) (hw : Wds Z a0) (n0 : Nat) (u t : Addr) (ku k : ClassId) (vs : List Value) (hut : u ≠ t) (h0 : Heap) (U0 : Arv Z h0 u ku .byte (Int32.ofNat 3) vs (.int 0)) (gt : n0 ≤ t) (S_A : SA Z) (S_H : SH Z) (S_L : SL Z) (N : Nat) (hN : 128 ≤ N ∧ N < 2048) (hv0 : vs.getD 0 (.int 0) = .int (own_8 ((192 : Int32) ||| (Int32.ofNat (N / 64))))) (hv1 : vs.getD 1 (.int 0) = .int (own_8 ((128 : Int32) ||| (Int32.ofNat (N % 64))))) (e : Int32) (he : e < 0) (hb : vs.getD 2 (.int 0) = .int e)  (T0 : Arv Z h0 t k .byte (Int32.ofNat (2 * 3)) (own_ws []) (.int 0)) : Con 1 l Z [("java/lang/String", 7)] n0 (⟨"java/lang/String", "decodeUTF8_UTF16", "([BII[BIZ)I"⟩ : MethodName) c28_ 11 (some .int) ({ frames := 1, cells := 0, slots := 0, locals := 40 } : Room) #[(.ref u), (.int 0), (.int 3), (.ref t), (.int 0), (.int 1)] [t] h0 (fun v h D' => v = some (.int (Int32.ofNat ([(Int32.ofNat N)] ++ [65533]).length)) ∧ Keep h0 h [t] ∧ Arv Z h t k .byte (Int32.ofNat (2 * 3)) (own_ws ([(Int32.ofNat N)] ++ [65533])) (.int 0) ∧ D' = []) := by
  refine Con.of_runs (ls := #[vr u, vi 0, vi 3, vr t, vi 0, vi 1, .unset, .unset, .unset, .unset, .unset]) (by decide +kernel) (fun m => by simp [entryFrame, mkF, argsToLocals, Value.category]) ?_
  exact own_dk2 l Z a0 hw n0 u t ku k vs 3 hut (by decide) h0 U0 gt S_A S_H S_L (by decide) N hN hv0 hv1 T0 _ (fun h K T => own_dt1g l Z a0 hw n0 u t ku k vs 3 hut (by decide) h0 U0 gt S_A S_H S_L [(Int32.ofNat N)] 2 (by simp) rfl e he hb h K T (own_8 ((192 : Int32) ||| (Int32.ofNat (N / 64)))) (vi (own_8 ((128 : Int32) ||| (Int32.ofNat (N % 64))))) (.unset) (.unset) (.unset))
theorem own_dk3 (l : Launch) (Z : State) (a0 : Array Value) (hw : Wds Z a0) (n0 : Nat) (u t : Addr) (ku k : ClassId) (vs : List Value) (n : Nat) (hut : u ≠ t) (hn : n < 1000) (h0 : Heap) (U0 : Arv Z h0 u ku .byte (Int32.ofNat n) vs (.int 0)) (gt : n0 ≤ t) (S_A : SA Z) (S_H : SH Z) (S_L : SL Z) (hc : 3 ≤ n) (N : Nat) (hN : 2048 ≤ N ∧ N < 65536) (hS : N < 55296 ∨ 57344 ≤ N) (hv0 : vs.getD 0 (.int 0) = .int (own_8 ((224 : Int32) ||| (Int32.ofNat (N / 4096))))) (hv1 : vs.getD 1 (.int 0) = .int (own_8 ((128 : Int32) ||| (Int32.ofNat (N / 64 % 64))))) (hv2 : vs.getD 2 (.int 0) = .int (own_8 ((128 : Int32) ||| (Int32.ofNat (N % 64))))) (T0 : Arv Z h0 t k .byte (Int32.ofNat (2 * n)) (own_ws []) (.int 0)) (Q : Option Value → Heap → List Addr → Prop) (Kc : ∀ h : Heap, Keep h0 h [t] → Arv Z h t k .byte (Int32.ofNat (2 * n)) (own_ws [(Int32.ofNat N)]) (.int 0) → Runs 1 l Z [("java/lang/String", 7)] n0 "java/lang/String" "decodeUTF8_UTF16" c28_ 11 (some .int) ({ frames := 1, cells := 0, slots := 0, locals := 40 } : Room) Q [t] h 0 0 0 #[vr u, vi 3, vi (Int32.ofNat n), vr t, vi 1, vi 1, vi (own_8 ((224 : Int32) ||| (Int32.ofNat (N / 4096)))), vi (own_8 ((128 : Int32) ||| (Int32.ofNat (N / 64 % 64)))), vi (own_8 ((128 : Int32) ||| (Int32.ofNat (N % 64)))), vi (Int32.ofNat N), .unset] []) : Runs 1 l Z [("java/lang/String", 7)] n0 "java/lang/String" "decodeUTF8_UTF16" c28_ 11 (some .int) ({ frames := 1, cells := 0, slots := 0, locals := 40 } : Room) Q [t] h0 0 0 0 #[vr u, vi 0, vi (Int32.ofNat n), vr t, vi 0, vi 1, .unset, .unset, .unset, .unset, .unset] [] := by
  refine Runs.iloadN i28_0 rfl ?_
  refine Runs.iloadN i28_1 rfl ?_
  refine Runs.icN i28_2 (tlt (own_lt (a := 0) (b := n) (by omega) (by omega))).2.1 ?_
  refine Runs.aloadN i28_5 rfl rfl ?_
  refine Runs.iloadN i28_6 rfl ?_
  refine Runs.iinc (z := (1 : Int32)) (ls' := #[vr u, vi 1, vi (Int32.ofNat n), vr t, vi 0, vi 1, .unset, .unset, .unset, .unset, .unset]) i28_7 rfl (by decide) rfl ?_
  refine Runs.baload (v := .int (own_8 ((224 : Int32) ||| (Int32.ofNat (N / 4096))))) i28_10 U0 ⟨by decide, own_lt (a := 0) (b := n) (by omega) (by omega)⟩ hv0 ?_
  refine Runs.istore (ls' := #[vr u, vi 1, vi (Int32.ofNat n), vr t, vi 0, vi 1, vi (own_8 ((224 : Int32) ||| (Int32.ofNat (N / 4096)))), .unset, .unset, .unset, .unset]) i28_11 rfl ?_
  refine Runs.iload i28_13 rfl ?_
  refine Runs.ifY (t := 33) i28_15 (by decide) (tlt (own_f3 (N / 4096) (by omega)).1).1 ?_
  refine Runs.iload i28_33 rfl ?_
  refine Runs.iconst (v := (5 : Int32)) i28_35 (by decide) ?_
  refine Runs.ishr (z := ((own_8 ((224 : Int32) ||| (Int32.ofNat (N / 4096)))) >>> ((5 : Int32) &&& 31))) i28_36 rfl ?_
  refine Runs.bipush (v := (-2 : Int32)) i28_37 (by decide) ?_
  refine Runs.icY (t := 143) i28_39 (by decide) (feq (own_f3 (N / 4096) (by omega)).2.1).2 ?_
  refine Runs.iload i28_143 rfl ?_
  refine Runs.iconst (v := (4 : Int32)) i28_145 (by decide) ?_
  refine Runs.ishr (z := ((own_8 ((224 : Int32) ||| (Int32.ofNat (N / 4096)))) >>> ((4 : Int32) &&& 31))) i28_146 rfl ?_
  refine Runs.bipush (v := (-2 : Int32)) i28_147 (by decide) ?_
  refine Runs.icN i28_149 (teq (own_f3 (N / 4096) (by omega)).2.2.1).2 ?_
  refine Runs.iloadN i28_152 rfl ?_
  refine Runs.iconst (v := (1 : Int32)) i28_153 (by decide) ?_
  refine Runs.iadd (z := (2 : Int32)) i28_154 (by decide) ?_
  refine Runs.iloadN i28_155 rfl ?_
  refine Runs.icN i28_156 (tlt (own_lt (a := 2) (b := n) (by omega) (by omega))).2.1 ?_
  refine Runs.aloadN i28_159 rfl rfl ?_
  refine Runs.iloadN i28_160 rfl ?_
  refine Runs.iinc (z := (2 : Int32)) (ls' := #[vr u, vi 2, vi (Int32.ofNat n), vr t, vi 0, vi 1, vi (own_8 ((224 : Int32) ||| (Int32.ofNat (N / 4096)))), .unset, .unset, .unset, .unset]) i28_161 rfl (by decide) rfl ?_
  refine Runs.baload (v := .int (own_8 ((128 : Int32) ||| (Int32.ofNat (N / 64 % 64))))) i28_164 U0 ⟨by decide, own_lt (a := 1) (b := n) (by omega) (by omega)⟩ hv1 ?_
  refine Runs.istore (ls' := #[vr u, vi 2, vi (Int32.ofNat n), vr t, vi 0, vi 1, vi (own_8 ((224 : Int32) ||| (Int32.ofNat (N / 4096)))), vi (own_8 ((128 : Int32) ||| (Int32.ofNat (N / 64 % 64)))), .unset, .unset, .unset]) i28_165 rfl ?_
  refine Runs.aloadN i28_167 rfl rfl ?_
  refine Runs.iloadN i28_168 rfl ?_
  refine Runs.iinc (z := (3 : Int32)) (ls' := #[vr u, vi 3, vi (Int32.ofNat n), vr t, vi 0, vi 1, vi (own_8 ((224 : Int32) ||| (Int32.ofNat (N / 4096)))), vi (own_8 ((128 : Int32) ||| (Int32.ofNat (N / 64 % 64)))), .unset, .unset, .unset]) i28_169 rfl (by decide) rfl ?_
  refine Runs.baload (v := .int (own_8 ((128 : Int32) ||| (Int32.ofNat (N % 64))))) i28_172 U0 ⟨by decide, own_lt (a := 2) (b := n) (by omega) (by omega)⟩ hv2 ?_
  refine Runs.istore (ls' := #[vr u, vi 3, vi (Int32.ofNat n), vr t, vi 0, vi 1, vi (own_8 ((224 : Int32) ||| (Int32.ofNat (N / 4096)))), vi (own_8 ((128 : Int32) ||| (Int32.ofNat (N / 64 % 64)))), vi (own_8 ((128 : Int32) ||| (Int32.ofNat (N % 64)))), .unset, .unset]) i28_173 rfl ?_
  refine Runs.iload i28_175 rfl ?_
  refine Runs.iload i28_177 rfl ?_
  refine Runs.iload i28_179 rfl ?_
  refine Runs.callSW (argsL := [(.int (own_8 ((224 : Int32) ||| (Int32.ofNat (N / 4096))))), (.int (own_8 ((128 : Int32) ||| (Int32.ofNat (N / 64 % 64))))), (.int (own_8 ((128 : Int32) ||| (Int32.ofNat (N % 64)))))]) (rest := []) (W := 0) i28_181 (w190 hw) (w191 hw) (w32 hw) (w192 hw) (by decide) pd_10 rfl rfl rfl rfl (by decide) (by decide) (by decide) (by decide) all0 (by decide) (own_im3 l Z a0 hw n0 (own_8 ((224 : Int32) ||| (Int32.ofNat (N / 4096)))) (own_8 ((128 : Int32) ||| (Int32.ofNat (N / 64 % 64)))) (own_8 ((128 : Int32) ||| (Int32.ofNat (N % 64)))) (fun q => (own_fc _ (show N / 64 % 64 < 64 by omega)).2.2 (by have := (own_f3 (N / 4096) (by omega)).2.2.2.2 q; omega)) (own_fc _ (show N / 64 % 64 < 64 by omega)).1 (own_fc _ (show N % 64 < 64 by omega)).1 _) ?_
  intro v h1 D1 q hsz
  obtain ⟨rfl, rfl, rfl⟩ := q
  show Runs _ _ _ _ _ _ _ _ _ _ _ _ [t] h0 0 0 184 #[vr u, vi 3, vi (Int32.ofNat n), vr t, vi 0, vi 1, vi (own_8 ((224 : Int32) ||| (Int32.ofNat (N / 4096)))), vi (own_8 ((128 : Int32) ||| (Int32.ofNat (N / 64 % 64)))), vi (own_8 ((128 : Int32) ||| (Int32.ofNat (N % 64)))), .unset, .unset] [(.int 0)]
  refine Runs.ifY (t := 224) i28_184 (by decide) (teq (by decide : (0 : Int32) = (0 : Int32))).1 ?_
  refine Runs.iload i28_224 rfl ?_
  refine Runs.iload i28_226 rfl ?_
  refine Runs.iload i28_228 rfl ?_
  refine Runs.callSW (argsL := [(.int (own_8 ((224 : Int32) ||| (Int32.ofNat (N / 4096))))), (.int (own_8 ((128 : Int32) ||| (Int32.ofNat (N / 64 % 64))))), (.int (own_8 ((128 : Int32) ||| (Int32.ofNat (N % 64)))))]) (rest := []) (W := 0) i28_230 (w193 hw) (w194 hw) (w32 hw) (w195 hw) (by decide) pd_11 rfl rfl rfl rfl (by decide) (by decide) (by decide) (by decide) all0 (by decide) (own_dd3 l Z a0 hw n0 (own_8 ((224 : Int32) ||| (Int32.ofNat (N / 4096)))) (own_8 ((128 : Int32) ||| (Int32.ofNat (N / 64 % 64)))) (own_8 ((128 : Int32) ||| (Int32.ofNat (N % 64)))) (Int32.ofNat N) (by rw [own_dc3 (by omega) (by omega) (by omega), show 4096 * (N / 4096) + 64 * (N / 64 % 64) + N % 64 = N by omega]; exact own_ccN (by omega)) (own_chN (by omega)) _) ?_
  intro v h1 D1 q hsz
  obtain ⟨rfl, rfl, rfl⟩ := q
  show Runs _ _ _ _ _ _ _ _ _ _ _ _ [t] h0 0 0 233 #[vr u, vi 3, vi (Int32.ofNat n), vr t, vi 0, vi 1, vi (own_8 ((224 : Int32) ||| (Int32.ofNat (N / 4096)))), vi (own_8 ((128 : Int32) ||| (Int32.ofNat (N / 64 % 64)))), vi (own_8 ((128 : Int32) ||| (Int32.ofNat (N % 64)))), .unset, .unset] [(.int (Int32.ofNat N))]
  refine Runs.istore (ls' := #[vr u, vi 3, vi (Int32.ofNat n), vr t, vi 0, vi 1, vi (own_8 ((224 : Int32) ||| (Int32.ofNat (N / 4096)))), vi (own_8 ((128 : Int32) ||| (Int32.ofNat (N / 64 % 64)))), vi (own_8 ((128 : Int32) ||| (Int32.ofNat (N % 64)))), vi (Int32.ofNat N), .unset]) i28_233 rfl ?_
  refine Runs.iload i28_235 rfl ?_
  refine Runs.callSW (argsL := [(.int (Int32.ofNat N))]) (rest := []) (W := 0) i28_237 (w197 hw) (w198 hw) (w156 hw) (w199 hw) (by decide) pd_12 rfl rfl rfl rfl (by decide) (by decide) (by decide) (by decide) all0 (by decide) (own_iss l Z a0 hw n0 (Int32.ofNat N) (hS.imp (fun q => own_lt (b := 55296) q (by omega)) (fun q => own_nlt (b := 57344) q (by omega))) _) ?_
  intro v h1 D1 q hsz
  obtain ⟨rfl, rfl, rfl⟩ := q
  show Runs _ _ _ _ _ _ _ _ _ _ _ _ [t] h0 0 0 240 #[vr u, vi 3, vi (Int32.ofNat n), vr t, vi 0, vi 1, vi (own_8 ((224 : Int32) ||| (Int32.ofNat (N / 4096)))), vi (own_8 ((128 : Int32) ||| (Int32.ofNat (N / 64 % 64)))), vi (own_8 ((128 : Int32) ||| (Int32.ofNat (N % 64)))), vi (Int32.ofNat N), .unset] [(.int 0)]
  refine Runs.ifY (t := 269) i28_240 (by decide) (teq (by decide : (0 : Int32) = (0 : Int32))).1 ?_
  refine Runs.aloadN i28_269 rfl rfl ?_
  refine Runs.iload i28_270 rfl ?_
  refine Runs.iinc (z := (1 : Int32)) (ls' := #[vr u, vi 3, vi (Int32.ofNat n), vr t, vi 1, vi 1, vi (own_8 ((224 : Int32) ||| (Int32.ofNat (N / 4096)))), vi (own_8 ((128 : Int32) ||| (Int32.ofNat (N / 64 % 64)))), vi (own_8 ((128 : Int32) ||| (Int32.ofNat (N % 64)))), vi (Int32.ofNat N), .unset]) i28_272 rfl (by decide) rfl ?_
  refine Runs.iload i28_275 rfl ?_
  refine Runs.callSW (argsL := [(.ref t), (.int 0), (.int (Int32.ofNat N))]) (rest := []) (W := 0) i28_277 (w164 hw) (w165 hw) (w82 hw) (w166 hw) (by decide) pd_5 rfl rfl rfl rfl (by decide) (by decide) (by decide) (by decide) (allS (mi 0 rfl) all0) (by decide) (own_upc l Z a0 hw n0 t k n ([] : List Int32) _ T0 (Int32.ofNat N) (by show 0 < n; omega) (by omega) gt S_A S_H S_L) ?_
  intro v h_4 D1 q hsz
  obtain ⟨rfl, K_1, A_2, rfl⟩ := q
  show Runs _ _ _ _ _ _ _ _ _ _ _ _ [t] h_4 0 0 280 #[vr u, vi 3, vi (Int32.ofNat n), vr t, vi 1, vi 1, vi (own_8 ((224 : Int32) ||| (Int32.ofNat (N / 4096)))), vi (own_8 ((128 : Int32) ||| (Int32.ofNat (N / 64 % 64)))), vi (own_8 ((128 : Int32) ||| (Int32.ofNat (N % 64)))), vi (Int32.ofNat N), .unset] []
  have A_3 : Arv Z h_4 t k .byte (Int32.ofNat (2 * n)) (own_ws [(Int32.ofNat N)]) (.int 0) := A_2
  refine Runs.goto (t := 0) i28_280 (by decide) ?_
  exact Kc _ K_1 A_3
theorem own_dh3n (l : Launch) (Z : State) (a0 : Array Value) (hw : Wds Z a0) (n0 : Nat) (u t : Addr) (ku k : ClassId) (vs : List Value) (hut : u ≠ t) (h0 : Heap) (U0 : Arv Z h0 u ku .byte (Int32.ofNat 3) vs (.int 0)) (gt : n0 ≤ t) (S_A : SA Z) (S_H : SH Z) (S_L : SL Z) (N : Nat) (hN : 2048 ≤ N ∧ N < 65536) (hS : N < 55296 ∨ 57344 ≤ N) (hv0 : vs.getD 0 (.int 0) = .int (own_8 ((224 : Int32) ||| (Int32.ofNat (N / 4096))))) (hv1 : vs.getD 1 (.int 0) = .int (own_8 ((128 : Int32) ||| (Int32.ofNat (N / 64 % 64))))) (hv2 : vs.getD 2 (.int 0) = .int (own_8 ((128 : Int32) ||| (Int32.ofNat (N % 64)))))  (T0 : Arv Z h0 t k .byte (Int32.ofNat (2 * 3)) (own_ws []) (.int 0)) : Con 1 l Z [("java/lang/String", 7)] n0 (⟨"java/lang/String", "decodeUTF8_UTF16", "([BII[BIZ)I"⟩ : MethodName) c28_ 11 (some .int) ({ frames := 1, cells := 0, slots := 0, locals := 40 } : Room) #[(.ref u), (.int 0), (.int 3), (.ref t), (.int 0), (.int 1)] [t] h0 (fun v h D' => v = some (.int (Int32.ofNat [(Int32.ofNat N)].length)) ∧ Keep h0 h [t] ∧ Arv Z h t k .byte (Int32.ofNat (2 * 3)) (own_ws [(Int32.ofNat N)]) (.int 0) ∧ D' = []) := by
  refine Con.of_runs (ls := #[vr u, vi 0, vi 3, vr t, vi 0, vi 1, .unset, .unset, .unset, .unset, .unset]) (by decide +kernel) (fun m => by simp [entryFrame, mkF, argsToLocals, Value.category]) ?_
  exact own_dk3 l Z a0 hw n0 u t ku k vs 3 hut (by decide) h0 U0 gt S_A S_H S_L (by decide) N hN hS hv0 hv1 hv2 T0 _ (fun h K T => own_dt1n l Z a0 hw n0 u t ku k vs 3 hut (by decide) h0 U0 gt S_A S_H S_L [(Int32.ofNat N)] 3 (by simp) rfl h K T (own_8 ((224 : Int32) ||| (Int32.ofNat (N / 4096)))) (vi (own_8 ((128 : Int32) ||| (Int32.ofNat (N / 64 % 64))))) (vi (own_8 ((128 : Int32) ||| (Int32.ofNat (N % 64))))) (vi (Int32.ofNat N)) (.unset))
theorem own_dh3p (l : Launch) (Z : State) (a0 : Array Value) (hw : Wds Z a0) (n0 : Nat) (u t : Addr) (ku k : ClassId) (vs : List Value) (hut : u ≠ t) (h0 : Heap) (U0 : Arv Z h0 u ku .byte (Int32.ofNat 4) vs (.int 0)) (gt : n0 ≤ t) (S_A : SA Z) (S_H : SH Z) (S_L : SL Z) (N : Nat) (hN : 2048 ≤ N ∧ N < 65536) (hS : N < 55296 ∨ 57344 ≤ N) (hv0 : vs.getD 0 (.int 0) = .int (own_8 ((224 : Int32) ||| (Int32.ofNat (N / 4096))))) (hv1 : vs.getD 1 (.int 0) = .int (own_8 ((128 : Int32) ||| (Int32.ofNat (N / 64 % 64))))) (hv2 : vs.getD 2 (.int 0) = .int (own_8 ((128 : Int32) ||| (Int32.ofNat (N % 64))))) (B : Nat) (hB : B < 128) (hb : vs.getD 3 (.int 0) = .int (Int32.ofNat B))  (T0 : Arv Z h0 t k .byte (Int32.ofNat (2 * 4)) (own_ws []) (.int 0)) : Con 1 l Z [("java/lang/String", 7)] n0 (⟨"java/lang/String", "decodeUTF8_UTF16", "([BII[BIZ)I"⟩ : MethodName) c28_ 11 (some .int) ({ frames := 1, cells := 0, slots := 0, locals := 40 } : Room) #[(.ref u), (.int 0), (.int 4), (.ref t), (.int 0), (.int 1)] [t] h0 (fun v h D' => v = some (.int (Int32.ofNat ([(Int32.ofNat N)] ++ [Int32.ofNat B]).length)) ∧ Keep h0 h [t] ∧ Arv Z h t k .byte (Int32.ofNat (2 * 4)) (own_ws ([(Int32.ofNat N)] ++ [Int32.ofNat B])) (.int 0) ∧ D' = []) := by
  refine Con.of_runs (ls := #[vr u, vi 0, vi 4, vr t, vi 0, vi 1, .unset, .unset, .unset, .unset, .unset]) (by decide +kernel) (fun m => by simp [entryFrame, mkF, argsToLocals, Value.category]) ?_
  exact own_dk3 l Z a0 hw n0 u t ku k vs 4 hut (by decide) h0 U0 gt S_A S_H S_L (by decide) N hN hS hv0 hv1 hv2 T0 _ (fun h K T => own_dt1p l Z a0 hw n0 u t ku k vs 4 hut (by decide) h0 U0 gt S_A S_H S_L [(Int32.ofNat N)] 3 (by simp) rfl B hB hb h K T (own_8 ((224 : Int32) ||| (Int32.ofNat (N / 4096)))) (vi (own_8 ((128 : Int32) ||| (Int32.ofNat (N / 64 % 64))))) (vi (own_8 ((128 : Int32) ||| (Int32.ofNat (N % 64))))) (vi (Int32.ofNat N)) (.unset))
theorem own_dh3g (l : Launch) (Z : State) (a0 : Array Value) (hw : Wds Z a0) (n0 : Nat) (u t : Addr) (ku k : ClassId) (vs : List Value) (hut : u ≠ t) (h0 : Heap) (U0 : Arv Z h0 u ku .byte (Int32.ofNat 4) vs (.int 0)) (gt : n0 ≤ t) (S_A : SA Z) (S_H : SH Z) (S_L : SL Z) (N : Nat) (hN : 2048 ≤ N ∧ N < 65536) (hS : N < 55296 ∨ 57344 ≤ N) (hv0 : vs.getD 0 (.int 0) = .int (own_8 ((224 : Int32) ||| (Int32.ofNat (N / 4096))))) (hv1 : vs.getD 1 (.int 0) = .int (own_8 ((128 : Int32) ||| (Int32.ofNat (N / 64 % 64))))) (hv2 : vs.getD 2 (.int 0) = .int (own_8 ((128 : Int32) ||| (Int32.ofNat (N % 64))))) (e : Int32) (he : e < 0) (hb : vs.getD 3 (.int 0) = .int e)  (T0 : Arv Z h0 t k .byte (Int32.ofNat (2 * 4)) (own_ws []) (.int 0)) : Con 1 l Z [("java/lang/String", 7)] n0 (⟨"java/lang/String", "decodeUTF8_UTF16", "([BII[BIZ)I"⟩ : MethodName) c28_ 11 (some .int) ({ frames := 1, cells := 0, slots := 0, locals := 40 } : Room) #[(.ref u), (.int 0), (.int 4), (.ref t), (.int 0), (.int 1)] [t] h0 (fun v h D' => v = some (.int (Int32.ofNat ([(Int32.ofNat N)] ++ [65533]).length)) ∧ Keep h0 h [t] ∧ Arv Z h t k .byte (Int32.ofNat (2 * 4)) (own_ws ([(Int32.ofNat N)] ++ [65533])) (.int 0) ∧ D' = []) := by
  refine Con.of_runs (ls := #[vr u, vi 0, vi 4, vr t, vi 0, vi 1, .unset, .unset, .unset, .unset, .unset]) (by decide +kernel) (fun m => by simp [entryFrame, mkF, argsToLocals, Value.category]) ?_
  exact own_dk3 l Z a0 hw n0 u t ku k vs 4 hut (by decide) h0 U0 gt S_A S_H S_L (by decide) N hN hS hv0 hv1 hv2 T0 _ (fun h K T => own_dt1g l Z a0 hw n0 u t ku k vs 4 hut (by decide) h0 U0 gt S_A S_H S_L [(Int32.ofNat N)] 3 (by simp) rfl e he hb h K T (own_8 ((224 : Int32) ||| (Int32.ofNat (N / 4096)))) (vi (own_8 ((128 : Int32) ||| (Int32.ofNat (N / 64 % 64))))) (vi (own_8 ((128 : Int32) ||| (Int32.ofNat (N % 64))))) (vi (Int32.ofNat N)) (.unset))
theorem own_dk4 (l : Launch) (Z : State) (a0 : Array Value) (hw : Wds Z a0) (n0 : Nat) (u t : Addr) (ku k : ClassId) (vs : List Value) (n : Nat) (hut : u ≠ t) (hn : n < 1000) (h0 : Heap) (U0 : Arv Z h0 u ku .byte (Int32.ofNat n) vs (.int 0)) (gt : n0 ≤ t) (S_A : SA Z) (S_H : SH Z) (S_L : SL Z) (hc : 4 ≤ n) (N : Nat) (hN : 65536 ≤ N ∧ N < 1114112) (hv0 : vs.getD 0 (.int 0) = .int (own_8 ((240 : Int32) ||| (Int32.ofNat (N / 262144))))) (hv1 : vs.getD 1 (.int 0) = .int (own_8 ((128 : Int32) ||| (Int32.ofNat (N / 4096 % 64))))) (hv2 : vs.getD 2 (.int 0) = .int (own_8 ((128 : Int32) ||| (Int32.ofNat (N / 64 % 64))))) (hv3 : vs.getD 3 (.int 0) = .int (own_8 ((128 : Int32) ||| (Int32.ofNat (N % 64))))) (T0 : Arv Z h0 t k .byte (Int32.ofNat (2 * n)) (own_ws []) (.int 0)) (Q : Option Value → Heap → List Addr → Prop) (Kc : ∀ h : Heap, Keep h0 h [t] → Arv Z h t k .byte (Int32.ofNat (2 * n)) (own_ws [(Int32.ofNat (55296 + (N - 65536) / 1024)), (Int32.ofNat (56320 + (N - 65536) % 1024))]) (.int 0) → Runs 1 l Z [("java/lang/String", 7)] n0 "java/lang/String" "decodeUTF8_UTF16" c28_ 11 (some .int) ({ frames := 1, cells := 0, slots := 0, locals := 40 } : Room) Q [t] h 0 0 0 #[vr u, vi 4, vi (Int32.ofNat n), vr t, vi 2, vi 1, vi (own_8 ((240 : Int32) ||| (Int32.ofNat (N / 262144)))), vi (own_8 ((128 : Int32) ||| (Int32.ofNat (N / 4096 % 64)))), vi (own_8 ((128 : Int32) ||| (Int32.ofNat (N / 64 % 64)))), vi (own_8 ((128 : Int32) ||| (Int32.ofNat (N % 64)))), vi (Int32.ofNat N)] []) : Runs 1 l Z [("java/lang/String", 7)] n0 "java/lang/String" "decodeUTF8_UTF16" c28_ 11 (some .int) ({ frames := 1, cells := 0, slots := 0, locals := 40 } : Room) Q [t] h0 0 0 0 #[vr u, vi 0, vi (Int32.ofNat n), vr t, vi 0, vi 1, .unset, .unset, .unset, .unset, .unset] [] := by
  refine Runs.iloadN i28_0 rfl ?_
  refine Runs.iloadN i28_1 rfl ?_
  refine Runs.icN i28_2 (tlt (own_lt (a := 0) (b := n) (by omega) (by omega))).2.1 ?_
  refine Runs.aloadN i28_5 rfl rfl ?_
  refine Runs.iloadN i28_6 rfl ?_
  refine Runs.iinc (z := (1 : Int32)) (ls' := #[vr u, vi 1, vi (Int32.ofNat n), vr t, vi 0, vi 1, .unset, .unset, .unset, .unset, .unset]) i28_7 rfl (by decide) rfl ?_
  refine Runs.baload (v := .int (own_8 ((240 : Int32) ||| (Int32.ofNat (N / 262144))))) i28_10 U0 ⟨by decide, own_lt (a := 0) (b := n) (by omega) (by omega)⟩ hv0 ?_
  refine Runs.istore (ls' := #[vr u, vi 1, vi (Int32.ofNat n), vr t, vi 0, vi 1, vi (own_8 ((240 : Int32) ||| (Int32.ofNat (N / 262144)))), .unset, .unset, .unset, .unset]) i28_11 rfl ?_
  refine Runs.iload i28_13 rfl ?_
  refine Runs.ifY (t := 33) i28_15 (by decide) (tlt (own_f4 (N / 262144) (by omega)).1).1 ?_
  refine Runs.iload i28_33 rfl ?_
  refine Runs.iconst (v := (5 : Int32)) i28_35 (by decide) ?_
  refine Runs.ishr (z := ((own_8 ((240 : Int32) ||| (Int32.ofNat (N / 262144)))) >>> ((5 : Int32) &&& 31))) i28_36 rfl ?_
  refine Runs.bipush (v := (-2 : Int32)) i28_37 (by decide) ?_
  refine Runs.icY (t := 143) i28_39 (by decide) (feq (own_f4 (N / 262144) (by omega)).2.1).2 ?_
  refine Runs.iload i28_143 rfl ?_
  refine Runs.iconst (v := (4 : Int32)) i28_145 (by decide) ?_
  refine Runs.ishr (z := ((own_8 ((240 : Int32) ||| (Int32.ofNat (N / 262144)))) >>> ((4 : Int32) &&& 31))) i28_146 rfl ?_
  refine Runs.bipush (v := (-2 : Int32)) i28_147 (by decide) ?_
  refine Runs.icY (t := 349) i28_149 (by decide) (feq (own_f4 (N / 262144) (by omega)).2.2.1).2 ?_
  refine Runs.iload i28_349 rfl ?_
  refine Runs.iconst (v := (3 : Int32)) i28_351 (by decide) ?_
  refine Runs.ishr (z := ((own_8 ((240 : Int32) ||| (Int32.ofNat (N / 262144)))) >>> ((3 : Int32) &&& 31))) i28_352 rfl ?_
  refine Runs.bipush (v := (-2 : Int32)) i28_353 (by decide) ?_
  refine Runs.icN i28_355 (teq (own_f4 (N / 262144) (by omega)).2.2.2.1).2 ?_
  refine Runs.iloadN i28_358 rfl ?_
  refine Runs.iconst (v := (2 : Int32)) i28_359 (by decide) ?_
  refine Runs.iadd (z := (3 : Int32)) i28_360 (by decide) ?_
  refine Runs.iloadN i28_361 rfl ?_
  refine Runs.icN i28_362 (tlt (own_lt (a := 3) (b := n) (by omega) (by omega))).2.1 ?_
  refine Runs.aloadN i28_365 rfl rfl ?_
  refine Runs.iloadN i28_366 rfl ?_
  refine Runs.iinc (z := (2 : Int32)) (ls' := #[vr u, vi 2, vi (Int32.ofNat n), vr t, vi 0, vi 1, vi (own_8 ((240 : Int32) ||| (Int32.ofNat (N / 262144)))), .unset, .unset, .unset, .unset]) i28_367 rfl (by decide) rfl ?_
  refine Runs.baload (v := .int (own_8 ((128 : Int32) ||| (Int32.ofNat (N / 4096 % 64))))) i28_370 U0 ⟨by decide, own_lt (a := 1) (b := n) (by omega) (by omega)⟩ hv1 ?_
  refine Runs.istore (ls' := #[vr u, vi 2, vi (Int32.ofNat n), vr t, vi 0, vi 1, vi (own_8 ((240 : Int32) ||| (Int32.ofNat (N / 262144)))), vi (own_8 ((128 : Int32) ||| (Int32.ofNat (N / 4096 % 64)))), .unset, .unset, .unset]) i28_371 rfl ?_
  refine Runs.aloadN i28_373 rfl rfl ?_
  refine Runs.iloadN i28_374 rfl ?_
  refine Runs.iinc (z := (3 : Int32)) (ls' := #[vr u, vi 3, vi (Int32.ofNat n), vr t, vi 0, vi 1, vi (own_8 ((240 : Int32) ||| (Int32.ofNat (N / 262144)))), vi (own_8 ((128 : Int32) ||| (Int32.ofNat (N / 4096 % 64)))), .unset, .unset, .unset]) i28_375 rfl (by decide) rfl ?_
  refine Runs.baload (v := .int (own_8 ((128 : Int32) ||| (Int32.ofNat (N / 64 % 64))))) i28_378 U0 ⟨by decide, own_lt (a := 2) (b := n) (by omega) (by omega)⟩ hv2 ?_
  refine Runs.istore (ls' := #[vr u, vi 3, vi (Int32.ofNat n), vr t, vi 0, vi 1, vi (own_8 ((240 : Int32) ||| (Int32.ofNat (N / 262144)))), vi (own_8 ((128 : Int32) ||| (Int32.ofNat (N / 4096 % 64)))), vi (own_8 ((128 : Int32) ||| (Int32.ofNat (N / 64 % 64)))), .unset, .unset]) i28_379 rfl ?_
  refine Runs.aloadN i28_381 rfl rfl ?_
  refine Runs.iloadN i28_382 rfl ?_
  refine Runs.iinc (z := (4 : Int32)) (ls' := #[vr u, vi 4, vi (Int32.ofNat n), vr t, vi 0, vi 1, vi (own_8 ((240 : Int32) ||| (Int32.ofNat (N / 262144)))), vi (own_8 ((128 : Int32) ||| (Int32.ofNat (N / 4096 % 64)))), vi (own_8 ((128 : Int32) ||| (Int32.ofNat (N / 64 % 64)))), .unset, .unset]) i28_383 rfl (by decide) rfl ?_
  refine Runs.baload (v := .int (own_8 ((128 : Int32) ||| (Int32.ofNat (N % 64))))) i28_386 U0 ⟨by decide, own_lt (a := 3) (b := n) (by omega) (by omega)⟩ hv3 ?_
  refine Runs.istore (ls' := #[vr u, vi 4, vi (Int32.ofNat n), vr t, vi 0, vi 1, vi (own_8 ((240 : Int32) ||| (Int32.ofNat (N / 262144)))), vi (own_8 ((128 : Int32) ||| (Int32.ofNat (N / 4096 % 64)))), vi (own_8 ((128 : Int32) ||| (Int32.ofNat (N / 64 % 64)))), vi (own_8 ((128 : Int32) ||| (Int32.ofNat (N % 64)))), .unset]) i28_387 rfl ?_
  refine Runs.iload i28_389 rfl ?_
  refine Runs.iload i28_391 rfl ?_
  refine Runs.iload i28_393 rfl ?_
  refine Runs.iload i28_395 rfl ?_
  refine Runs.callSW (argsL := [(.int (own_8 ((240 : Int32) ||| (Int32.ofNat (N / 262144))))), (.int (own_8 ((128 : Int32) ||| (Int32.ofNat (N / 4096 % 64))))), (.int (own_8 ((128 : Int32) ||| (Int32.ofNat (N / 64 % 64))))), (.int (own_8 ((128 : Int32) ||| (Int32.ofNat (N % 64)))))]) (rest := []) (W := 0) i28_397 (w147 hw) (w148 hw) (w32 hw) (w149 hw) (by decide) pd_13 rfl rfl rfl rfl (by decide) (by decide) (by decide) (by decide) all0 (by decide) (own_dd4 l Z a0 hw n0 (own_8 ((240 : Int32) ||| (Int32.ofNat (N / 262144)))) (own_8 ((128 : Int32) ||| (Int32.ofNat (N / 4096 % 64)))) (own_8 ((128 : Int32) ||| (Int32.ofNat (N / 64 % 64)))) (own_8 ((128 : Int32) ||| (Int32.ofNat (N % 64)))) (Int32.ofNat N) ((own_dc4 (by omega) (by omega) (by omega) (by omega)).trans (congrArg Int32.ofNat (by omega))) _) ?_
  intro v h1 D1 q hsz
  obtain ⟨rfl, rfl, rfl⟩ := q
  show Runs _ _ _ _ _ _ _ _ _ _ _ _ [t] h0 0 0 400 #[vr u, vi 4, vi (Int32.ofNat n), vr t, vi 0, vi 1, vi (own_8 ((240 : Int32) ||| (Int32.ofNat (N / 262144)))), vi (own_8 ((128 : Int32) ||| (Int32.ofNat (N / 4096 % 64)))), vi (own_8 ((128 : Int32) ||| (Int32.ofNat (N / 64 % 64)))), vi (own_8 ((128 : Int32) ||| (Int32.ofNat (N % 64)))), .unset] [(.int (Int32.ofNat N))]
  refine Runs.istore (ls' := #[vr u, vi 4, vi (Int32.ofNat n), vr t, vi 0, vi 1, vi (own_8 ((240 : Int32) ||| (Int32.ofNat (N / 262144)))), vi (own_8 ((128 : Int32) ||| (Int32.ofNat (N / 4096 % 64)))), vi (own_8 ((128 : Int32) ||| (Int32.ofNat (N / 64 % 64)))), vi (own_8 ((128 : Int32) ||| (Int32.ofNat (N % 64)))), vi (Int32.ofNat N)]) i28_400 rfl ?_
  refine Runs.iload i28_402 rfl ?_
  refine Runs.iload i28_404 rfl ?_
  refine Runs.iload i28_406 rfl ?_
  refine Runs.callSW (argsL := [(.int (own_8 ((128 : Int32) ||| (Int32.ofNat (N / 4096 % 64))))), (.int (own_8 ((128 : Int32) ||| (Int32.ofNat (N / 64 % 64))))), (.int (own_8 ((128 : Int32) ||| (Int32.ofNat (N % 64)))))]) (rest := []) (W := 0) i28_408 (w151 hw) (w152 hw) (w32 hw) (w153 hw) (by decide) pd_10 rfl rfl rfl rfl (by decide) (by decide) (by decide) (by decide) all0 (by decide) (own_im4 l Z a0 hw n0 (own_8 ((128 : Int32) ||| (Int32.ofNat (N / 4096 % 64)))) (own_8 ((128 : Int32) ||| (Int32.ofNat (N / 64 % 64)))) (own_8 ((128 : Int32) ||| (Int32.ofNat (N % 64)))) (own_fc _ (show N / 4096 % 64 < 64 by omega)).1 (own_fc _ (show N / 64 % 64 < 64 by omega)).1 (own_fc _ (show N % 64 < 64 by omega)).1 _) ?_
  intro v h1 D1 q hsz
  obtain ⟨rfl, rfl, rfl⟩ := q
  show Runs _ _ _ _ _ _ _ _ _ _ _ _ [t] h0 0 0 411 #[vr u, vi 4, vi (Int32.ofNat n), vr t, vi 0, vi 1, vi (own_8 ((240 : Int32) ||| (Int32.ofNat (N / 262144)))), vi (own_8 ((128 : Int32) ||| (Int32.ofNat (N / 4096 % 64)))), vi (own_8 ((128 : Int32) ||| (Int32.ofNat (N / 64 % 64)))), vi (own_8 ((128 : Int32) ||| (Int32.ofNat (N % 64)))), vi (Int32.ofNat N)] [(.int 0)]
  refine Runs.ifN i28_411 (teq (by decide : (0 : Int32) = (0 : Int32))).2 ?_
  refine Runs.iload i28_414 rfl ?_
  refine Runs.callSW (argsL := [(.int (Int32.ofNat N))]) (rest := []) (W := 0) i28_416 (w154 hw) (w155 hw) (w156 hw) (w157 hw) (by decide) pd_8 rfl rfl rfl rfl (by decide) (by decide) (by decide) (by decide) all0 (by decide) (own_isp l Z a0 hw n0 (Int32.ofNat N) (own_nlt (b := 65536) (by omega) (by omega)) (own_lt (b := 1114112) (by omega) (by omega)) _) ?_
  intro v h1 D1 q hsz
  obtain ⟨rfl, rfl, rfl⟩ := q
  show Runs _ _ _ _ _ _ _ _ _ _ _ _ [t] h0 0 0 419 #[vr u, vi 4, vi (Int32.ofNat n), vr t, vi 0, vi 1, vi (own_8 ((240 : Int32) ||| (Int32.ofNat (N / 262144)))), vi (own_8 ((128 : Int32) ||| (Int32.ofNat (N / 4096 % 64)))), vi (own_8 ((128 : Int32) ||| (Int32.ofNat (N / 64 % 64)))), vi (own_8 ((128 : Int32) ||| (Int32.ofNat (N % 64)))), vi (Int32.ofNat N)] [(.int 1)]
  refine Runs.ifY (t := 459) i28_419 (by decide) (feq (by decide : ¬ ((1 : Int32) = (0 : Int32)))).2 ?_
  refine Runs.aloadN i28_459 rfl rfl ?_
  refine Runs.iload i28_460 rfl ?_
  refine Runs.iinc (z := (1 : Int32)) (ls' := #[vr u, vi 4, vi (Int32.ofNat n), vr t, vi 1, vi 1, vi (own_8 ((240 : Int32) ||| (Int32.ofNat (N / 262144)))), vi (own_8 ((128 : Int32) ||| (Int32.ofNat (N / 4096 % 64)))), vi (own_8 ((128 : Int32) ||| (Int32.ofNat (N / 64 % 64)))), vi (own_8 ((128 : Int32) ||| (Int32.ofNat (N % 64)))), vi (Int32.ofNat N)]) i28_462 rfl (by decide) rfl ?_
  refine Runs.iload i28_465 rfl ?_
  refine Runs.callSW (argsL := [(.int (Int32.ofNat N))]) (rest := [(.int 0), (.ref t)]) (W := 2) i28_467 (w160 hw) (w161 hw) (w156 hw) (w162 hw) (by decide) pd_14 rfl rfl rfl rfl (by decide) (by decide) (by decide) (by decide) all0 (by decide) (own_hs l Z a0 hw n0 (Int32.ofNat N) (Int32.ofNat (55296 + (N - 65536) / 1024)) (own_hsur hN) (own_chN (by omega)) _) ?_
  intro v h1 D1 q hsz
  obtain ⟨rfl, rfl, rfl⟩ := q
  show Runs _ _ _ _ _ _ _ _ _ _ _ _ [t] h0 0 0 470 #[vr u, vi 4, vi (Int32.ofNat n), vr t, vi 1, vi 1, vi (own_8 ((240 : Int32) ||| (Int32.ofNat (N / 262144)))), vi (own_8 ((128 : Int32) ||| (Int32.ofNat (N / 4096 % 64)))), vi (own_8 ((128 : Int32) ||| (Int32.ofNat (N / 64 % 64)))), vi (own_8 ((128 : Int32) ||| (Int32.ofNat (N % 64)))), vi (Int32.ofNat N)] [(.int (Int32.ofNat (55296 + (N - 65536) / 1024))), (.int 0), (.ref t)]
  refine Runs.callSW (argsL := [(.ref t), (.int 0), (.int (Int32.ofNat (55296 + (N - 65536) / 1024)))]) (rest := []) (W := 0) i28_470 (w164 hw) (w165 hw) (w82 hw) (w166 hw) (by decide) pd_5 rfl rfl rfl rfl (by decide) (by decide) (by decide) (by decide) (allS (mi 0 rfl) all0) (by decide) (own_upc l Z a0 hw n0 t k n ([] : List Int32) _ T0 (Int32.ofNat (55296 + (N - 65536) / 1024)) (by show 0 < n; omega) (by omega) gt S_A S_H S_L) ?_
  intro v h_4 D1 q hsz
  obtain ⟨rfl, K_1, A_2, rfl⟩ := q
  show Runs _ _ _ _ _ _ _ _ _ _ _ _ [t] h_4 0 0 473 #[vr u, vi 4, vi (Int32.ofNat n), vr t, vi 1, vi 1, vi (own_8 ((240 : Int32) ||| (Int32.ofNat (N / 262144)))), vi (own_8 ((128 : Int32) ||| (Int32.ofNat (N / 4096 % 64)))), vi (own_8 ((128 : Int32) ||| (Int32.ofNat (N / 64 % 64)))), vi (own_8 ((128 : Int32) ||| (Int32.ofNat (N % 64)))), vi (Int32.ofNat N)] []
  have A_3 : Arv Z h_4 t k .byte (Int32.ofNat (2 * n)) (own_ws [(Int32.ofNat (55296 + (N - 65536) / 1024))]) (.int 0) := A_2
  refine Runs.aloadN i28_473 rfl rfl ?_
  refine Runs.iload i28_474 rfl ?_
  refine Runs.iinc (z := (2 : Int32)) (ls' := #[vr u, vi 4, vi (Int32.ofNat n), vr t, vi 2, vi 1, vi (own_8 ((240 : Int32) ||| (Int32.ofNat (N / 262144)))), vi (own_8 ((128 : Int32) ||| (Int32.ofNat (N / 4096 % 64)))), vi (own_8 ((128 : Int32) ||| (Int32.ofNat (N / 64 % 64)))), vi (own_8 ((128 : Int32) ||| (Int32.ofNat (N % 64)))), vi (Int32.ofNat N)]) i28_476 rfl (by decide) rfl ?_
  refine Runs.iload i28_479 rfl ?_
  refine Runs.callSW (argsL := [(.int (Int32.ofNat N))]) (rest := [(.int 1), (.ref t)]) (W := 2) i28_481 (w170 hw) (w171 hw) (w156 hw) (w172 hw) (by decide) pd_14 rfl rfl rfl rfl (by decide) (by decide) (by decide) (by decide) all0 (by decide) (own_ls l Z a0 hw n0 (Int32.ofNat N) (Int32.ofNat (56320 + (N - 65536) % 1024)) (own_lsur hN) (own_chN (by omega)) _) ?_
  intro v h1 D1 q hsz
  obtain ⟨rfl, rfl, rfl⟩ := q
  show Runs _ _ _ _ _ _ _ _ _ _ _ _ [t] h_4 0 0 484 #[vr u, vi 4, vi (Int32.ofNat n), vr t, vi 2, vi 1, vi (own_8 ((240 : Int32) ||| (Int32.ofNat (N / 262144)))), vi (own_8 ((128 : Int32) ||| (Int32.ofNat (N / 4096 % 64)))), vi (own_8 ((128 : Int32) ||| (Int32.ofNat (N / 64 % 64)))), vi (own_8 ((128 : Int32) ||| (Int32.ofNat (N % 64)))), vi (Int32.ofNat N)] [(.int (Int32.ofNat (56320 + (N - 65536) % 1024))), (.int 1), (.ref t)]
  refine Runs.callSW (argsL := [(.ref t), (.int 1), (.int (Int32.ofNat (56320 + (N - 65536) % 1024)))]) (rest := []) (W := 0) i28_484 (w164 hw) (w165 hw) (w82 hw) (w166 hw) (by decide) pd_5 rfl rfl rfl rfl (by decide) (by decide) (by decide) (by decide) (allS (mi 0 rfl) all0) (by decide) (own_upc l Z a0 hw n0 t k n [(Int32.ofNat (55296 + (N - 65536) / 1024))] _ A_3 (Int32.ofNat (56320 + (N - 65536) % 1024)) (by show 1 < n; omega) (by omega) gt S_A S_H S_L) ?_
  intro v h_8 D1 q hsz
  obtain ⟨rfl, K_5, A_6, rfl⟩ := q
  show Runs _ _ _ _ _ _ _ _ _ _ _ _ [t] h_8 0 0 487 #[vr u, vi 4, vi (Int32.ofNat n), vr t, vi 2, vi 1, vi (own_8 ((240 : Int32) ||| (Int32.ofNat (N / 262144)))), vi (own_8 ((128 : Int32) ||| (Int32.ofNat (N / 4096 % 64)))), vi (own_8 ((128 : Int32) ||| (Int32.ofNat (N / 64 % 64)))), vi (own_8 ((128 : Int32) ||| (Int32.ofNat (N % 64)))), vi (Int32.ofNat N)] []
  have A_7 : Arv Z h_8 t k .byte (Int32.ofNat (2 * n)) (own_ws [(Int32.ofNat (55296 + (N - 65536) / 1024)), (Int32.ofNat (56320 + (N - 65536) % 1024))]) (.int 0) := A_6
  refine Runs.goto (t := 0) i28_487 (by decide) ?_
  exact Kc _ (K_1.trans K_5 (allS (Or.inl (mi 0 rfl)) all0)) A_7
theorem own_dh4n (l : Launch) (Z : State) (a0 : Array Value) (hw : Wds Z a0) (n0 : Nat) (u t : Addr) (ku k : ClassId) (vs : List Value) (hut : u ≠ t) (h0 : Heap) (U0 : Arv Z h0 u ku .byte (Int32.ofNat 4) vs (.int 0)) (gt : n0 ≤ t) (S_A : SA Z) (S_H : SH Z) (S_L : SL Z) (N : Nat) (hN : 65536 ≤ N ∧ N < 1114112) (hv0 : vs.getD 0 (.int 0) = .int (own_8 ((240 : Int32) ||| (Int32.ofNat (N / 262144))))) (hv1 : vs.getD 1 (.int 0) = .int (own_8 ((128 : Int32) ||| (Int32.ofNat (N / 4096 % 64))))) (hv2 : vs.getD 2 (.int 0) = .int (own_8 ((128 : Int32) ||| (Int32.ofNat (N / 64 % 64))))) (hv3 : vs.getD 3 (.int 0) = .int (own_8 ((128 : Int32) ||| (Int32.ofNat (N % 64)))))  (T0 : Arv Z h0 t k .byte (Int32.ofNat (2 * 4)) (own_ws []) (.int 0)) : Con 1 l Z [("java/lang/String", 7)] n0 (⟨"java/lang/String", "decodeUTF8_UTF16", "([BII[BIZ)I"⟩ : MethodName) c28_ 11 (some .int) ({ frames := 1, cells := 0, slots := 0, locals := 40 } : Room) #[(.ref u), (.int 0), (.int 4), (.ref t), (.int 0), (.int 1)] [t] h0 (fun v h D' => v = some (.int (Int32.ofNat [(Int32.ofNat (55296 + (N - 65536) / 1024)), (Int32.ofNat (56320 + (N - 65536) % 1024))].length)) ∧ Keep h0 h [t] ∧ Arv Z h t k .byte (Int32.ofNat (2 * 4)) (own_ws [(Int32.ofNat (55296 + (N - 65536) / 1024)), (Int32.ofNat (56320 + (N - 65536) % 1024))]) (.int 0) ∧ D' = []) := by
  refine Con.of_runs (ls := #[vr u, vi 0, vi 4, vr t, vi 0, vi 1, .unset, .unset, .unset, .unset, .unset]) (by decide +kernel) (fun m => by simp [entryFrame, mkF, argsToLocals, Value.category]) ?_
  exact own_dk4 l Z a0 hw n0 u t ku k vs 4 hut (by decide) h0 U0 gt S_A S_H S_L (by decide) N hN hv0 hv1 hv2 hv3 T0 _ (fun h K T => own_dt1n l Z a0 hw n0 u t ku k vs 4 hut (by decide) h0 U0 gt S_A S_H S_L [(Int32.ofNat (55296 + (N - 65536) / 1024)), (Int32.ofNat (56320 + (N - 65536) % 1024))] 4 (by simp) rfl h K T (own_8 ((240 : Int32) ||| (Int32.ofNat (N / 262144)))) (vi (own_8 ((128 : Int32) ||| (Int32.ofNat (N / 4096 % 64))))) (vi (own_8 ((128 : Int32) ||| (Int32.ofNat (N / 64 % 64))))) (vi (own_8 ((128 : Int32) ||| (Int32.ofNat (N % 64))))) (vi (Int32.ofNat N)))
theorem own_dh4p (l : Launch) (Z : State) (a0 : Array Value) (hw : Wds Z a0) (n0 : Nat) (u t : Addr) (ku k : ClassId) (vs : List Value) (hut : u ≠ t) (h0 : Heap) (U0 : Arv Z h0 u ku .byte (Int32.ofNat 5) vs (.int 0)) (gt : n0 ≤ t) (S_A : SA Z) (S_H : SH Z) (S_L : SL Z) (N : Nat) (hN : 65536 ≤ N ∧ N < 1114112) (hv0 : vs.getD 0 (.int 0) = .int (own_8 ((240 : Int32) ||| (Int32.ofNat (N / 262144))))) (hv1 : vs.getD 1 (.int 0) = .int (own_8 ((128 : Int32) ||| (Int32.ofNat (N / 4096 % 64))))) (hv2 : vs.getD 2 (.int 0) = .int (own_8 ((128 : Int32) ||| (Int32.ofNat (N / 64 % 64))))) (hv3 : vs.getD 3 (.int 0) = .int (own_8 ((128 : Int32) ||| (Int32.ofNat (N % 64))))) (B : Nat) (hB : B < 128) (hb : vs.getD 4 (.int 0) = .int (Int32.ofNat B))  (T0 : Arv Z h0 t k .byte (Int32.ofNat (2 * 5)) (own_ws []) (.int 0)) : Con 1 l Z [("java/lang/String", 7)] n0 (⟨"java/lang/String", "decodeUTF8_UTF16", "([BII[BIZ)I"⟩ : MethodName) c28_ 11 (some .int) ({ frames := 1, cells := 0, slots := 0, locals := 40 } : Room) #[(.ref u), (.int 0), (.int 5), (.ref t), (.int 0), (.int 1)] [t] h0 (fun v h D' => v = some (.int (Int32.ofNat ([(Int32.ofNat (55296 + (N - 65536) / 1024)), (Int32.ofNat (56320 + (N - 65536) % 1024))] ++ [Int32.ofNat B]).length)) ∧ Keep h0 h [t] ∧ Arv Z h t k .byte (Int32.ofNat (2 * 5)) (own_ws ([(Int32.ofNat (55296 + (N - 65536) / 1024)), (Int32.ofNat (56320 + (N - 65536) % 1024))] ++ [Int32.ofNat B])) (.int 0) ∧ D' = []) := by
  refine Con.of_runs (ls := #[vr u, vi 0, vi 5, vr t, vi 0, vi 1, .unset, .unset, .unset, .unset, .unset]) (by decide +kernel) (fun m => by simp [entryFrame, mkF, argsToLocals, Value.category]) ?_
  exact own_dk4 l Z a0 hw n0 u t ku k vs 5 hut (by decide) h0 U0 gt S_A S_H S_L (by decide) N hN hv0 hv1 hv2 hv3 T0 _ (fun h K T => own_dt1p l Z a0 hw n0 u t ku k vs 5 hut (by decide) h0 U0 gt S_A S_H S_L [(Int32.ofNat (55296 + (N - 65536) / 1024)), (Int32.ofNat (56320 + (N - 65536) % 1024))] 4 (by simp) rfl B hB hb h K T (own_8 ((240 : Int32) ||| (Int32.ofNat (N / 262144)))) (vi (own_8 ((128 : Int32) ||| (Int32.ofNat (N / 4096 % 64))))) (vi (own_8 ((128 : Int32) ||| (Int32.ofNat (N / 64 % 64))))) (vi (own_8 ((128 : Int32) ||| (Int32.ofNat (N % 64))))) (vi (Int32.ofNat N)))
theorem own_dh4g (l : Launch) (Z : State) (a0 : Array Value) (hw : Wds Z a0) (n0 : Nat) (u t : Addr) (ku k : ClassId) (vs : List Value) (hut : u ≠ t) (h0 : Heap) (U0 : Arv Z h0 u ku .byte (Int32.ofNat 5) vs (.int 0)) (gt : n0 ≤ t) (S_A : SA Z) (S_H : SH Z) (S_L : SL Z) (N : Nat) (hN : 65536 ≤ N ∧ N < 1114112) (hv0 : vs.getD 0 (.int 0) = .int (own_8 ((240 : Int32) ||| (Int32.ofNat (N / 262144))))) (hv1 : vs.getD 1 (.int 0) = .int (own_8 ((128 : Int32) ||| (Int32.ofNat (N / 4096 % 64))))) (hv2 : vs.getD 2 (.int 0) = .int (own_8 ((128 : Int32) ||| (Int32.ofNat (N / 64 % 64))))) (hv3 : vs.getD 3 (.int 0) = .int (own_8 ((128 : Int32) ||| (Int32.ofNat (N % 64))))) (e : Int32) (he : e < 0) (hb : vs.getD 4 (.int 0) = .int e)  (T0 : Arv Z h0 t k .byte (Int32.ofNat (2 * 5)) (own_ws []) (.int 0)) : Con 1 l Z [("java/lang/String", 7)] n0 (⟨"java/lang/String", "decodeUTF8_UTF16", "([BII[BIZ)I"⟩ : MethodName) c28_ 11 (some .int) ({ frames := 1, cells := 0, slots := 0, locals := 40 } : Room) #[(.ref u), (.int 0), (.int 5), (.ref t), (.int 0), (.int 1)] [t] h0 (fun v h D' => v = some (.int (Int32.ofNat ([(Int32.ofNat (55296 + (N - 65536) / 1024)), (Int32.ofNat (56320 + (N - 65536) % 1024))] ++ [65533]).length)) ∧ Keep h0 h [t] ∧ Arv Z h t k .byte (Int32.ofNat (2 * 5)) (own_ws ([(Int32.ofNat (55296 + (N - 65536) / 1024)), (Int32.ofNat (56320 + (N - 65536) % 1024))] ++ [65533])) (.int 0) ∧ D' = []) := by
  refine Con.of_runs (ls := #[vr u, vi 0, vi 5, vr t, vi 0, vi 1, .unset, .unset, .unset, .unset, .unset]) (by decide +kernel) (fun m => by simp [entryFrame, mkF, argsToLocals, Value.category]) ?_
  exact own_dk4 l Z a0 hw n0 u t ku k vs 5 hut (by decide) h0 U0 gt S_A S_H S_L (by decide) N hN hv0 hv1 hv2 hv3 T0 _ (fun h K T => own_dt1g l Z a0 hw n0 u t ku k vs 5 hut (by decide) h0 U0 gt S_A S_H S_L [(Int32.ofNat (55296 + (N - 65536) / 1024)), (Int32.ofNat (56320 + (N - 65536) % 1024))] 4 (by simp) rfl e he hb h K T (own_8 ((240 : Int32) ||| (Int32.ofNat (N / 262144)))) (vi (own_8 ((128 : Int32) ||| (Int32.ofNat (N / 4096 % 64))))) (vi (own_8 ((128 : Int32) ||| (Int32.ofNat (N / 64 % 64))))) (vi (own_8 ((128 : Int32) ||| (Int32.ofNat (N % 64))))) (vi (Int32.ofNat N)))
theorem own_cps (l : Launch) (Z : State) (a0 : Array Value) (hw : Wds Z a0) (n0 : Nat) (t : Addr) (k : ClassId) (c n NS : Nat) (vs : List Value) (hv : vs.length ≤ n) (hn : n < c ∧ c < 10000000) (hNS : n ≤ NS ∧ NS < 1000000) (h0 : Heap) (T0 : Arv Z h0 t k .byte (Int32.ofNat c) vs (.int 0)) : Con 1 l Z [("java/lang/String", 7)] n0 (⟨"java/util/Arrays", "copyOf", "([BI)[B"⟩ : MethodName) c18_ 3 (some (.array .byte)) ({ frames := 1, cells := 1, slots := NS, locals := 40 } : Room) #[(.ref t), (.int (Int32.ofNat n))] [] h0 (fun v h D' => ∃ b k', v = some (.ref b) ∧ h0.size ≤ b ∧ Keep h0 h [] ∧ Arv Z h b k' .byte (Int32.ofNat n) vs (.int 0) ∧ Exa Z h b "[B" ∧ D' = [b]) := by
  refine Con.of_runs (ls := #[vr t, vi (Int32.ofNat n), .unset]) (by decide +kernel) (fun m => rfl) ?_
  refine Runs.iloadN i18_0 rfl ?_
  refine Runs.aloadN i18_1 rfl rfl ?_
  refine Runs.arrlen i18_2 T0 ?_
  refine Runs.icY (t := 14) i18_3 (by decide) (feq (fun q => absurd ((own_inj (a := n) (b := c) (by omega) (by omega)).mp q) (by omega))).2 ?_
  refine Runs.iloadN i18_14 rfl ?_
  refine Runs.newP (cap := NS) (ad := "[B") i18_15 (w3 hw) (own_nn (n := n) (by omega)) (by rw [own_cl (n := n) (by omega)]; omega) (by omega) (by first | decide | (dsimp only; first | decide | omega)) (by first | decide | (dsimp only; first | decide | omega)) rfl ?_
  intro h_1 b_2 k_3 g_6 ge_7 K_4 (A_5 : Arv Z h_1 b_2 k_3 .byte (Int32.ofNat n) ([]) (.int 0)) E_8
  refine Runs.astoreN (ls' := #[vr t, vi (Int32.ofNat n), vr b_2]) i18_17 rfl rfl ?_
  refine Runs.aloadN i18_18 rfl rfl ?_
  refine Runs.iconst (v := (0 : Int32)) i18_19 (by decide) ?_
  refine Runs.aloadN i18_20 rfl rfl ?_
  refine Runs.iconst (v := (0 : Int32)) i18_21 (by decide) ?_
  refine Runs.aloadN i18_22 rfl rfl ?_
  have A_9 := (T0.keep K_4 nin0)
  refine Runs.arrlen i18_23 A_9 ?_
  refine Runs.iloadN i18_24 rfl ?_
  refine Runs.callSW (argsL := [(.int (Int32.ofNat c)), (.int (Int32.ofNat n))]) (rest := [(.int 0), (.ref b_2), (.int 0), (.ref t)]) (W := 4) i18_25 (w107 hw) (w108 hw) (w109 hw) (w110 hw) (by decide) pd_0 rfl rfl rfl rfl (by first | decide | (dsimp only; first | decide | omega)) (by first | decide | (dsimp only; first | decide | omega)) (by first | decide | (dsimp only; first | decide | omega)) (by first | decide | (dsimp only; first | decide | omega)) all0 (by decide) (own_min l Z a0 hw n0 c n (by omega) (by omega) _) ?_
  rw [show min c n = n by omega]
  intro v h1 D1 q hsz
  obtain ⟨rfl, rfl, rfl⟩ := q
  show Runs _ _ _ _ _ _ _ _ _ _ _ _ [b_2] h_1 1 (0 + NS) 28 #[vr t, vi (Int32.ofNat n), vr b_2] [(.int (Int32.ofNat n)), (.int 0), (.ref b_2), (.int 0), (.ref t)]
  have A_10 : Arv Z h_1 b_2 k_3 .byte (Int32.ofNat n) (List.replicate n (.int 0)) (.int 0) := A_5.pad (pad_rep [] (.int 0) n)
  refine Runs.acopy (W := 0) (us := ((List.range n).map fun i => vs.getD (0 + i) (.int 0))) i18_28 (w111 hw) (w114 hw) (w112 hw) (w113 hw) A_9 A_10 rfl (by decide) (by decide) (own_nn (by omega)) (by rw [own_cl (n := n) (by omega), own_cl (n := c) (by omega)]; show 0 + n ≤ c; omega) (by rw [own_cl (n := n) (by omega)]; show 0 + n ≤ n; omega) (by rw [own_cl (n := n) (by omega)]; rfl) (by rw [own_cl (n := n) (by omega)]; show 0 + n ≤ _; rw [List.length_replicate]; omega) ge_7 (Or.inl (mi 0 rfl)) rfl (by first | decide | (dsimp only; first | decide | omega)) rfl (by first | decide | (dsimp only; first | decide | omega)) ?_
  intro h_11 K_12 A_13
  have A_14 : Arv Z h_11 b_2 k_3 .byte (Int32.ofNat n) vs (.int 0) := A_13.pad (fun i => by rw [own_cl (n := n) (by omega)]; exact (own_copy vs (.int 0) n n hv (Nat.le_refl _) i).symm)
  refine Runs.aloadN i18_31 rfl rfl ?_
  exact Runs.retA i18_32 rfl rfl rfl (by first | decide | (dsimp only; first | decide | omega)) (by first | decide | (dsimp only; first | decide | omega)) ⟨b_2, k_3, rfl, g_6, (((Keep.refl _ _).trans K_4 all0).trans K_12 (allS (Or.inr (Nat.le_trans (Nat.le_refl _) g_6)) all0)), A_14, (E_8.keep K_12), rfl⟩
theorem own_c190 (l : Launch) (Z : State) (a0 : Array Value) (hw : Wds Z a0) (n0 : Nat) (a u u8 d : Addr) (kd : ClassId) (n sp : Nat) (xs cs : List Int32) (vs : List Value) (x8 : Int32) (q9 q10 : Slot) (hn : n ≤ 5) (hsp : sp < n) (hx : xs.length ≤ n) (hcl : cs.length ≤ n) (hL : Lat xs) (hv : ∀ i, i < xs.length → vs.getD i (.int 0) = .int ((Int32.toInt8 (xs.getD i 0)).toInt32)) (hNL : ¬ Lat cs) (hCs : Chs cs) (ga : n0 ≤ a) (S_A : SA Z) (S_H : SH Z) (S_L : SL Z) (fm : Value) (hfm : fm.isRef = true) (S_F : SF Z fm) (Hdec : ∀ (b : Addr) (kb : ClassId) (h1 : Heap), d ≠ b → n0 ≤ b → Arv Z h1 d kd .byte (Int32.ofNat n) vs (.int 0) → Arv Z h1 b kb .byte (Int32.ofNat (2 * n)) (own_ws xs) (.int 0) → Con 1 l Z [("java/lang/String", 7)] n0 (⟨"java/lang/String", "decodeUTF8_UTF16", "([BII[BIZ)I"⟩ : MethodName) c28_ 11 (some .int) ({ frames := 1, cells := 0, slots := 0, locals := 40 } : Room) #[.ref d, .int (Int32.ofNat sp), .int (Int32.ofNat n), .ref b, .int (Int32.ofNat xs.length), .int 1] [b] h1 (fun v h D' => v = some (.int (Int32.ofNat cs.length)) ∧ Keep h1 h [b] ∧ Arv Z h b kb .byte (Int32.ofNat (2 * n)) (own_ws cs) (.int 0) ∧ D' = [])) (h0 h : Heap) (K : Keep h0 h []) (hn0 : n0 ≤ h.size) (O : Obj Z h a "java/lang/String" [("java/lang/String", "value", "[B", .null), ("java/lang/String", "coder", "B", (.int 0))]) (A : Arv Z h d kd .byte (Int32.ofNat n) vs (.int 0)) : Runs 1 l Z [("java/lang/String", 7)] n0 "java/lang/String" "<init>" c7_ 11 none ({ frames := 5, cells := 4, slots := 48, locals := 83 } : Room) (fun v h D' => v = none ∧ ∃ t k, Keep h0 h [a] ∧ Sx Z h a t k cs ∧ D' = []) [d, a] h 1 16 190 #[vr a, vr u8, vr u, vi 0, vi (Int32.ofNat n), vi (Int32.ofNat xs.length), vr d, vi (Int32.ofNat sp), vi x8, q9, q10] [] := by
  refine Runs.iload i7_190 rfl ?_
  refine Runs.iload i7_192 rfl ?_
  refine Runs.icY (t := 226) i7_194 (by decide) (feq (fun q => absurd ((own_inj (a := sp) (b := n) (by omega) (by omega)).mp q) (by omega))).2 ?_
  refine Runs.iload i7_226 rfl ?_
  refine Runs.callSW (argsL := [(.int (Int32.ofNat n))]) (rest := []) (W := 0) i7_228 (w117 hw) (w118 hw) (w82 hw) (w119 hw) (by decide) pd_15 rfl rfl rfl rfl (by decide) (by decide) (by decide) (by decide) all0 (by decide) (own_ubf l Z a0 hw n0 n 16 (by omega) (by omega) _) ?_
  intro v h_7 D1 q hsz
  obtain ⟨b_1, k_2, rfl, g_3, K_4, A_5, E_6, rfl⟩ := q
  show Runs _ _ _ _ _ _ _ _ _ _ _ _ [b_1, d, a] h_7 2 32 231 #[vr a, vr u8, vr u, vi 0, vi (Int32.ofNat n), vi (Int32.ofNat xs.length), vr d, vi (Int32.ofNat sp), vi x8, q9, q10] [(.ref b_1)]
  have ge_b_1 : n0 ≤ b_1 := Nat.le_trans hn0 g_3
  refine Runs.astore (ls' := #[vr a, vr u8, vr u, vi 0, vi (Int32.ofNat n), vi (Int32.ofNat xs.length), vr d, vi (Int32.ofNat sp), vr b_1, q9, q10]) i7_231 rfl rfl ?_
  refine Runs.aload i7_233 rfl rfl ?_
  refine Runs.iconst (v := (0 : Int32)) i7_235 (by decide) ?_
  refine Runs.aload i7_236 rfl rfl ?_
  refine Runs.iconst (v := (0 : Int32)) i7_238 (by decide) ?_
  refine Runs.iload i7_239 rfl ?_
  have A_8 := (A.keep K_4 nin0)
  refine Runs.callSW (argsL := [(.ref d), (.int 0), (.ref b_1), (.int 0), (.int (Int32.ofNat xs.length))]) (rest := []) (W := 0) i7_241 (w124 hw) (w125 hw) (w98 hw) (w126 hw) (by decide) pd_7 rfl rfl rfl rfl (by decide) (by decide) (by decide) (by decide) (allS (mi 0 rfl) all0) (by decide) (own_lin l Z a0 hw n0 d b_1 kd k_2 n n xs vs hv (Nat.ne_of_lt (Nat.lt_of_lt_of_le (Nat.lt_of_lt_of_le A.lt (Nat.le_refl _)) g_3)) (by omega) (by omega) (by omega) hL _ A_8 ge_b_1 S_A S_H S_L A_5 fm hfm S_F) ?_
  intro v h_11 D1 q hsz
  obtain ⟨rfl, K_9, A_10, rfl⟩ := q
  show Runs _ _ _ _ _ _ _ _ _ _ _ _ [b_1, d, a] h_11 2 32 244 #[vr a, vr u8, vr u, vi 0, vi (Int32.ofNat n), vi (Int32.ofNat xs.length), vr d, vi (Int32.ofNat sp), vr b_1, q9, q10] []
  refine Runs.aload i7_244 rfl rfl ?_
  refine Runs.iload i7_246 rfl ?_
  refine Runs.iload i7_248 rfl ?_
  refine Runs.aload i7_250 rfl rfl ?_
  refine Runs.iload i7_252 rfl ?_
  refine Runs.iconst (v := (1 : Int32)) i7_254 (by decide) ?_
  have A_12 := (A_8.keep K_9 (ninS (Nat.ne_of_lt (Nat.lt_of_lt_of_le (Nat.lt_of_lt_of_le A.lt (Nat.le_refl _)) g_3)) nin0))
  have Hc := Hdec b_1 k_2 _ (Nat.ne_of_lt (Nat.lt_of_lt_of_le (Nat.lt_of_lt_of_le A.lt (Nat.le_refl _)) g_3)) ge_b_1 A_12 A_10
  refine Runs.callSW (argsL := [(.ref d), (.int (Int32.ofNat sp)), (.int (Int32.ofNat n)), (.ref b_1), (.int (Int32.ofNat xs.length)), (.int 1)]) (rest := []) (W := 0) i7_255 (w144 hw) (w145 hw) (w32 hw) (w146 hw) (by decide) pd_16 rfl rfl rfl rfl (by decide) (by decide) (by decide) (by decide) (allS (mi 0 rfl) all0) (by decide) Hc ?_
  intro v h_15 D1 q hsz
  obtain ⟨rfl, K_13, A_14, rfl⟩ := q
  show Runs _ _ _ _ _ _ _ _ _ _ _ _ [b_1, d, a] h_15 2 32 258 #[vr a, vr u8, vr u, vi 0, vi (Int32.ofNat n), vi (Int32.ofNat xs.length), vr d, vi (Int32.ofNat sp), vr b_1, q9, q10] [(.int (Int32.ofNat cs.length))]
  refine Runs.istore (ls' := #[vr a, vr u8, vr u, vi 0, vi (Int32.ofNat n), vi (Int32.ofNat cs.length), vr d, vi (Int32.ofNat sp), vr b_1, q9, q10]) i7_258 rfl ?_
  refine Runs.iload i7_260 rfl ?_
  refine Runs.iload i7_262 rfl ?_
  by_cases hc264 : (Int32.ofNat cs.length) = (Int32.ofNat n)
  · refine Runs.icY (t := 278) i7_264 (by decide) (teq hc264).1 ?_
    refine Runs.aloadN i7_278 rfl rfl ?_
    refine Runs.aload i7_279 rfl rfl ?_
    have O_16 := (((O.keep K_4 nin0).keep K_9 (ninS (Nat.ne_of_lt (Nat.lt_of_lt_of_le (Nat.lt_of_lt_of_le O.lt (Nat.le_refl _)) g_3)) nin0)).keep K_13 (ninS (Nat.ne_of_lt (Nat.lt_of_lt_of_le (Nat.lt_of_lt_of_le O.lt (Nat.le_refl _)) g_3)) nin0))
    refine Runs.putF (i := 0) (ty := (.array .byte)) i7_281 (host := "") (Or.inl (w69 hw)) Via.refl O_16 rfl (lay_0 hw) rfl (Or.inr ⟨(w70 hw), rfl, rfl⟩) (w31 hw) (by decide) rfl rfl ga (Or.inl (mi 2 rfl)) ?_
    intro h_17 K_18 (O_19 : Obj Z h_17 a "java/lang/String" [("java/lang/String", "value", "[B", (.ref b_1)), ("java/lang/String", "coder", "B", (.int 0))])
    refine Runs.aloadN i7_284 rfl rfl ?_
    refine Runs.iconst (v := (1 : Int32)) i7_285 (by decide) ?_
    refine Runs.putF (i := 1) (ty := .byte) i7_286 (host := "") (Or.inl (w71 hw)) Via.refl O_19 rfl (lay_0 hw) rfl (Or.inr ⟨(w72 hw), rfl, rfl⟩) (w31 hw) (by decide) rfl rfl ga (Or.inl (mi 2 rfl)) ?_
    intro h_20 K_21 (O_22 : Obj Z h_20 a "java/lang/String" [("java/lang/String", "value", "[B", (.ref b_1)), ("java/lang/String", "coder", "B", (.int 1))])
    refine Runs.goto (t := 879) i7_289 (by decide) ?_
    have A_23 := ((A_14.keep K_18 (ninS (Nat.ne_of_gt (Nat.lt_of_lt_of_le (Nat.lt_of_lt_of_le O.lt (Nat.le_refl _)) g_3)) nin0)).keep K_21 (ninS (Nat.ne_of_gt (Nat.lt_of_lt_of_le (Nat.lt_of_lt_of_le O.lt (Nat.le_refl _)) g_3)) nin0))
    refine Runs.weak (D1 := []) (fun _ q => nomatch q) ?_
    exact Runs.retV i7_879 rfl (by decide) (by decide) ⟨rfl, b_1, k_2, (Keep.sub K (by simp)).trans ((((((Keep.refl _ _).trans K_4 all0).trans K_9 (allS (Or.inr (Nat.le_trans (Nat.le_refl _) g_3)) all0)).trans K_13 (allS (Or.inr (Nat.le_trans (Nat.le_refl _) g_3)) all0)).trans K_18 (allS (Or.inl (mi 0 rfl)) all0)).trans K_21 (allS (Or.inl (mi 0 rfl)) all0)) (allS (Or.inl (mi 0 rfl)) all0), Or.inr ⟨hNL, O_22, (by rw [show cs.length = n from (own_inj (by omega) (by omega)).mp hc264]; exact A_23), hCs, by omega⟩, rfl⟩
  · refine Runs.icN i7_264 (feq hc264).1 ?_
    refine Runs.aload i7_267 rfl rfl ?_
    refine Runs.iload i7_269 rfl ?_
    refine Runs.iconst (v := (1 : Int32)) i7_271 (by decide) ?_
    refine Runs.ishl (z := Int32.ofNat (2 * cs.length)) i7_272 (own_shl1 (by omega)) ?_
    refine Runs.callSW (argsL := [(.ref b_1), (.int (Int32.ofNat (2 * cs.length)))]) (rest := []) (W := 0) i7_273 (w104 hw) (w105 hw) (w58 hw) (w106 hw) (by decide) pd_17 rfl rfl rfl rfl (by decide) (by decide) (by decide) (by decide) all0 (by decide) (own_cps l Z a0 hw n0 b_1 k_2 (2 * n) (2 * cs.length) 16 (own_ws cs) (by rw [own_wsl]; exact Nat.le_refl _) (by have : ¬ cs.length = n := fun e => hc264 (congrArg Int32.ofNat e); omega) (by omega) _ A_14) ?_
    intro v h_30 D1 q hsz
    obtain ⟨b_24, k_25, rfl, g_26, K_27, A_28, E_29, rfl⟩ := q
    show Runs _ _ _ _ _ _ _ _ _ _ _ _ [b_24, b_1, d, a] h_30 3 48 276 #[vr a, vr u8, vr u, vi 0, vi (Int32.ofNat n), vi (Int32.ofNat cs.length), vr d, vi (Int32.ofNat sp), vr b_1, q9, q10] [(.ref b_24)]
    refine Runs.astore (ls' := #[vr a, vr u8, vr u, vi 0, vi (Int32.ofNat n), vi (Int32.ofNat cs.length), vr d, vi (Int32.ofNat sp), vr b_24, q9, q10]) i7_276 rfl rfl ?_
    refine Runs.aloadN i7_278 rfl rfl ?_
    refine Runs.aload i7_279 rfl rfl ?_
    have O_31 := ((((O.keep K_4 nin0).keep K_9 (ninS (Nat.ne_of_lt (Nat.lt_of_lt_of_le (Nat.lt_of_lt_of_le O.lt (Nat.le_refl _)) g_3)) nin0)).keep K_13 (ninS (Nat.ne_of_lt (Nat.lt_of_lt_of_le (Nat.lt_of_lt_of_le O.lt (Nat.le_refl _)) g_3)) nin0)).keep K_27 nin0)
    refine Runs.putF (i := 0) (ty := (.array .byte)) i7_281 (host := "") (Or.inl (w69 hw)) Via.refl O_31 rfl (lay_0 hw) rfl (Or.inr ⟨(w70 hw), rfl, rfl⟩) (w31 hw) (by decide) rfl rfl ga (Or.inl (mi 3 rfl)) ?_
    intro h_32 K_33 (O_34 : Obj Z h_32 a "java/lang/String" [("java/lang/String", "value", "[B", (.ref b_24)), ("java/lang/String", "coder", "B", (.int 0))])
    refine Runs.aloadN i7_284 rfl rfl ?_
    refine Runs.iconst (v := (1 : Int32)) i7_285 (by decide) ?_
    refine Runs.putF (i := 1) (ty := .byte) i7_286 (host := "") (Or.inl (w71 hw)) Via.refl O_34 rfl (lay_0 hw) rfl (Or.inr ⟨(w72 hw), rfl, rfl⟩) (w31 hw) (by decide) rfl rfl ga (Or.inl (mi 3 rfl)) ?_
    intro h_35 K_36 (O_37 : Obj Z h_35 a "java/lang/String" [("java/lang/String", "value", "[B", (.ref b_24)), ("java/lang/String", "coder", "B", (.int 1))])
    refine Runs.goto (t := 879) i7_289 (by decide) ?_
    have A_38 := ((A_28.keep K_33 (ninS (Nat.ne_of_gt (Nat.lt_of_lt_of_le (Nat.lt_of_lt_of_le O.lt (Nat.le_trans (Nat.le_trans K_4.1 K_9.1) K_13.1)) g_26)) nin0)).keep K_36 (ninS (Nat.ne_of_gt (Nat.lt_of_lt_of_le (Nat.lt_of_lt_of_le O.lt (Nat.le_trans (Nat.le_trans K_4.1 K_9.1) K_13.1)) g_26)) nin0))
    refine Runs.weak (D1 := []) (fun _ q => nomatch q) ?_
    exact Runs.retV i7_879 rfl (by decide) (by decide) ⟨rfl, b_24, k_25, (Keep.sub K (by simp)).trans (((((((Keep.refl _ _).trans K_4 all0).trans K_9 (allS (Or.inr (Nat.le_trans (Nat.le_refl _) g_3)) all0)).trans K_13 (allS (Or.inr (Nat.le_trans (Nat.le_refl _) g_3)) all0)).trans K_27 all0).trans K_33 (allS (Or.inl (mi 0 rfl)) all0)).trans K_36 (allS (Or.inl (mi 0 rfl)) all0)) (allS (Or.inl (mi 0 rfl)) all0), Or.inr ⟨hNL, O_37, A_38, hCs, by omega⟩, rfl⟩
theorem own_ct0n (l : Launch) (Z : State) (a0 : Array Value) (hw : Wds Z a0) (n0 : Nat)  (a u u8 : Addr) (ku : ClassId) (hua : u ≠ a) (cpt : Int32) (h0 : Heap) (ga : n0 ≤ a) (O0 : Obj Z h0 a "java/lang/String" [("java/lang/String", "value", "[B", .null), ("java/lang/String", "coder", "B", (.int 0))]) (U0 : Arv Z h0 u ku .byte (0 : Int32) [] (.int 0)) (E0 : Exa Z h0 u "[B") (hn0 : n0 ≤ h0.size) (S_C : SC Z cpt) (hcpt : ¬ cpt = 0) (S_A : SA Z) (S_H : SH Z) (S_L : SL Z) (fm : Value) (hfm : fm.isRef = true) (S_F : SF Z fm) (S_I : Sta Z Z.heap "sun/nio/cs/UTF_8" "INSTANCE" "Lsun/nio/cs/UTF_8;" (.ref u8))  : ConH 1 l Z [("java/lang/String", 7)] n0 (⟨"java/lang/String", "<init>", "(Ljava/nio/charset/Charset;[BII)V"⟩ : MethodName) c7_ 11 none [((800 : Nat), (813 : Nat), (816 : Nat), (202 : Nat))] ({ frames := 5, cells := 4, slots := 48, locals := 83 } : Room) #[(.ref a), (.ref u8), (.ref u), (.int 0), (.int 0)] [a] h0 (fun v h D' => v = none ∧ ∃ t k, Keep h0 h [a] ∧ Sx Z h a t k ([] : List Int32) ∧ D' = []) := by
  refine ConH.of_runs (ls := #[vr a, vr u8, vr u, vi 0, vi 0, .unset, .unset, .unset, .unset, .unset, .unset]) (by decide +kernel) (fun m => by simp [entryFrame, mkF, argsToLocals, Value.category]) ?_
  refine Runs.aloadN i7_0 rfl rfl ?_
  refine Runs.initO (W := 0) i7_1 (w48 hw) (w17 hw) (w18 hw) rfl (by decide) rfl (by decide) ?_
  refine Runs.iload i7_4 rfl ?_
  refine Runs.ifN i7_6 (teq (by decide : (0 : Int32) = (0 : Int32))).2 ?_
  refine Runs.aloadN i7_9 rfl rfl ?_
  refine Runs.ldcT (vs := []) (z := (0 : Int32)) (n := 0) (by decide) i7_10 (hw _ (mi 182 rfl)) (own_sa hw) (own_EW hw) (mi 0 rfl) ⟨by decide, by decide⟩ (by decide) (by decide) (by decide) (by decide) (by decide) (by decide) ?_
  intro h_1 s_2 t_3 k_4 K_5 O_6 A_7 dd_8
  show Runs _ _ _ _ _ _ _ _ _ _ _ _ [a] h_1 2 4 12 #[vr a, vr u8, vr u, vi 0, vi 0, .unset, .unset, .unset, .unset, .unset, .unset] [(.ref s_2), (.ref a)]
  refine Runs.getF i7_12 (host := "") (Or.inl (w69 hw)) Via.refl (O_6.fld (i := 0) rfl) ?_
  have O_9 := (O0.keep K_5 nin0)
  refine Runs.putF (i := 0) (ty := (.array .byte)) i7_15 (host := "") (Or.inl (w69 hw)) Via.refl O_9 rfl (lay_0 hw) rfl (Or.inr ⟨(w70 hw), rfl, rfl⟩) (w31 hw) (by decide) rfl rfl ga (Or.inl (mi 0 rfl)) ?_
  intro h_10 K_11 (O_12 : Obj Z h_10 a "java/lang/String" [("java/lang/String", "value", "[B", (.ref t_3)), ("java/lang/String", "coder", "B", (.int 0))])
  refine Runs.aloadN i7_18 rfl rfl ?_
  refine Runs.ldcT (vs := []) (z := (0 : Int32)) (n := 0) (by decide) i7_19 (hw _ (mi 182 rfl)) (own_sa hw) (own_EW hw) (mi 0 rfl) ⟨by decide, by decide⟩ (by decide) (by decide) (by decide) (by decide) (by decide) (by decide) ?_
  intro h_13 s_14 t_15 k_16 K_17 O_18 A_19 dd_20
  show Runs _ _ _ _ _ _ _ _ _ _ _ _ [a] h_13 4 8 21 #[vr a, vr u8, vr u, vi 0, vi 0, .unset, .unset, .unset, .unset, .unset, .unset] [(.ref s_14), (.ref a)]
  refine Runs.getF i7_21 (host := "") (Or.inl (w71 hw)) Via.refl (O_18.fld (i := 1) rfl) ?_
  have O_21 := (O_12.keep K_17 nin0)
  refine Runs.putF (i := 1) (ty := .byte) i7_24 (host := "") (Or.inl (w71 hw)) Via.refl O_21 rfl (lay_0 hw) rfl (Or.inr ⟨(w72 hw), rfl, rfl⟩) (w31 hw) (by decide) rfl rfl ga (Or.inl (mi 0 rfl)) ?_
  intro h_22 K_23 (O_24 : Obj Z h_22 a "java/lang/String" [("java/lang/String", "value", "[B", (.ref t_3)), ("java/lang/String", "coder", "B", (.int 0))])
  refine Runs.goto (t := 879) i7_27 (by decide) ?_
  have A_25 := (((A_7.keep K_11 (ninS (Ne.symm (dd_8 _ (mi 0 rfl)).2) nin0)).keep K_17 nin0).keep K_23 (ninS (Ne.symm (dd_8 _ (mi 0 rfl)).2) nin0))
  refine Runs.weak (D1 := []) (fun _ q => nomatch q) ?_
  have A_26 : Arv Z h_22 t_3 k_4 .byte (Int32.ofNat (([] : List Int32).length)) (([] : List Int32).map own_b) (.int 0) := A_25
  exact Runs.retV i7_879 rfl (by first | decide | (dsimp only; first | decide | omega)) (by first | decide | (dsimp only; first | decide | omega)) ⟨rfl, t_3, k_4, (((((Keep.refl _ _).trans K_5 all0).trans K_11 (allS (Or.inl (mi 0 rfl)) all0)).trans K_17 all0).trans K_23 (allS (Or.inl (mi 0 rfl)) all0)), (Or.inl ⟨O_24, A_26, own_a0, by simp⟩), rfl⟩
theorem own_ct0p (l : Launch) (Z : State) (a0 : Array Value) (hw : Wds Z a0) (n0 : Nat)  (B : Nat) (hB : B < 128) (a u u8 : Addr) (ku : ClassId) (hua : u ≠ a) (cpt : Int32) (h0 : Heap) (ga : n0 ≤ a) (O0 : Obj Z h0 a "java/lang/String" [("java/lang/String", "value", "[B", .null), ("java/lang/String", "coder", "B", (.int 0))]) (U0 : Arv Z h0 u ku .byte (1 : Int32) [(.int (own_8 (Int32.ofNat B)))] (.int 0)) (E0 : Exa Z h0 u "[B") (hn0 : n0 ≤ h0.size) (S_C : SC Z cpt) (hcpt : ¬ cpt = 0) (S_A : SA Z) (S_H : SH Z) (S_L : SL Z) (fm : Value) (hfm : fm.isRef = true) (S_F : SF Z fm) (S_I : Sta Z Z.heap "sun/nio/cs/UTF_8" "INSTANCE" "Lsun/nio/cs/UTF_8;" (.ref u8))  : ConH 1 l Z [("java/lang/String", 7)] n0 (⟨"java/lang/String", "<init>", "(Ljava/nio/charset/Charset;[BII)V"⟩ : MethodName) c7_ 11 none [((800 : Nat), (813 : Nat), (816 : Nat), (202 : Nat))] ({ frames := 5, cells := 4, slots := 48, locals := 83 } : Room) #[(.ref a), (.ref u8), (.ref u), (.int 0), (.int 1)] [a] h0 (fun v h D' => v = none ∧ ∃ t k, Keep h0 h [a] ∧ Sx Z h a t k ([(Int32.ofNat B)] : List Int32) ∧ D' = []) := by
  refine ConH.of_runs (ls := #[vr a, vr u8, vr u, vi 0, vi 1, .unset, .unset, .unset, .unset, .unset, .unset]) (by decide +kernel) (fun m => by simp [entryFrame, mkF, argsToLocals, Value.category]) ?_
  refine Runs.aloadN i7_0 rfl rfl ?_
  refine Runs.initO (W := 0) i7_1 (w48 hw) (w17 hw) (w18 hw) rfl (by decide) rfl (by decide) ?_
  refine Runs.iload i7_4 rfl ?_
  refine Runs.ifY (t := 30) i7_6 (by decide) (feq (by decide : ¬ ((1 : Int32) = (0 : Int32)))).2 ?_
  refine Runs.aloadN i7_30 rfl rfl ?_
  refine Runs.getS i7_31 (w49 hw) Via.refl S_I ?_
  refine Runs.acN i7_34 rfl rfl (Jvm.Free.XT.aa_ne_f (congrArg Value.ref rfl)) ?_
  refine Runs.getS i7_37 (w51 hw) Via.refl S_C ?_
  refine Runs.ifN i7_40 (feq hcpt).1 ?_
  refine Runs.aloadN i7_43 rfl rfl ?_
  refine Runs.iloadN i7_44 rfl ?_
  refine Runs.iload i7_45 rfl ?_
  have U_1 : Arv Z h0 u ku .byte (Int32.ofNat ([(Int32.ofNat B)] : List Int32).length) (([(Int32.ofNat B)] : List Int32).map own_b) (.int 0) := U0
  refine Runs.callSW (argsL := [(.ref u), (.int 0), (.int 1)]) (rest := []) (W := 0) i7_47 (w52 hw) (w53 hw) (w54 hw) (w55 hw) (by decide) pd_18 rfl rfl rfl rfl (by decide) (by decide) (by decide) (by decide) all0 (by decide) (own_ctp l Z a0 hw n0 u ku ([(Int32.ofNat B)] : List Int32) (by simp) _ U_1) ?_
  intro v h1 D1 q hsz
  obtain ⟨j, rfl, hj1, hj2, hj3, rfl, rfl⟩ := q
  have hj : j = 1 := by
    have hj0 : j ≤ 1 := hj1
    rcases Nat.lt_trichotomy j 1 with q | q | q
    · obtain rfl : j = 0 := by omega
      exact absurd (hj3 (by simp)) (own_8p hB)
    · exact q
    · omega
  subst hj
  show Runs _ _ _ _ _ _ _ _ _ _ _ _ [a] h0 0 0 50 #[vr a, vr u8, vr u, vi 0, vi 1, .unset, .unset, .unset, .unset, .unset, .unset] [(.int 1)]
  refine Runs.istore (ls' := #[vr a, vr u8, vr u, vi 0, vi 1, vi 1, .unset, .unset, .unset, .unset, .unset]) i7_50 rfl ?_
  refine Runs.iload i7_52 rfl ?_
  refine Runs.iload i7_54 rfl ?_
  refine Runs.icN i7_56 (teq (by decide : (1 : Int32) = (1 : Int32))).2 ?_
  refine Runs.aloadN i7_59 rfl rfl ?_
  refine Runs.aloadN i7_60 rfl rfl ?_
  refine Runs.iloadN i7_61 rfl ?_
  refine Runs.iloadN i7_62 rfl ?_
  refine Runs.iload i7_63 rfl ?_
  refine Runs.iadd (z := (1 : Int32)) i7_65 (by decide) ?_
  refine Runs.callSW (argsL := [(.ref u), (.int 0), (.int 1)]) (rest := [(.ref a)]) (W := 1) i7_66 (w56 hw) (w57 hw) (w58 hw) (w59 hw) (by decide) pd_19 rfl rfl rfl rfl (by decide) (by decide) (by decide) (by decide) all0 (by decide) (own_cor l Z a0 hw n0 u ku 1 16 [(.int (own_8 (Int32.ofNat B)))] (by decide) _ U0 E0) ?_
  intro v h_6 D1 q hsz
  obtain ⟨b_2, rfl, g_3, K_4, A_5, rfl⟩ := q
  show Runs _ _ _ _ _ _ _ _ _ _ _ _ [b_2, a] h_6 1 16 69 #[vr a, vr u8, vr u, vi 0, vi 1, vi 1, .unset, .unset, .unset, .unset, .unset] [(.ref b_2), (.ref a)]
  have ge_b_2 : n0 ≤ b_2 := Nat.le_trans hn0 (Nat.le_trans (Nat.le_refl _) g_3)
  have O_7 := (O0.keep K_4 nin0)
  refine Runs.putF (i := 0) (ty := (.array .byte)) i7_69 (host := "") (Or.inl (w69 hw)) Via.refl O_7 rfl (lay_0 hw) rfl (Or.inr ⟨(w70 hw), rfl, rfl⟩) (w31 hw) (by decide) rfl rfl ga (Or.inl (mi 1 rfl)) ?_
  intro h_8 K_9 (O_10 : Obj Z h_8 a "java/lang/String" [("java/lang/String", "value", "[B", (.ref b_2)), ("java/lang/String", "coder", "B", (.int 0))])
  refine Runs.aloadN i7_72 rfl rfl ?_
  refine Runs.iconst (v := (0 : Int32)) i7_73 (by decide) ?_
  refine Runs.putF (i := 1) (ty := .byte) i7_74 (host := "") (Or.inl (w71 hw)) Via.refl O_10 rfl (lay_0 hw) rfl (Or.inr ⟨(w72 hw), rfl, rfl⟩) (w31 hw) (by decide) rfl rfl ga (Or.inl (mi 1 rfl)) ?_
  intro h_11 K_12 (O_13 : Obj Z h_11 a "java/lang/String" [("java/lang/String", "value", "[B", (.ref b_2)), ("java/lang/String", "coder", "B", (.int 0))])
  have A_14 := ((A_5.keep K_9 (ninS (Nat.ne_of_gt (Nat.lt_of_lt_of_le (Nat.lt_of_lt_of_le O0.lt (Nat.le_refl _)) g_3)) nin0)).keep K_12 (ninS (Nat.ne_of_gt (Nat.lt_of_lt_of_le (Nat.lt_of_lt_of_le O0.lt (Nat.le_refl _)) g_3)) nin0))
  refine Runs.weak (D1 := []) (fun _ q => nomatch q) ?_
  have A_15 : Arv Z h_11 b_2 ku .byte (Int32.ofNat (([(Int32.ofNat B)] : List Int32).length)) (([(Int32.ofNat B)] : List Int32).map own_b) (.int 0) := A_14
  exact Runs.retV i7_77 rfl (by first | decide | (dsimp only; first | decide | omega)) (by first | decide | (dsimp only; first | decide | omega)) ⟨rfl, b_2, ku, ((((Keep.refl _ _).trans K_4 all0).trans K_9 (allS (Or.inl (mi 0 rfl)) all0)).trans K_12 (allS (Or.inl (mi 0 rfl)) all0)), (Or.inl ⟨O_13, A_15, (own_aS (own_latN (by omega)) own_a0), by simp⟩), rfl⟩
theorem own_ct0g (l : Launch) (Z : State) (a0 : Array Value) (hw : Wds Z a0) (n0 : Nat)  (B : Nat) (hB : 128 ≤ B ∧ B < 256) (a u u8 : Addr) (ku : ClassId) (hua : u ≠ a) (cpt : Int32) (h0 : Heap) (ga : n0 ≤ a) (O0 : Obj Z h0 a "java/lang/String" [("java/lang/String", "value", "[B", .null), ("java/lang/String", "coder", "B", (.int 0))]) (U0 : Arv Z h0 u ku .byte (1 : Int32) [(.int (own_8 (Int32.ofNat B)))] (.int 0)) (E0 : Exa Z h0 u "[B") (hn0 : n0 ≤ h0.size) (S_C : SC Z cpt) (hcpt : ¬ cpt = 0) (S_A : SA Z) (S_H : SH Z) (S_L : SL Z) (fm : Value) (hfm : fm.isRef = true) (S_F : SF Z fm) (S_I : Sta Z Z.heap "sun/nio/cs/UTF_8" "INSTANCE" "Lsun/nio/cs/UTF_8;" (.ref u8))  : ConH 1 l Z [("java/lang/String", 7)] n0 (⟨"java/lang/String", "<init>", "(Ljava/nio/charset/Charset;[BII)V"⟩ : MethodName) c7_ 11 none [((800 : Nat), (813 : Nat), (816 : Nat), (202 : Nat))] ({ frames := 5, cells := 4, slots := 48, locals := 83 } : Room) #[(.ref a), (.ref u8), (.ref u), (.int 0), (.int 1)] [a] h0 (fun v h D' => v = none ∧ ∃ t k, Keep h0 h [a] ∧ Sx Z h a t k ([(65533 : Int32)] : List Int32) ∧ D' = []) := by
  refine ConH.of_runs (ls := #[vr a, vr u8, vr u, vi 0, vi 1, .unset, .unset, .unset, .unset, .unset, .unset]) (by decide +kernel) (fun m => by simp [entryFrame, mkF, argsToLocals, Value.category]) ?_
  refine Runs.aloadN i7_0 rfl rfl ?_
  refine Runs.initO (W := 0) i7_1 (w48 hw) (w17 hw) (w18 hw) rfl (by decide) rfl (by decide) ?_
  refine Runs.iload i7_4 rfl ?_
  refine Runs.ifY (t := 30) i7_6 (by decide) (feq (by decide : ¬ ((1 : Int32) = (0 : Int32)))).2 ?_
  refine Runs.aloadN i7_30 rfl rfl ?_
  refine Runs.getS i7_31 (w49 hw) Via.refl S_I ?_
  refine Runs.acN i7_34 rfl rfl (Jvm.Free.XT.aa_ne_f (congrArg Value.ref rfl)) ?_
  refine Runs.getS i7_37 (w51 hw) Via.refl S_C ?_
  refine Runs.ifN i7_40 (feq hcpt).1 ?_
  refine Runs.aloadN i7_43 rfl rfl ?_
  refine Runs.iloadN i7_44 rfl ?_
  refine Runs.iload i7_45 rfl ?_
  have U_1 : Arv Z h0 u ku .byte (Int32.ofNat ([(Int32.ofNat B)] : List Int32).length) (([(Int32.ofNat B)] : List Int32).map own_b) (.int 0) := U0
  refine Runs.callSW (argsL := [(.ref u), (.int 0), (.int 1)]) (rest := []) (W := 0) i7_47 (w52 hw) (w53 hw) (w54 hw) (w55 hw) (by decide) pd_18 rfl rfl rfl rfl (by decide) (by decide) (by decide) (by decide) all0 (by decide) (own_ctp l Z a0 hw n0 u ku ([(Int32.ofNat B)] : List Int32) (by simp) _ U_1) ?_
  intro v h1 D1 q hsz
  obtain ⟨j, rfl, hj1, hj2, hj3, rfl, rfl⟩ := q
  have hj : j = 0 := by
    have hj0 : j ≤ 1 := hj1
    rcases Nat.lt_trichotomy j 0 with q | q | q
    · exact absurd q (Nat.not_lt_zero _)
    · exact q
    · exact absurd (own_8g hB) (hj2 0 q)
  subst hj
  show Runs _ _ _ _ _ _ _ _ _ _ _ _ [a] h0 0 0 50 #[vr a, vr u8, vr u, vi 0, vi 1, .unset, .unset, .unset, .unset, .unset, .unset] [(.int 0)]
  refine Runs.istore (ls' := #[vr a, vr u8, vr u, vi 0, vi 1, vi 0, .unset, .unset, .unset, .unset, .unset]) i7_50 rfl ?_
  refine Runs.iload i7_52 rfl ?_
  refine Runs.iload i7_54 rfl ?_
  refine Runs.icY (t := 78) i7_56 (by decide) (feq (by decide : ¬ ((0 : Int32) = (1 : Int32)))).2 ?_
  refine Runs.aloadN i7_78 rfl rfl ?_
  refine Runs.iloadN i7_79 rfl ?_
  refine Runs.iloadN i7_80 rfl ?_
  refine Runs.iload i7_81 rfl ?_
  refine Runs.iadd (z := (1 : Int32)) i7_83 (by decide) ?_
  refine Runs.callSW (argsL := [(.ref u), (.int 0), (.int 1)]) (rest := []) (W := 0) i7_84 (w56 hw) (w57 hw) (w58 hw) (w59 hw) (by decide) pd_19 rfl rfl rfl rfl (by decide) (by decide) (by decide) (by decide) all0 (by decide) (own_cor l Z a0 hw n0 u ku 1 16 [(.int (own_8 (Int32.ofNat B)))] (by decide) _ U0 E0) ?_
  intro v h_6 D1 q hsz
  obtain ⟨b_2, rfl, g_3, K_4, A_5, rfl⟩ := q
  show Runs _ _ _ _ _ _ _ _ _ _ _ _ [b_2, a] h_6 1 16 87 #[vr a, vr u8, vr u, vi 0, vi 1, vi 0, .unset, .unset, .unset, .unset, .unset] [(.ref b_2)]
  have ge_b_2 : n0 ≤ b_2 := Nat.le_trans hn0 (Nat.le_trans (Nat.le_refl _) g_3)
  refine Runs.astore (ls' := #[vr a, vr u8, vr u, vi 0, vi 1, vi 0, vr b_2, .unset, .unset, .unset, .unset]) i7_87 rfl rfl ?_
  refine Runs.iload i7_89 rfl ?_
  refine Runs.istore (ls' := #[vr a, vr u8, vr u, vi 0, vi 1, vi 0, vr b_2, vi 0, .unset, .unset, .unset]) i7_91 rfl ?_
  refine Runs.iload i7_93 rfl ?_
  refine Runs.iload i7_95 rfl ?_
  refine Runs.icN i7_97 (tlt (by decide : (0 : Int32) < (1 : Int32))).2.1 ?_
  refine Runs.aload i7_100 rfl rfl ?_
  refine Runs.iload i7_102 rfl ?_
  refine Runs.iinc (z := (1 : Int32)) (ls' := #[vr a, vr u8, vr u, vi 0, vi 1, vi 0, vr b_2, vi 1, .unset, .unset, .unset]) i7_104 rfl (by decide) rfl ?_
  refine Runs.baload (v := (.int (own_8 (Int32.ofNat B)))) i7_107 A_5 ⟨by decide, by decide⟩ rfl ?_
  refine Runs.istore (ls' := #[vr a, vr u8, vr u, vi 0, vi 1, vi 0, vr b_2, vi 1, vi (own_8 (Int32.ofNat B)), .unset, .unset]) i7_108 rfl ?_
  refine Runs.iload i7_110 rfl ?_
  refine Runs.ifY (t := 129) i7_112 (by decide) (tlt (own_8g hB)).1 ?_
  refine Runs.iload i7_129 rfl ?_
  refine Runs.sipush (v := (254 : Int32)) i7_131 (by decide) ?_
  refine Runs.iand (z := ((own_8 (Int32.ofNat B)) &&& (254 : Int32))) i7_134 rfl ?_
  refine Runs.sipush (v := (194 : Int32)) i7_135 (by decide) ?_
  by_cases hc138 : ((own_8 (Int32.ofNat B)) &&& (254 : Int32)) = (194 : Int32)
  · refine Runs.icN i7_138 (teq hc138).2 ?_
    refine Runs.iload i7_141 rfl ?_
    refine Runs.iload i7_143 rfl ?_
    refine Runs.icY (t := 184) i7_145 (by decide) (flt (by decide : ¬ ((1 : Int32) < (1 : Int32)))).2.1 ?_
    refine Runs.iinc (z := (0 : Int32)) (ls' := #[vr a, vr u8, vr u, vi 0, vi 1, vi 0, vr b_2, vi 0, vi (own_8 (Int32.ofNat B)), .unset, .unset]) i7_184 rfl (by decide) rfl ?_
    refine Runs.goto (t := 190) i7_187 (by decide) ?_
    refine Runs.weak (D1 := [b_2, a]) (by simp) ?_
    have O_7 := (O0.keep K_4 nin0)
    exact own_c190 l Z a0 hw n0 a u u8 b_2 ku 1 0 ([] : List Int32) ([(65533 : Int32)] : List Int32) [(.int (own_8 (Int32.ofNat B)))] (own_8 (Int32.ofNat B)) (.unset) (.unset) (by decide) (by decide) (by simp) (by simp) own_lat0 (fun i hi => absurd hi (Nat.not_lt_zero _)) (own_nlat (mi 0 rfl) (by decide)) (own_aS ⟨by decide, by decide⟩ own_a0) ga S_A S_H S_L fm hfm S_F (fun b kb h1 hne gb A1 B1 => own_dng l Z a0 hw n0 b_2 b ku kb [(.int (own_8 (Int32.ofNat B)))] 1 hne (by decide) h1 A1 gb S_A S_H S_L ([] : List Int32) 0 (by simp) rfl (own_8 (Int32.ofNat B)) (own_8g hB) rfl B1) _ _ ((Keep.refl _ _).trans K_4 all0) (Nat.le_trans hn0 K_4.1) O_7 A_5
  · refine Runs.icY (t := 184) i7_138 (by decide) (feq hc138).2 ?_
    refine Runs.iinc (z := (0 : Int32)) (ls' := #[vr a, vr u8, vr u, vi 0, vi 1, vi 0, vr b_2, vi 0, vi (own_8 (Int32.ofNat B)), .unset, .unset]) i7_184 rfl (by decide) rfl ?_
    refine Runs.goto (t := 190) i7_187 (by decide) ?_
    refine Runs.weak (D1 := [b_2, a]) (by simp) ?_
    have O_8 := (O0.keep K_4 nin0)
    exact own_c190 l Z a0 hw n0 a u u8 b_2 ku 1 0 ([] : List Int32) ([(65533 : Int32)] : List Int32) [(.int (own_8 (Int32.ofNat B)))] (own_8 (Int32.ofNat B)) (.unset) (.unset) (by decide) (by decide) (by simp) (by simp) own_lat0 (fun i hi => absurd hi (Nat.not_lt_zero _)) (own_nlat (mi 0 rfl) (by decide)) (own_aS ⟨by decide, by decide⟩ own_a0) ga S_A S_H S_L fm hfm S_F (fun b kb h1 hne gb A1 B1 => own_dng l Z a0 hw n0 b_2 b ku kb [(.int (own_8 (Int32.ofNat B)))] 1 hne (by decide) h1 A1 gb S_A S_H S_L ([] : List Int32) 0 (by simp) rfl (own_8 (Int32.ofNat B)) (own_8g hB) rfl B1) _ _ ((Keep.refl _ _).trans K_4 all0) (Nat.le_trans hn0 K_4.1) O_8 A_5
theorem own_ct1n (l : Launch) (Z : State) (a0 : Array Value) (hw : Wds Z a0) (n0 : Nat) (N : Nat) (hN : N < 128) (a u u8 : Addr) (ku : ClassId) (hua : u ≠ a) (cpt : Int32) (h0 : Heap) (ga : n0 ≤ a) (O0 : Obj Z h0 a "java/lang/String" [("java/lang/String", "value", "[B", .null), ("java/lang/String", "coder", "B", (.int 0))]) (U0 : Arv Z h0 u ku .byte (1 : Int32) [(.int (own_8 (Int32.ofNat N)))] (.int 0)) (E0 : Exa Z h0 u "[B") (hn0 : n0 ≤ h0.size) (S_C : SC Z cpt) (hcpt : ¬ cpt = 0) (S_A : SA Z) (S_H : SH Z) (S_L : SL Z) (fm : Value) (hfm : fm.isRef = true) (S_F : SF Z fm) (S_I : Sta Z Z.heap "sun/nio/cs/UTF_8" "INSTANCE" "Lsun/nio/cs/UTF_8;" (.ref u8))  : ConH 1 l Z [("java/lang/String", 7)] n0 (⟨"java/lang/String", "<init>", "(Ljava/nio/charset/Charset;[BII)V"⟩ : MethodName) c7_ 11 none [((800 : Nat), (813 : Nat), (816 : Nat), (202 : Nat))] ({ frames := 5, cells := 4, slots := 48, locals := 83 } : Room) #[(.ref a), (.ref u8), (.ref u), (.int 0), (.int 1)] [a] h0 (fun v h D' => v = none ∧ ∃ t k, Keep h0 h [a] ∧ Sx Z h a t k ([(Int32.ofNat N)] : List Int32) ∧ D' = []) := by
  refine ConH.of_runs (ls := #[vr a, vr u8, vr u, vi 0, vi 1, .unset, .unset, .unset, .unset, .unset, .unset]) (by decide +kernel) (fun m => by simp [entryFrame, mkF, argsToLocals, Value.category]) ?_
  refine Runs.aloadN i7_0 rfl rfl ?_
  refine Runs.initO (W := 0) i7_1 (w48 hw) (w17 hw) (w18 hw) rfl (by decide) rfl (by decide) ?_
  refine Runs.iload i7_4 rfl ?_
  refine Runs.ifY (t := 30) i7_6 (by decide) (feq (by decide : ¬ ((1 : Int32) = (0 : Int32)))).2 ?_
  refine Runs.aloadN i7_30 rfl rfl ?_
  refine Runs.getS i7_31 (w49 hw) Via.refl S_I ?_
  refine Runs.acN i7_34 rfl rfl (Jvm.Free.XT.aa_ne_f (congrArg Value.ref rfl)) ?_
  refine Runs.getS i7_37 (w51 hw) Via.refl S_C ?_
  refine Runs.ifN i7_40 (feq hcpt).1 ?_
  refine Runs.aloadN i7_43 rfl rfl ?_
  refine Runs.iloadN i7_44 rfl ?_
  refine Runs.iload i7_45 rfl ?_
  have U_1 : Arv Z h0 u ku .byte (Int32.ofNat ([(Int32.ofNat N)] : List Int32).length) (([(Int32.ofNat N)] : List Int32).map own_b) (.int 0) := U0
  refine Runs.callSW (argsL := [(.ref u), (.int 0), (.int 1)]) (rest := []) (W := 0) i7_47 (w52 hw) (w53 hw) (w54 hw) (w55 hw) (by decide) pd_18 rfl rfl rfl rfl (by decide) (by decide) (by decide) (by decide) all0 (by decide) (own_ctp l Z a0 hw n0 u ku ([(Int32.ofNat N)] : List Int32) (by simp) _ U_1) ?_
  intro v h1 D1 q hsz
  obtain ⟨j, rfl, hj1, hj2, hj3, rfl, rfl⟩ := q
  have hj : j = 1 := by
    have hj0 : j ≤ 1 := hj1
    rcases Nat.lt_trichotomy j 1 with q | q | q
    · obtain rfl : j = 0 := by omega
      exact absurd (hj3 (by simp)) (own_8p hN)
    · exact q
    · omega
  subst hj
  show Runs _ _ _ _ _ _ _ _ _ _ _ _ [a] h0 0 0 50 #[vr a, vr u8, vr u, vi 0, vi 1, .unset, .unset, .unset, .unset, .unset, .unset] [(.int 1)]
  refine Runs.istore (ls' := #[vr a, vr u8, vr u, vi 0, vi 1, vi 1, .unset, .unset, .unset, .unset, .unset]) i7_50 rfl ?_
  refine Runs.iload i7_52 rfl ?_
  refine Runs.iload i7_54 rfl ?_
  refine Runs.icN i7_56 (teq (by decide : (1 : Int32) = (1 : Int32))).2 ?_
  refine Runs.aloadN i7_59 rfl rfl ?_
  refine Runs.aloadN i7_60 rfl rfl ?_
  refine Runs.iloadN i7_61 rfl ?_
  refine Runs.iloadN i7_62 rfl ?_
  refine Runs.iload i7_63 rfl ?_
  refine Runs.iadd (z := (1 : Int32)) i7_65 (by decide) ?_
  refine Runs.callSW (argsL := [(.ref u), (.int 0), (.int 1)]) (rest := [(.ref a)]) (W := 1) i7_66 (w56 hw) (w57 hw) (w58 hw) (w59 hw) (by decide) pd_19 rfl rfl rfl rfl (by decide) (by decide) (by decide) (by decide) all0 (by decide) (own_cor l Z a0 hw n0 u ku 1 16 [(.int (own_8 (Int32.ofNat N)))] (by decide) _ U0 E0) ?_
  intro v h_6 D1 q hsz
  obtain ⟨b_2, rfl, g_3, K_4, A_5, rfl⟩ := q
  show Runs _ _ _ _ _ _ _ _ _ _ _ _ [b_2, a] h_6 1 16 69 #[vr a, vr u8, vr u, vi 0, vi 1, vi 1, .unset, .unset, .unset, .unset, .unset] [(.ref b_2), (.ref a)]
  have ge_b_2 : n0 ≤ b_2 := Nat.le_trans hn0 (Nat.le_trans (Nat.le_refl _) g_3)
  have O_7 := (O0.keep K_4 nin0)
  refine Runs.putF (i := 0) (ty := (.array .byte)) i7_69 (host := "") (Or.inl (w69 hw)) Via.refl O_7 rfl (lay_0 hw) rfl (Or.inr ⟨(w70 hw), rfl, rfl⟩) (w31 hw) (by decide) rfl rfl ga (Or.inl (mi 1 rfl)) ?_
  intro h_8 K_9 (O_10 : Obj Z h_8 a "java/lang/String" [("java/lang/String", "value", "[B", (.ref b_2)), ("java/lang/String", "coder", "B", (.int 0))])
  refine Runs.aloadN i7_72 rfl rfl ?_
  refine Runs.iconst (v := (0 : Int32)) i7_73 (by decide) ?_
  refine Runs.putF (i := 1) (ty := .byte) i7_74 (host := "") (Or.inl (w71 hw)) Via.refl O_10 rfl (lay_0 hw) rfl (Or.inr ⟨(w72 hw), rfl, rfl⟩) (w31 hw) (by decide) rfl rfl ga (Or.inl (mi 1 rfl)) ?_
  intro h_11 K_12 (O_13 : Obj Z h_11 a "java/lang/String" [("java/lang/String", "value", "[B", (.ref b_2)), ("java/lang/String", "coder", "B", (.int 0))])
  have A_14 := ((A_5.keep K_9 (ninS (Nat.ne_of_gt (Nat.lt_of_lt_of_le (Nat.lt_of_lt_of_le O0.lt (Nat.le_refl _)) g_3)) nin0)).keep K_12 (ninS (Nat.ne_of_gt (Nat.lt_of_lt_of_le (Nat.lt_of_lt_of_le O0.lt (Nat.le_refl _)) g_3)) nin0))
  refine Runs.weak (D1 := []) (fun _ q => nomatch q) ?_
  have A_15 : Arv Z h_11 b_2 ku .byte (Int32.ofNat (([(Int32.ofNat N)] : List Int32).length)) (([(Int32.ofNat N)] : List Int32).map own_b) (.int 0) := A_14
  exact Runs.retV i7_77 rfl (by first | decide | (dsimp only; first | decide | omega)) (by first | decide | (dsimp only; first | decide | omega)) ⟨rfl, b_2, ku, ((((Keep.refl _ _).trans K_4 all0).trans K_9 (allS (Or.inl (mi 0 rfl)) all0)).trans K_12 (allS (Or.inl (mi 0 rfl)) all0)), (Or.inl ⟨O_13, A_15, (own_aS (own_latN (by omega)) own_a0), by simp⟩), rfl⟩
theorem own_ct1p (l : Launch) (Z : State) (a0 : Array Value) (hw : Wds Z a0) (n0 : Nat) (N : Nat) (hN : N < 128) (B : Nat) (hB : B < 128) (a u u8 : Addr) (ku : ClassId) (hua : u ≠ a) (cpt : Int32) (h0 : Heap) (ga : n0 ≤ a) (O0 : Obj Z h0 a "java/lang/String" [("java/lang/String", "value", "[B", .null), ("java/lang/String", "coder", "B", (.int 0))]) (U0 : Arv Z h0 u ku .byte (2 : Int32) [(.int (own_8 (Int32.ofNat N))), (.int (own_8 (Int32.ofNat B)))] (.int 0)) (E0 : Exa Z h0 u "[B") (hn0 : n0 ≤ h0.size) (S_C : SC Z cpt) (hcpt : ¬ cpt = 0) (S_A : SA Z) (S_H : SH Z) (S_L : SL Z) (fm : Value) (hfm : fm.isRef = true) (S_F : SF Z fm) (S_I : Sta Z Z.heap "sun/nio/cs/UTF_8" "INSTANCE" "Lsun/nio/cs/UTF_8;" (.ref u8))  : ConH 1 l Z [("java/lang/String", 7)] n0 (⟨"java/lang/String", "<init>", "(Ljava/nio/charset/Charset;[BII)V"⟩ : MethodName) c7_ 11 none [((800 : Nat), (813 : Nat), (816 : Nat), (202 : Nat))] ({ frames := 5, cells := 4, slots := 48, locals := 83 } : Room) #[(.ref a), (.ref u8), (.ref u), (.int 0), (.int 2)] [a] h0 (fun v h D' => v = none ∧ ∃ t k, Keep h0 h [a] ∧ Sx Z h a t k ([(Int32.ofNat N), (Int32.ofNat B)] : List Int32) ∧ D' = []) := by
  refine ConH.of_runs (ls := #[vr a, vr u8, vr u, vi 0, vi 2, .unset, .unset, .unset, .unset, .unset, .unset]) (by decide +kernel) (fun m => by simp [entryFrame, mkF, argsToLocals, Value.category]) ?_
  refine Runs.aloadN i7_0 rfl rfl ?_
  refine Runs.initO (W := 0) i7_1 (w48 hw) (w17 hw) (w18 hw) rfl (by decide) rfl (by decide) ?_
  refine Runs.iload i7_4 rfl ?_
  refine Runs.ifY (t := 30) i7_6 (by decide) (feq (by decide : ¬ ((2 : Int32) = (0 : Int32)))).2 ?_
  refine Runs.aloadN i7_30 rfl rfl ?_
  refine Runs.getS i7_31 (w49 hw) Via.refl S_I ?_
  refine Runs.acN i7_34 rfl rfl (Jvm.Free.XT.aa_ne_f (congrArg Value.ref rfl)) ?_
  refine Runs.getS i7_37 (w51 hw) Via.refl S_C ?_
  refine Runs.ifN i7_40 (feq hcpt).1 ?_
  refine Runs.aloadN i7_43 rfl rfl ?_
  refine Runs.iloadN i7_44 rfl ?_
  refine Runs.iload i7_45 rfl ?_
  have U_1 : Arv Z h0 u ku .byte (Int32.ofNat ([(Int32.ofNat N), (Int32.ofNat B)] : List Int32).length) (([(Int32.ofNat N), (Int32.ofNat B)] : List Int32).map own_b) (.int 0) := U0
  refine Runs.callSW (argsL := [(.ref u), (.int 0), (.int 2)]) (rest := []) (W := 0) i7_47 (w52 hw) (w53 hw) (w54 hw) (w55 hw) (by decide) pd_18 rfl rfl rfl rfl (by decide) (by decide) (by decide) (by decide) all0 (by decide) (own_ctp l Z a0 hw n0 u ku ([(Int32.ofNat N), (Int32.ofNat B)] : List Int32) (by simp) _ U_1) ?_
  intro v h1 D1 q hsz
  obtain ⟨j, rfl, hj1, hj2, hj3, rfl, rfl⟩ := q
  have hj : j = 2 := by
    have hj0 : j ≤ 2 := hj1
    rcases Nat.lt_trichotomy j 2 with q | q | q
    · rcases (show j = 0 ∨ j = 1 by omega) with rfl | rfl
      · exact absurd (hj3 (by simp)) (own_8p hN)
      · exact absurd (hj3 (by simp)) (own_8p hB)
    · exact q
    · omega
  subst hj
  show Runs _ _ _ _ _ _ _ _ _ _ _ _ [a] h0 0 0 50 #[vr a, vr u8, vr u, vi 0, vi 2, .unset, .unset, .unset, .unset, .unset, .unset] [(.int 2)]
  refine Runs.istore (ls' := #[vr a, vr u8, vr u, vi 0, vi 2, vi 2, .unset, .unset, .unset, .unset, .unset]) i7_50 rfl ?_
  refine Runs.iload i7_52 rfl ?_
  refine Runs.iload i7_54 rfl ?_
  refine Runs.icN i7_56 (teq (by decide : (2 : Int32) = (2 : Int32))).2 ?_
  refine Runs.aloadN i7_59 rfl rfl ?_
  refine Runs.aloadN i7_60 rfl rfl ?_
  refine Runs.iloadN i7_61 rfl ?_
  refine Runs.iloadN i7_62 rfl ?_
  refine Runs.iload i7_63 rfl ?_
  refine Runs.iadd (z := (2 : Int32)) i7_65 (by decide) ?_
  refine Runs.callSW (argsL := [(.ref u), (.int 0), (.int 2)]) (rest := [(.ref a)]) (W := 1) i7_66 (w56 hw) (w57 hw) (w58 hw) (w59 hw) (by decide) pd_19 rfl rfl rfl rfl (by decide) (by decide) (by decide) (by decide) all0 (by decide) (own_cor l Z a0 hw n0 u ku 2 16 [(.int (own_8 (Int32.ofNat N))), (.int (own_8 (Int32.ofNat B)))] (by decide) _ U0 E0) ?_
  intro v h_6 D1 q hsz
  obtain ⟨b_2, rfl, g_3, K_4, A_5, rfl⟩ := q
  show Runs _ _ _ _ _ _ _ _ _ _ _ _ [b_2, a] h_6 1 16 69 #[vr a, vr u8, vr u, vi 0, vi 2, vi 2, .unset, .unset, .unset, .unset, .unset] [(.ref b_2), (.ref a)]
  have ge_b_2 : n0 ≤ b_2 := Nat.le_trans hn0 (Nat.le_trans (Nat.le_refl _) g_3)
  have O_7 := (O0.keep K_4 nin0)
  refine Runs.putF (i := 0) (ty := (.array .byte)) i7_69 (host := "") (Or.inl (w69 hw)) Via.refl O_7 rfl (lay_0 hw) rfl (Or.inr ⟨(w70 hw), rfl, rfl⟩) (w31 hw) (by decide) rfl rfl ga (Or.inl (mi 1 rfl)) ?_
  intro h_8 K_9 (O_10 : Obj Z h_8 a "java/lang/String" [("java/lang/String", "value", "[B", (.ref b_2)), ("java/lang/String", "coder", "B", (.int 0))])
  refine Runs.aloadN i7_72 rfl rfl ?_
  refine Runs.iconst (v := (0 : Int32)) i7_73 (by decide) ?_
  refine Runs.putF (i := 1) (ty := .byte) i7_74 (host := "") (Or.inl (w71 hw)) Via.refl O_10 rfl (lay_0 hw) rfl (Or.inr ⟨(w72 hw), rfl, rfl⟩) (w31 hw) (by decide) rfl rfl ga (Or.inl (mi 1 rfl)) ?_
  intro h_11 K_12 (O_13 : Obj Z h_11 a "java/lang/String" [("java/lang/String", "value", "[B", (.ref b_2)), ("java/lang/String", "coder", "B", (.int 0))])
  have A_14 := ((A_5.keep K_9 (ninS (Nat.ne_of_gt (Nat.lt_of_lt_of_le (Nat.lt_of_lt_of_le O0.lt (Nat.le_refl _)) g_3)) nin0)).keep K_12 (ninS (Nat.ne_of_gt (Nat.lt_of_lt_of_le (Nat.lt_of_lt_of_le O0.lt (Nat.le_refl _)) g_3)) nin0))
  refine Runs.weak (D1 := []) (fun _ q => nomatch q) ?_
  have A_15 : Arv Z h_11 b_2 ku .byte (Int32.ofNat (([(Int32.ofNat N), (Int32.ofNat B)] : List Int32).length)) (([(Int32.ofNat N), (Int32.ofNat B)] : List Int32).map own_b) (.int 0) := A_14
  exact Runs.retV i7_77 rfl (by first | decide | (dsimp only; first | decide | omega)) (by first | decide | (dsimp only; first | decide | omega)) ⟨rfl, b_2, ku, ((((Keep.refl _ _).trans K_4 all0).trans K_9 (allS (Or.inl (mi 0 rfl)) all0)).trans K_12 (allS (Or.inl (mi 0 rfl)) all0)), (Or.inl ⟨O_13, A_15, (own_aS (own_latN (by omega)) (own_aS (own_latN (by omega)) own_a0)), by simp⟩), rfl⟩
theorem own_ct1g (l : Launch) (Z : State) (a0 : Array Value) (hw : Wds Z a0) (n0 : Nat) (N : Nat) (hN : N < 128) (B : Nat) (hB : 128 ≤ B ∧ B < 256) (a u u8 : Addr) (ku : ClassId) (hua : u ≠ a) (cpt : Int32) (h0 : Heap) (ga : n0 ≤ a) (O0 : Obj Z h0 a "java/lang/String" [("java/lang/String", "value", "[B", .null), ("java/lang/String", "coder", "B", (.int 0))]) (U0 : Arv Z h0 u ku .byte (2 : Int32) [(.int (own_8 (Int32.ofNat N))), (.int (own_8 (Int32.ofNat B)))] (.int 0)) (E0 : Exa Z h0 u "[B") (hn0 : n0 ≤ h0.size) (S_C : SC Z cpt) (hcpt : ¬ cpt = 0) (S_A : SA Z) (S_H : SH Z) (S_L : SL Z) (fm : Value) (hfm : fm.isRef = true) (S_F : SF Z fm) (S_I : Sta Z Z.heap "sun/nio/cs/UTF_8" "INSTANCE" "Lsun/nio/cs/UTF_8;" (.ref u8))  : ConH 1 l Z [("java/lang/String", 7)] n0 (⟨"java/lang/String", "<init>", "(Ljava/nio/charset/Charset;[BII)V"⟩ : MethodName) c7_ 11 none [((800 : Nat), (813 : Nat), (816 : Nat), (202 : Nat))] ({ frames := 5, cells := 4, slots := 48, locals := 83 } : Room) #[(.ref a), (.ref u8), (.ref u), (.int 0), (.int 2)] [a] h0 (fun v h D' => v = none ∧ ∃ t k, Keep h0 h [a] ∧ Sx Z h a t k ([(Int32.ofNat N), (65533 : Int32)] : List Int32) ∧ D' = []) := by
  refine ConH.of_runs (ls := #[vr a, vr u8, vr u, vi 0, vi 2, .unset, .unset, .unset, .unset, .unset, .unset]) (by decide +kernel) (fun m => by simp [entryFrame, mkF, argsToLocals, Value.category]) ?_
  refine Runs.aloadN i7_0 rfl rfl ?_
  refine Runs.initO (W := 0) i7_1 (w48 hw) (w17 hw) (w18 hw) rfl (by decide) rfl (by decide) ?_
  refine Runs.iload i7_4 rfl ?_
  refine Runs.ifY (t := 30) i7_6 (by decide) (feq (by decide : ¬ ((2 : Int32) = (0 : Int32)))).2 ?_
  refine Runs.aloadN i7_30 rfl rfl ?_
  refine Runs.getS i7_31 (w49 hw) Via.refl S_I ?_
  refine Runs.acN i7_34 rfl rfl (Jvm.Free.XT.aa_ne_f (congrArg Value.ref rfl)) ?_
  refine Runs.getS i7_37 (w51 hw) Via.refl S_C ?_
  refine Runs.ifN i7_40 (feq hcpt).1 ?_
  refine Runs.aloadN i7_43 rfl rfl ?_
  refine Runs.iloadN i7_44 rfl ?_
  refine Runs.iload i7_45 rfl ?_
  have U_1 : Arv Z h0 u ku .byte (Int32.ofNat ([(Int32.ofNat N), (Int32.ofNat B)] : List Int32).length) (([(Int32.ofNat N), (Int32.ofNat B)] : List Int32).map own_b) (.int 0) := U0
  refine Runs.callSW (argsL := [(.ref u), (.int 0), (.int 2)]) (rest := []) (W := 0) i7_47 (w52 hw) (w53 hw) (w54 hw) (w55 hw) (by decide) pd_18 rfl rfl rfl rfl (by decide) (by decide) (by decide) (by decide) all0 (by decide) (own_ctp l Z a0 hw n0 u ku ([(Int32.ofNat N), (Int32.ofNat B)] : List Int32) (by simp) _ U_1) ?_
  intro v h1 D1 q hsz
  obtain ⟨j, rfl, hj1, hj2, hj3, rfl, rfl⟩ := q
  have hj : j = 1 := by
    have hj0 : j ≤ 2 := hj1
    rcases Nat.lt_trichotomy j 1 with q | q | q
    · obtain rfl : j = 0 := by omega
      exact absurd (hj3 (by simp)) (own_8p hN)
    · exact q
    · exact absurd (own_8g hB) (hj2 1 q)
  subst hj
  show Runs _ _ _ _ _ _ _ _ _ _ _ _ [a] h0 0 0 50 #[vr a, vr u8, vr u, vi 0, vi 2, .unset, .unset, .unset, .unset, .unset, .unset] [(.int 1)]
  refine Runs.istore (ls' := #[vr a, vr u8, vr u, vi 0, vi 2, vi 1, .unset, .unset, .unset, .unset, .unset]) i7_50 rfl ?_
  refine Runs.iload i7_52 rfl ?_
  refine Runs.iload i7_54 rfl ?_
  refine Runs.icY (t := 78) i7_56 (by decide) (feq (by decide : ¬ ((1 : Int32) = (2 : Int32)))).2 ?_
  refine Runs.aloadN i7_78 rfl rfl ?_
  refine Runs.iloadN i7_79 rfl ?_
  refine Runs.iloadN i7_80 rfl ?_
  refine Runs.iload i7_81 rfl ?_
  refine Runs.iadd (z := (2 : Int32)) i7_83 (by decide) ?_
  refine Runs.callSW (argsL := [(.ref u), (.int 0), (.int 2)]) (rest := []) (W := 0) i7_84 (w56 hw) (w57 hw) (w58 hw) (w59 hw) (by decide) pd_19 rfl rfl rfl rfl (by decide) (by decide) (by decide) (by decide) all0 (by decide) (own_cor l Z a0 hw n0 u ku 2 16 [(.int (own_8 (Int32.ofNat N))), (.int (own_8 (Int32.ofNat B)))] (by decide) _ U0 E0) ?_
  intro v h_6 D1 q hsz
  obtain ⟨b_2, rfl, g_3, K_4, A_5, rfl⟩ := q
  show Runs _ _ _ _ _ _ _ _ _ _ _ _ [b_2, a] h_6 1 16 87 #[vr a, vr u8, vr u, vi 0, vi 2, vi 1, .unset, .unset, .unset, .unset, .unset] [(.ref b_2)]
  have ge_b_2 : n0 ≤ b_2 := Nat.le_trans hn0 (Nat.le_trans (Nat.le_refl _) g_3)
  refine Runs.astore (ls' := #[vr a, vr u8, vr u, vi 0, vi 2, vi 1, vr b_2, .unset, .unset, .unset, .unset]) i7_87 rfl rfl ?_
  refine Runs.iload i7_89 rfl ?_
  refine Runs.istore (ls' := #[vr a, vr u8, vr u, vi 0, vi 2, vi 1, vr b_2, vi 1, .unset, .unset, .unset]) i7_91 rfl ?_
  refine Runs.iload i7_93 rfl ?_
  refine Runs.iload i7_95 rfl ?_
  refine Runs.icN i7_97 (tlt (by decide : (1 : Int32) < (2 : Int32))).2.1 ?_
  refine Runs.aload i7_100 rfl rfl ?_
  refine Runs.iload i7_102 rfl ?_
  refine Runs.iinc (z := (2 : Int32)) (ls' := #[vr a, vr u8, vr u, vi 0, vi 2, vi 1, vr b_2, vi 2, .unset, .unset, .unset]) i7_104 rfl (by decide) rfl ?_
  refine Runs.baload (v := (.int (own_8 (Int32.ofNat B)))) i7_107 A_5 ⟨by decide, by decide⟩ rfl ?_
  refine Runs.istore (ls' := #[vr a, vr u8, vr u, vi 0, vi 2, vi 1, vr b_2, vi 2, vi (own_8 (Int32.ofNat B)), .unset, .unset]) i7_108 rfl ?_
  refine Runs.iload i7_110 rfl ?_
  refine Runs.ifY (t := 129) i7_112 (by decide) (tlt (own_8g hB)).1 ?_
  refine Runs.iload i7_129 rfl ?_
  refine Runs.sipush (v := (254 : Int32)) i7_131 (by decide) ?_
  refine Runs.iand (z := ((own_8 (Int32.ofNat B)) &&& (254 : Int32))) i7_134 rfl ?_
  refine Runs.sipush (v := (194 : Int32)) i7_135 (by decide) ?_
  by_cases hc138 : ((own_8 (Int32.ofNat B)) &&& (254 : Int32)) = (194 : Int32)
  · refine Runs.icN i7_138 (teq hc138).2 ?_
    refine Runs.iload i7_141 rfl ?_
    refine Runs.iload i7_143 rfl ?_
    refine Runs.icY (t := 184) i7_145 (by decide) (flt (by decide : ¬ ((2 : Int32) < (2 : Int32)))).2.1 ?_
    refine Runs.iinc (z := (1 : Int32)) (ls' := #[vr a, vr u8, vr u, vi 0, vi 2, vi 1, vr b_2, vi 1, vi (own_8 (Int32.ofNat B)), .unset, .unset]) i7_184 rfl (by decide) rfl ?_
    refine Runs.goto (t := 190) i7_187 (by decide) ?_
    refine Runs.weak (D1 := [b_2, a]) (by simp) ?_
    have O_7 := (O0.keep K_4 nin0)
    exact own_c190 l Z a0 hw n0 a u u8 b_2 ku 2 1 ([(Int32.ofNat N)] : List Int32) ([(Int32.ofNat N), (65533 : Int32)] : List Int32) [(.int (own_8 (Int32.ofNat N))), (.int (own_8 (Int32.ofNat B)))] (own_8 (Int32.ofNat B)) (.unset) (.unset) (by decide) (by decide) (by simp) (by simp) (own_aS (own_latN (by omega)) own_a0) (fun i hi => by obtain rfl : i = 0 := Nat.lt_one_iff.mp hi; rfl) (own_nlat (mi 1 rfl) (by decide)) (own_aS (own_chN (by omega)) (own_aS ⟨by decide, by decide⟩ own_a0)) ga S_A S_H S_L fm hfm S_F (fun b kb h1 hne gb A1 B1 => own_dng l Z a0 hw n0 b_2 b ku kb [(.int (own_8 (Int32.ofNat N))), (.int (own_8 (Int32.ofNat B)))] 2 hne (by decide) h1 A1 gb S_A S_H S_L ([(Int32.ofNat N)] : List Int32) 1 (by simp) rfl (own_8 (Int32.ofNat B)) (own_8g hB) rfl B1) _ _ ((Keep.refl _ _).trans K_4 all0) (Nat.le_trans hn0 K_4.1) O_7 A_5
  · refine Runs.icY (t := 184) i7_138 (by decide) (feq hc138).2 ?_
    refine Runs.iinc (z := (1 : Int32)) (ls' := #[vr a, vr u8, vr u, vi 0, vi 2, vi 1, vr b_2, vi 1, vi (own_8 (Int32.ofNat B)), .unset, .unset]) i7_184 rfl (by decide) rfl ?_
    refine Runs.goto (t := 190) i7_187 (by decide) ?_
    refine Runs.weak (D1 := [b_2, a]) (by simp) ?_
    have O_8 := (O0.keep K_4 nin0)
    exact own_c190 l Z a0 hw n0 a u u8 b_2 ku 2 1 ([(Int32.ofNat N)] : List Int32) ([(Int32.ofNat N), (65533 : Int32)] : List Int32) [(.int (own_8 (Int32.ofNat N))), (.int (own_8 (Int32.ofNat B)))] (own_8 (Int32.ofNat B)) (.unset) (.unset) (by decide) (by decide) (by simp) (by simp) (own_aS (own_latN (by omega)) own_a0) (fun i hi => by obtain rfl : i = 0 := Nat.lt_one_iff.mp hi; rfl) (own_nlat (mi 1 rfl) (by decide)) (own_aS (own_chN (by omega)) (own_aS ⟨by decide, by decide⟩ own_a0)) ga S_A S_H S_L fm hfm S_F (fun b kb h1 hne gb A1 B1 => own_dng l Z a0 hw n0 b_2 b ku kb [(.int (own_8 (Int32.ofNat N))), (.int (own_8 (Int32.ofNat B)))] 2 hne (by decide) h1 A1 gb S_A S_H S_L ([(Int32.ofNat N)] : List Int32) 1 (by simp) rfl (own_8 (Int32.ofNat B)) (own_8g hB) rfl B1) _ _ ((Keep.refl _ _).trans K_4 all0) (Nat.le_trans hn0 K_4.1) O_8 A_5
theorem own_ct2Ln (l : Launch) (Z : State) (a0 : Array Value) (hw : Wds Z a0) (n0 : Nat) (N : Nat) (hN : 128 ≤ N ∧ N < 256) (a u u8 : Addr) (ku : ClassId) (hua : u ≠ a) (cpt : Int32) (h0 : Heap) (ga : n0 ≤ a) (O0 : Obj Z h0 a "java/lang/String" [("java/lang/String", "value", "[B", .null), ("java/lang/String", "coder", "B", (.int 0))]) (U0 : Arv Z h0 u ku .byte (2 : Int32) [(.int (own_8 ((192 : Int32) ||| (Int32.ofNat (N / 64))))), (.int (own_8 ((128 : Int32) ||| (Int32.ofNat (N % 64)))))] (.int 0)) (E0 : Exa Z h0 u "[B") (hn0 : n0 ≤ h0.size) (S_C : SC Z cpt) (hcpt : ¬ cpt = 0) (S_A : SA Z) (S_H : SH Z) (S_L : SL Z) (fm : Value) (hfm : fm.isRef = true) (S_F : SF Z fm) (S_I : Sta Z Z.heap "sun/nio/cs/UTF_8" "INSTANCE" "Lsun/nio/cs/UTF_8;" (.ref u8))  : ConH 1 l Z [("java/lang/String", 7)] n0 (⟨"java/lang/String", "<init>", "(Ljava/nio/charset/Charset;[BII)V"⟩ : MethodName) c7_ 11 none [((800 : Nat), (813 : Nat), (816 : Nat), (202 : Nat))] ({ frames := 5, cells := 4, slots := 48, locals := 83 } : Room) #[(.ref a), (.ref u8), (.ref u), (.int 0), (.int 2)] [a] h0 (fun v h D' => v = none ∧ ∃ t k, Keep h0 h [a] ∧ Sx Z h a t k ([(Int32.ofNat N)] : List Int32) ∧ D' = []) := by
  refine ConH.of_runs (ls := #[vr a, vr u8, vr u, vi 0, vi 2, .unset, .unset, .unset, .unset, .unset, .unset]) (by decide +kernel) (fun m => by simp [entryFrame, mkF, argsToLocals, Value.category]) ?_
  refine Runs.aloadN i7_0 rfl rfl ?_
  refine Runs.initO (W := 0) i7_1 (w48 hw) (w17 hw) (w18 hw) rfl (by decide) rfl (by decide) ?_
  refine Runs.iload i7_4 rfl ?_
  refine Runs.ifY (t := 30) i7_6 (by decide) (feq (by decide : ¬ ((2 : Int32) = (0 : Int32)))).2 ?_
  refine Runs.aloadN i7_30 rfl rfl ?_
  refine Runs.getS i7_31 (w49 hw) Via.refl S_I ?_
  refine Runs.acN i7_34 rfl rfl (Jvm.Free.XT.aa_ne_f (congrArg Value.ref rfl)) ?_
  refine Runs.getS i7_37 (w51 hw) Via.refl S_C ?_
  refine Runs.ifN i7_40 (feq hcpt).1 ?_
  refine Runs.aloadN i7_43 rfl rfl ?_
  refine Runs.iloadN i7_44 rfl ?_
  refine Runs.iload i7_45 rfl ?_
  have U_1 : Arv Z h0 u ku .byte (Int32.ofNat ([((192 : Int32) ||| (Int32.ofNat (N / 64))), ((128 : Int32) ||| (Int32.ofNat (N % 64)))] : List Int32).length) (([((192 : Int32) ||| (Int32.ofNat (N / 64))), ((128 : Int32) ||| (Int32.ofNat (N % 64)))] : List Int32).map own_b) (.int 0) := U0
  refine Runs.callSW (argsL := [(.ref u), (.int 0), (.int 2)]) (rest := []) (W := 0) i7_47 (w52 hw) (w53 hw) (w54 hw) (w55 hw) (by decide) pd_18 rfl rfl rfl rfl (by decide) (by decide) (by decide) (by decide) all0 (by decide) (own_ctp l Z a0 hw n0 u ku ([((192 : Int32) ||| (Int32.ofNat (N / 64))), ((128 : Int32) ||| (Int32.ofNat (N % 64)))] : List Int32) (by simp) _ U_1) ?_
  intro v h1 D1 q hsz
  obtain ⟨j, rfl, hj1, hj2, hj3, rfl, rfl⟩ := q
  have hj : j = 0 := by
    have hj0 : j ≤ 2 := hj1
    rcases Nat.lt_trichotomy j 0 with q | q | q
    · exact absurd q (Nat.not_lt_zero _)
    · exact q
    · exact absurd (own_f2 (N / 64) (by omega) (by omega)).1 (hj2 0 q)
  subst hj
  show Runs _ _ _ _ _ _ _ _ _ _ _ _ [a] h0 0 0 50 #[vr a, vr u8, vr u, vi 0, vi 2, .unset, .unset, .unset, .unset, .unset, .unset] [(.int 0)]
  refine Runs.istore (ls' := #[vr a, vr u8, vr u, vi 0, vi 2, vi 0, .unset, .unset, .unset, .unset, .unset]) i7_50 rfl ?_
  refine Runs.iload i7_52 rfl ?_
  refine Runs.iload i7_54 rfl ?_
  refine Runs.icY (t := 78) i7_56 (by decide) (feq (by decide : ¬ ((0 : Int32) = (2 : Int32)))).2 ?_
  refine Runs.aloadN i7_78 rfl rfl ?_
  refine Runs.iloadN i7_79 rfl ?_
  refine Runs.iloadN i7_80 rfl ?_
  refine Runs.iload i7_81 rfl ?_
  refine Runs.iadd (z := (2 : Int32)) i7_83 (by decide) ?_
  refine Runs.callSW (argsL := [(.ref u), (.int 0), (.int 2)]) (rest := []) (W := 0) i7_84 (w56 hw) (w57 hw) (w58 hw) (w59 hw) (by decide) pd_19 rfl rfl rfl rfl (by decide) (by decide) (by decide) (by decide) all0 (by decide) (own_cor l Z a0 hw n0 u ku 2 16 [(.int (own_8 ((192 : Int32) ||| (Int32.ofNat (N / 64))))), (.int (own_8 ((128 : Int32) ||| (Int32.ofNat (N % 64)))))] (by decide) _ U0 E0) ?_
  intro v h_6 D1 q hsz
  obtain ⟨b_2, rfl, g_3, K_4, A_5, rfl⟩ := q
  show Runs _ _ _ _ _ _ _ _ _ _ _ _ [b_2, a] h_6 1 16 87 #[vr a, vr u8, vr u, vi 0, vi 2, vi 0, .unset, .unset, .unset, .unset, .unset] [(.ref b_2)]
  have ge_b_2 : n0 ≤ b_2 := Nat.le_trans hn0 (Nat.le_trans (Nat.le_refl _) g_3)
  refine Runs.astore (ls' := #[vr a, vr u8, vr u, vi 0, vi 2, vi 0, vr b_2, .unset, .unset, .unset, .unset]) i7_87 rfl rfl ?_
  refine Runs.iload i7_89 rfl ?_
  refine Runs.istore (ls' := #[vr a, vr u8, vr u, vi 0, vi 2, vi 0, vr b_2, vi 0, .unset, .unset, .unset]) i7_91 rfl ?_
  refine Runs.iload i7_93 rfl ?_
  refine Runs.iload i7_95 rfl ?_
  refine Runs.icN i7_97 (tlt (by decide : (0 : Int32) < (2 : Int32))).2.1 ?_
  refine Runs.aload i7_100 rfl rfl ?_
  refine Runs.iload i7_102 rfl ?_
  refine Runs.iinc (z := (1 : Int32)) (ls' := #[vr a, vr u8, vr u, vi 0, vi 2, vi 0, vr b_2, vi 1, .unset, .unset, .unset]) i7_104 rfl (by decide) rfl ?_
  refine Runs.baload (v := (.int (own_8 ((192 : Int32) ||| (Int32.ofNat (N / 64)))))) i7_107 A_5 ⟨by decide, by decide⟩ rfl ?_
  refine Runs.istore (ls' := #[vr a, vr u8, vr u, vi 0, vi 2, vi 0, vr b_2, vi 1, vi (own_8 ((192 : Int32) ||| (Int32.ofNat (N / 64)))), .unset, .unset]) i7_108 rfl ?_
  refine Runs.iload i7_110 rfl ?_
  refine Runs.ifY (t := 129) i7_112 (by decide) (tlt (own_f2 (N / 64) (by omega) (by omega)).1).1 ?_
  refine Runs.iload i7_129 rfl ?_
  refine Runs.sipush (v := (254 : Int32)) i7_131 (by decide) ?_
  refine Runs.iand (z := ((own_8 ((192 : Int32) ||| (Int32.ofNat (N / 64)))) &&& (254 : Int32))) i7_134 rfl ?_
  refine Runs.sipush (v := (194 : Int32)) i7_135 (by decide) ?_
  refine Runs.icN i7_138 (teq ((own_f2 (N / 64) (by omega) (by omega)).2.2.2.mpr (by omega))).2 ?_
  refine Runs.iload i7_141 rfl ?_
  refine Runs.iload i7_143 rfl ?_
  refine Runs.icN i7_145 (tlt (by decide : (1 : Int32) < (2 : Int32))).2.1 ?_
  refine Runs.aload i7_148 rfl rfl ?_
  refine Runs.iload i7_150 rfl ?_
  refine Runs.baload (v := (.int (own_8 ((128 : Int32) ||| (Int32.ofNat (N % 64)))))) i7_152 A_5 ⟨by decide, by decide⟩ rfl ?_
  refine Runs.istore (ls' := #[vr a, vr u8, vr u, vi 0, vi 2, vi 0, vr b_2, vi 1, vi (own_8 ((192 : Int32) ||| (Int32.ofNat (N / 64)))), vi (own_8 ((128 : Int32) ||| (Int32.ofNat (N % 64)))), .unset]) i7_153 rfl ?_
  refine Runs.iload i7_155 rfl ?_
  refine Runs.bipush (v := (-64 : Int32)) i7_157 (by decide) ?_
  refine Runs.icN i7_159 (tlt (own_fc _ (show N % 64 < 64 by omega)).2.1).2.1 ?_
  refine Runs.aload i7_162 rfl rfl ?_
  refine Runs.iload i7_164 rfl ?_
  refine Runs.iinc (z := (1 : Int32)) (ls' := #[vr a, vr u8, vr u, vi 0, vi 2, vi 1, vr b_2, vi 1, vi (own_8 ((192 : Int32) ||| (Int32.ofNat (N / 64)))), vi (own_8 ((128 : Int32) ||| (Int32.ofNat (N % 64)))), .unset]) i7_166 rfl (by decide) rfl ?_
  refine Runs.iload i7_169 rfl ?_
  refine Runs.iload i7_171 rfl ?_
  refine Runs.callSW (argsL := [(.int (own_8 ((192 : Int32) ||| (Int32.ofNat (N / 64))))), (.int (own_8 ((128 : Int32) ||| (Int32.ofNat (N % 64)))))]) (rest := [(.int 0), (.ref b_2)]) (W := 2) i7_173 (w101 hw) (w102 hw) (w32 hw) (w103 hw) (by decide) pd_9 rfl rfl rfl rfl (by decide) (by decide) (by decide) (by decide) all0 (by decide) (own_dd2 l Z a0 hw n0 (own_8 ((192 : Int32) ||| (Int32.ofNat (N / 64)))) (own_8 ((128 : Int32) ||| (Int32.ofNat (N % 64)))) (Int32.ofNat N) ((own_dc2 _ (by omega) _ (by omega)).trans (congrArg Int32.ofNat (by omega))) (own_chN (by omega)) _) ?_
  intro v h1 D1 q hsz
  obtain ⟨rfl, rfl, rfl⟩ := q
  show Runs _ _ _ _ _ _ _ _ _ _ _ _ [b_2, a] h_6 1 16 176 #[vr a, vr u8, vr u, vi 0, vi 2, vi 1, vr b_2, vi 1, vi (own_8 ((192 : Int32) ||| (Int32.ofNat (N / 64)))), vi (own_8 ((128 : Int32) ||| (Int32.ofNat (N % 64)))), .unset] [(.int (Int32.ofNat N)), (.int 0), (.ref b_2)]
  refine Runs.i2b (z := (own_8 (Int32.ofNat N))) i7_176 rfl ?_
  refine Runs.bastore (i := 0) (y := (own_8 (Int32.ofNat N))) i7_177 A_5 ⟨by decide, by decide⟩ (by decide) (Nat.le_of_ble_eq_true rfl) (own_88 _) ge_b_2 (Or.inl (mi 0 rfl)) ?_
  intro h_7 K_8 (A_9 : Arv Z h_7 b_2 ku .byte (2 : Int32) [(.int (own_8 (Int32.ofNat N))), (.int (own_8 ((128 : Int32) ||| (Int32.ofNat (N % 64)))))] (.int 0))
  refine Runs.iinc (z := (2 : Int32)) (ls' := #[vr a, vr u8, vr u, vi 0, vi 2, vi 1, vr b_2, vi 2, vi (own_8 ((192 : Int32) ||| (Int32.ofNat (N / 64)))), vi (own_8 ((128 : Int32) ||| (Int32.ofNat (N % 64)))), .unset]) i7_178 rfl (by decide) rfl ?_
  refine Runs.goto (t := 93) i7_181 (by decide) ?_
  refine Runs.iload i7_93 rfl ?_
  refine Runs.iload i7_95 rfl ?_
  refine Runs.icY (t := 190) i7_97 (by decide) (flt (by decide : ¬ ((2 : Int32) < (2 : Int32)))).2.1 ?_
  refine Runs.iload i7_190 rfl ?_
  refine Runs.iload i7_192 rfl ?_
  refine Runs.icN i7_194 (teq (by decide : (2 : Int32) = (2 : Int32))).2 ?_
  refine Runs.iload i7_197 rfl ?_
  refine Runs.aload i7_199 rfl rfl ?_
  refine Runs.arrlen i7_201 A_9 ?_
  refine Runs.icN i7_202 (feq (by decide : ¬ ((1 : Int32) = (2 : Int32)))).1 ?_
  refine Runs.aload i7_205 rfl rfl ?_
  refine Runs.iload i7_207 rfl ?_
  have A_10 : Arv Z h_7 b_2 ku .byte (Int32.ofNat 2) [(.int (own_8 (Int32.ofNat N))), (.int (own_8 ((128 : Int32) ||| (Int32.ofNat (N % 64)))))] (.int 0) := A_9
  refine Runs.callSW (argsL := [(.ref b_2), (.int 1)]) (rest := []) (W := 0) i7_209 (w104 hw) (w105 hw) (w58 hw) (w106 hw) (by decide) pd_17 rfl rfl rfl rfl (by decide) (by decide) (by decide) (by decide) all0 (by decide) (own_cpt l Z a0 hw n0 b_2 ku 2 1 16 [(.int (own_8 (Int32.ofNat N))), (.int (own_8 ((128 : Int32) ||| (Int32.ofNat (N % 64)))))] (by decide) (by decide) _ A_10) ?_
  intro v h_17 D1 q hsz
  obtain ⟨b_11, k_12, rfl, g_13, K_14, A_15, rfl⟩ := q
  show Runs _ _ _ _ _ _ _ _ _ _ _ _ [b_11, b_2, a] h_17 2 32 212 #[vr a, vr u8, vr u, vi 0, vi 2, vi 1, vr b_2, vi 2, vi (own_8 ((192 : Int32) ||| (Int32.ofNat (N / 64)))), vi (own_8 ((128 : Int32) ||| (Int32.ofNat (N % 64)))), .unset] [(.ref b_11)]
  have A_16 : Arv Z h_17 b_11 k_12 .byte (1 : Int32) [(.int (own_8 (Int32.ofNat N)))] (.int 0) := A_15
  refine Runs.astore (ls' := #[vr a, vr u8, vr u, vi 0, vi 2, vi 1, vr b_11, vi 2, vi (own_8 ((192 : Int32) ||| (Int32.ofNat (N / 64)))), vi (own_8 ((128 : Int32) ||| (Int32.ofNat (N % 64)))), .unset]) i7_212 rfl rfl ?_
  refine Runs.aloadN i7_214 rfl rfl ?_
  refine Runs.aload i7_215 rfl rfl ?_
  have O_18 := (((O0.keep K_4 nin0).keep K_8 (ninS (Nat.ne_of_lt (Nat.lt_of_lt_of_le (Nat.lt_of_lt_of_le O0.lt (Nat.le_refl _)) g_3)) nin0)).keep K_14 nin0)
  refine Runs.putF (i := 0) (ty := (.array .byte)) i7_217 (host := "") (Or.inl (w69 hw)) Via.refl O_18 rfl (lay_0 hw) rfl (Or.inr ⟨(w70 hw), rfl, rfl⟩) (w31 hw) (by decide) rfl rfl ga (Or.inl (mi 2 rfl)) ?_
  intro h_19 K_20 (O_21 : Obj Z h_19 a "java/lang/String" [("java/lang/String", "value", "[B", (.ref b_11)), ("java/lang/String", "coder", "B", (.int 0))])
  refine Runs.aloadN i7_220 rfl rfl ?_
  refine Runs.iconst (v := (0 : Int32)) i7_221 (by decide) ?_
  refine Runs.putF (i := 1) (ty := .byte) i7_222 (host := "") (Or.inl (w71 hw)) Via.refl O_21 rfl (lay_0 hw) rfl (Or.inr ⟨(w72 hw), rfl, rfl⟩) (w31 hw) (by decide) rfl rfl ga (Or.inl (mi 2 rfl)) ?_
  intro h_22 K_23 (O_24 : Obj Z h_22 a "java/lang/String" [("java/lang/String", "value", "[B", (.ref b_11)), ("java/lang/String", "coder", "B", (.int 0))])
  have A_25 := ((A_16.keep K_20 (ninS (Nat.ne_of_gt (Nat.lt_of_lt_of_le (Nat.lt_of_lt_of_le O0.lt (Nat.le_trans K_4.1 K_8.1)) g_13)) nin0)).keep K_23 (ninS (Nat.ne_of_gt (Nat.lt_of_lt_of_le (Nat.lt_of_lt_of_le O0.lt (Nat.le_trans K_4.1 K_8.1)) g_13)) nin0))
  refine Runs.weak (D1 := []) (fun _ q => nomatch q) ?_
  have A_26 : Arv Z h_22 b_11 k_12 .byte (Int32.ofNat (([(Int32.ofNat N)] : List Int32).length)) (([(Int32.ofNat N)] : List Int32).map own_b) (.int 0) := A_25
  exact Runs.retV i7_225 rfl (by first | decide | (dsimp only; first | decide | omega)) (by first | decide | (dsimp only; first | decide | omega)) ⟨rfl, b_11, k_12, ((((((Keep.refl _ _).trans K_4 all0).trans K_8 (allS (Or.inr (Nat.le_trans (Nat.le_refl _) g_3)) all0)).trans K_14 all0).trans K_20 (allS (Or.inl (mi 0 rfl)) all0)).trans K_23 (allS (Or.inl (mi 0 rfl)) all0)), (Or.inl ⟨O_24, A_26, (own_aS (own_latN (by omega)) own_a0), by simp⟩), rfl⟩
theorem own_ct2Lp (l : Launch) (Z : State) (a0 : Array Value) (hw : Wds Z a0) (n0 : Nat) (N : Nat) (hN : 128 ≤ N ∧ N < 256) (B : Nat) (hB : B < 128) (a u u8 : Addr) (ku : ClassId) (hua : u ≠ a) (cpt : Int32) (h0 : Heap) (ga : n0 ≤ a) (O0 : Obj Z h0 a "java/lang/String" [("java/lang/String", "value", "[B", .null), ("java/lang/String", "coder", "B", (.int 0))]) (U0 : Arv Z h0 u ku .byte (3 : Int32) [(.int (own_8 ((192 : Int32) ||| (Int32.ofNat (N / 64))))), (.int (own_8 ((128 : Int32) ||| (Int32.ofNat (N % 64))))), (.int (own_8 (Int32.ofNat B)))] (.int 0)) (E0 : Exa Z h0 u "[B") (hn0 : n0 ≤ h0.size) (S_C : SC Z cpt) (hcpt : ¬ cpt = 0) (S_A : SA Z) (S_H : SH Z) (S_L : SL Z) (fm : Value) (hfm : fm.isRef = true) (S_F : SF Z fm) (S_I : Sta Z Z.heap "sun/nio/cs/UTF_8" "INSTANCE" "Lsun/nio/cs/UTF_8;" (.ref u8))  : ConH 1 l Z [("java/lang/String", 7)] n0 (⟨"java/lang/String", "<init>", "(Ljava/nio/charset/Charset;[BII)V"⟩ : MethodName) c7_ 11 none [((800 : Nat), (813 : Nat), (816 : Nat), (202 : Nat))] ({ frames := 5, cells := 4, slots := 48, locals := 83 } : Room) #[(.ref a), (.ref u8), (.ref u), (.int 0), (.int 3)] [a] h0 (fun v h D' => v = none ∧ ∃ t k, Keep h0 h [a] ∧ Sx Z h a t k ([(Int32.ofNat N), (Int32.ofNat B)] : List Int32) ∧ D' = []) := by
  refine ConH.of_runs (ls := #[vr a, vr u8, vr u, vi 0, vi 3, .unset, .unset, .unset, .unset, .unset, .unset]) (by decide +kernel) (fun m => by simp [entryFrame, mkF, argsToLocals, Value.category]) ?_
  refine Runs.aloadN i7_0 rfl rfl ?_
  refine Runs.initO (W := 0) i7_1 (w48 hw) (w17 hw) (w18 hw) rfl (by decide) rfl (by decide) ?_
  refine Runs.iload i7_4 rfl ?_
  refine Runs.ifY (t := 30) i7_6 (by decide) (feq (by decide : ¬ ((3 : Int32) = (0 : Int32)))).2 ?_
  refine Runs.aloadN i7_30 rfl rfl ?_
  refine Runs.getS i7_31 (w49 hw) Via.refl S_I ?_
  refine Runs.acN i7_34 rfl rfl (Jvm.Free.XT.aa_ne_f (congrArg Value.ref rfl)) ?_
  refine Runs.getS i7_37 (w51 hw) Via.refl S_C ?_
  refine Runs.ifN i7_40 (feq hcpt).1 ?_
  refine Runs.aloadN i7_43 rfl rfl ?_
  refine Runs.iloadN i7_44 rfl ?_
  refine Runs.iload i7_45 rfl ?_
  have U_1 : Arv Z h0 u ku .byte (Int32.ofNat ([((192 : Int32) ||| (Int32.ofNat (N / 64))), ((128 : Int32) ||| (Int32.ofNat (N % 64))), (Int32.ofNat B)] : List Int32).length) (([((192 : Int32) ||| (Int32.ofNat (N / 64))), ((128 : Int32) ||| (Int32.ofNat (N % 64))), (Int32.ofNat B)] : List Int32).map own_b) (.int 0) := U0
  refine Runs.callSW (argsL := [(.ref u), (.int 0), (.int 3)]) (rest := []) (W := 0) i7_47 (w52 hw) (w53 hw) (w54 hw) (w55 hw) (by decide) pd_18 rfl rfl rfl rfl (by decide) (by decide) (by decide) (by decide) all0 (by decide) (own_ctp l Z a0 hw n0 u ku ([((192 : Int32) ||| (Int32.ofNat (N / 64))), ((128 : Int32) ||| (Int32.ofNat (N % 64))), (Int32.ofNat B)] : List Int32) (by simp) _ U_1) ?_
  intro v h1 D1 q hsz
  obtain ⟨j, rfl, hj1, hj2, hj3, rfl, rfl⟩ := q
  have hj : j = 0 := by
    have hj0 : j ≤ 3 := hj1
    rcases Nat.lt_trichotomy j 0 with q | q | q
    · exact absurd q (Nat.not_lt_zero _)
    · exact q
    · exact absurd (own_f2 (N / 64) (by omega) (by omega)).1 (hj2 0 q)
  subst hj
  show Runs _ _ _ _ _ _ _ _ _ _ _ _ [a] h0 0 0 50 #[vr a, vr u8, vr u, vi 0, vi 3, .unset, .unset, .unset, .unset, .unset, .unset] [(.int 0)]
  refine Runs.istore (ls' := #[vr a, vr u8, vr u, vi 0, vi 3, vi 0, .unset, .unset, .unset, .unset, .unset]) i7_50 rfl ?_
  refine Runs.iload i7_52 rfl ?_
  refine Runs.iload i7_54 rfl ?_
  refine Runs.icY (t := 78) i7_56 (by decide) (feq (by decide : ¬ ((0 : Int32) = (3 : Int32)))).2 ?_
  refine Runs.aloadN i7_78 rfl rfl ?_
  refine Runs.iloadN i7_79 rfl ?_
  refine Runs.iloadN i7_80 rfl ?_
  refine Runs.iload i7_81 rfl ?_
  refine Runs.iadd (z := (3 : Int32)) i7_83 (by decide) ?_
  refine Runs.callSW (argsL := [(.ref u), (.int 0), (.int 3)]) (rest := []) (W := 0) i7_84 (w56 hw) (w57 hw) (w58 hw) (w59 hw) (by decide) pd_19 rfl rfl rfl rfl (by decide) (by decide) (by decide) (by decide) all0 (by decide) (own_cor l Z a0 hw n0 u ku 3 16 [(.int (own_8 ((192 : Int32) ||| (Int32.ofNat (N / 64))))), (.int (own_8 ((128 : Int32) ||| (Int32.ofNat (N % 64))))), (.int (own_8 (Int32.ofNat B)))] (by decide) _ U0 E0) ?_
  intro v h_6 D1 q hsz
  obtain ⟨b_2, rfl, g_3, K_4, A_5, rfl⟩ := q
  show Runs _ _ _ _ _ _ _ _ _ _ _ _ [b_2, a] h_6 1 16 87 #[vr a, vr u8, vr u, vi 0, vi 3, vi 0, .unset, .unset, .unset, .unset, .unset] [(.ref b_2)]
  have ge_b_2 : n0 ≤ b_2 := Nat.le_trans hn0 (Nat.le_trans (Nat.le_refl _) g_3)
  refine Runs.astore (ls' := #[vr a, vr u8, vr u, vi 0, vi 3, vi 0, vr b_2, .unset, .unset, .unset, .unset]) i7_87 rfl rfl ?_
  refine Runs.iload i7_89 rfl ?_
  refine Runs.istore (ls' := #[vr a, vr u8, vr u, vi 0, vi 3, vi 0, vr b_2, vi 0, .unset, .unset, .unset]) i7_91 rfl ?_
  refine Runs.iload i7_93 rfl ?_
  refine Runs.iload i7_95 rfl ?_
  refine Runs.icN i7_97 (tlt (by decide : (0 : Int32) < (3 : Int32))).2.1 ?_
  refine Runs.aload i7_100 rfl rfl ?_
  refine Runs.iload i7_102 rfl ?_
  refine Runs.iinc (z := (1 : Int32)) (ls' := #[vr a, vr u8, vr u, vi 0, vi 3, vi 0, vr b_2, vi 1, .unset, .unset, .unset]) i7_104 rfl (by decide) rfl ?_
  refine Runs.baload (v := (.int (own_8 ((192 : Int32) ||| (Int32.ofNat (N / 64)))))) i7_107 A_5 ⟨by decide, by decide⟩ rfl ?_
  refine Runs.istore (ls' := #[vr a, vr u8, vr u, vi 0, vi 3, vi 0, vr b_2, vi 1, vi (own_8 ((192 : Int32) ||| (Int32.ofNat (N / 64)))), .unset, .unset]) i7_108 rfl ?_
  refine Runs.iload i7_110 rfl ?_
  refine Runs.ifY (t := 129) i7_112 (by decide) (tlt (own_f2 (N / 64) (by omega) (by omega)).1).1 ?_
  refine Runs.iload i7_129 rfl ?_
  refine Runs.sipush (v := (254 : Int32)) i7_131 (by decide) ?_
  refine Runs.iand (z := ((own_8 ((192 : Int32) ||| (Int32.ofNat (N / 64)))) &&& (254 : Int32))) i7_134 rfl ?_
  refine Runs.sipush (v := (194 : Int32)) i7_135 (by decide) ?_
  refine Runs.icN i7_138 (teq ((own_f2 (N / 64) (by omega) (by omega)).2.2.2.mpr (by omega))).2 ?_
  refine Runs.iload i7_141 rfl ?_
  refine Runs.iload i7_143 rfl ?_
  refine Runs.icN i7_145 (tlt (by decide : (1 : Int32) < (3 : Int32))).2.1 ?_
  refine Runs.aload i7_148 rfl rfl ?_
  refine Runs.iload i7_150 rfl ?_
  refine Runs.baload (v := (.int (own_8 ((128 : Int32) ||| (Int32.ofNat (N % 64)))))) i7_152 A_5 ⟨by decide, by decide⟩ rfl ?_
  refine Runs.istore (ls' := #[vr a, vr u8, vr u, vi 0, vi 3, vi 0, vr b_2, vi 1, vi (own_8 ((192 : Int32) ||| (Int32.ofNat (N / 64)))), vi (own_8 ((128 : Int32) ||| (Int32.ofNat (N % 64)))), .unset]) i7_153 rfl ?_
  refine Runs.iload i7_155 rfl ?_
  refine Runs.bipush (v := (-64 : Int32)) i7_157 (by decide) ?_
  refine Runs.icN i7_159 (tlt (own_fc _ (show N % 64 < 64 by omega)).2.1).2.1 ?_
  refine Runs.aload i7_162 rfl rfl ?_
  refine Runs.iload i7_164 rfl ?_
  refine Runs.iinc (z := (1 : Int32)) (ls' := #[vr a, vr u8, vr u, vi 0, vi 3, vi 1, vr b_2, vi 1, vi (own_8 ((192 : Int32) ||| (Int32.ofNat (N / 64)))), vi (own_8 ((128 : Int32) ||| (Int32.ofNat (N % 64)))), .unset]) i7_166 rfl (by decide) rfl ?_
  refine Runs.iload i7_169 rfl ?_
  refine Runs.iload i7_171 rfl ?_
  refine Runs.callSW (argsL := [(.int (own_8 ((192 : Int32) ||| (Int32.ofNat (N / 64))))), (.int (own_8 ((128 : Int32) ||| (Int32.ofNat (N % 64)))))]) (rest := [(.int 0), (.ref b_2)]) (W := 2) i7_173 (w101 hw) (w102 hw) (w32 hw) (w103 hw) (by decide) pd_9 rfl rfl rfl rfl (by decide) (by decide) (by decide) (by decide) all0 (by decide) (own_dd2 l Z a0 hw n0 (own_8 ((192 : Int32) ||| (Int32.ofNat (N / 64)))) (own_8 ((128 : Int32) ||| (Int32.ofNat (N % 64)))) (Int32.ofNat N) ((own_dc2 _ (by omega) _ (by omega)).trans (congrArg Int32.ofNat (by omega))) (own_chN (by omega)) _) ?_
  intro v h1 D1 q hsz
  obtain ⟨rfl, rfl, rfl⟩ := q
  show Runs _ _ _ _ _ _ _ _ _ _ _ _ [b_2, a] h_6 1 16 176 #[vr a, vr u8, vr u, vi 0, vi 3, vi 1, vr b_2, vi 1, vi (own_8 ((192 : Int32) ||| (Int32.ofNat (N / 64)))), vi (own_8 ((128 : Int32) ||| (Int32.ofNat (N % 64)))), .unset] [(.int (Int32.ofNat N)), (.int 0), (.ref b_2)]
  refine Runs.i2b (z := (own_8 (Int32.ofNat N))) i7_176 rfl ?_
  refine Runs.bastore (i := 0) (y := (own_8 (Int32.ofNat N))) i7_177 A_5 ⟨by decide, by decide⟩ (by decide) (Nat.le_of_ble_eq_true rfl) (own_88 _) ge_b_2 (Or.inl (mi 0 rfl)) ?_
  intro h_7 K_8 (A_9 : Arv Z h_7 b_2 ku .byte (3 : Int32) [(.int (own_8 (Int32.ofNat N))), (.int (own_8 ((128 : Int32) ||| (Int32.ofNat (N % 64))))), (.int (own_8 (Int32.ofNat B)))] (.int 0))
  refine Runs.iinc (z := (2 : Int32)) (ls' := #[vr a, vr u8, vr u, vi 0, vi 3, vi 1, vr b_2, vi 2, vi (own_8 ((192 : Int32) ||| (Int32.ofNat (N / 64)))), vi (own_8 ((128 : Int32) ||| (Int32.ofNat (N % 64)))), .unset]) i7_178 rfl (by decide) rfl ?_
  refine Runs.goto (t := 93) i7_181 (by decide) ?_
  refine Runs.iload i7_93 rfl ?_
  refine Runs.iload i7_95 rfl ?_
  refine Runs.icN i7_97 (tlt (by decide : (2 : Int32) < (3 : Int32))).2.1 ?_
  refine Runs.aload i7_100 rfl rfl ?_
  refine Runs.iload i7_102 rfl ?_
  refine Runs.iinc (z := (3 : Int32)) (ls' := #[vr a, vr u8, vr u, vi 0, vi 3, vi 1, vr b_2, vi 3, vi (own_8 ((192 : Int32) ||| (Int32.ofNat (N / 64)))), vi (own_8 ((128 : Int32) ||| (Int32.ofNat (N % 64)))), .unset]) i7_104 rfl (by decide) rfl ?_
  refine Runs.baload (v := (.int (own_8 (Int32.ofNat B)))) i7_107 A_9 ⟨by decide, by decide⟩ rfl ?_
  refine Runs.istore (ls' := #[vr a, vr u8, vr u, vi 0, vi 3, vi 1, vr b_2, vi 3, vi (own_8 (Int32.ofNat B)), vi (own_8 ((128 : Int32) ||| (Int32.ofNat (N % 64)))), .unset]) i7_108 rfl ?_
  refine Runs.iload i7_110 rfl ?_
  refine Runs.ifN i7_112 (flt (own_8p hB)).1 ?_
  refine Runs.aload i7_115 rfl rfl ?_
  refine Runs.iload i7_117 rfl ?_
  refine Runs.iinc (z := (2 : Int32)) (ls' := #[vr a, vr u8, vr u, vi 0, vi 3, vi 2, vr b_2, vi 3, vi (own_8 (Int32.ofNat B)), vi (own_8 ((128 : Int32) ||| (Int32.ofNat (N % 64)))), .unset]) i7_119 rfl (by decide) rfl ?_
  refine Runs.iload i7_122 rfl ?_
  refine Runs.i2b (z := (own_8 (Int32.ofNat B))) i7_124 (own_88 _) ?_
  refine Runs.bastore (i := 1) (y := (own_8 (Int32.ofNat B))) i7_125 A_9 ⟨by decide, by decide⟩ (by decide) (Nat.le_of_ble_eq_true rfl) (own_88 _) ge_b_2 (Or.inl (mi 0 rfl)) ?_
  intro h_10 K_11 (A_12 : Arv Z h_10 b_2 ku .byte (3 : Int32) [(.int (own_8 (Int32.ofNat N))), (.int (own_8 (Int32.ofNat B))), (.int (own_8 (Int32.ofNat B)))] (.int 0))
  refine Runs.goto (t := 93) i7_126 (by decide) ?_
  refine Runs.iload i7_93 rfl ?_
  refine Runs.iload i7_95 rfl ?_
  refine Runs.icY (t := 190) i7_97 (by decide) (flt (by decide : ¬ ((3 : Int32) < (3 : Int32)))).2.1 ?_
  refine Runs.iload i7_190 rfl ?_
  refine Runs.iload i7_192 rfl ?_
  refine Runs.icN i7_194 (teq (by decide : (3 : Int32) = (3 : Int32))).2 ?_
  refine Runs.iload i7_197 rfl ?_
  refine Runs.aload i7_199 rfl rfl ?_
  refine Runs.arrlen i7_201 A_12 ?_
  refine Runs.icN i7_202 (feq (by decide : ¬ ((2 : Int32) = (3 : Int32)))).1 ?_
  refine Runs.aload i7_205 rfl rfl ?_
  refine Runs.iload i7_207 rfl ?_
  have A_13 : Arv Z h_10 b_2 ku .byte (Int32.ofNat 3) [(.int (own_8 (Int32.ofNat N))), (.int (own_8 (Int32.ofNat B))), (.int (own_8 (Int32.ofNat B)))] (.int 0) := A_12
  refine Runs.callSW (argsL := [(.ref b_2), (.int 2)]) (rest := []) (W := 0) i7_209 (w104 hw) (w105 hw) (w58 hw) (w106 hw) (by decide) pd_17 rfl rfl rfl rfl (by decide) (by decide) (by decide) (by decide) all0 (by decide) (own_cpt l Z a0 hw n0 b_2 ku 3 2 16 [(.int (own_8 (Int32.ofNat N))), (.int (own_8 (Int32.ofNat B))), (.int (own_8 (Int32.ofNat B)))] (by decide) (by decide) _ A_13) ?_
  intro v h_20 D1 q hsz
  obtain ⟨b_14, k_15, rfl, g_16, K_17, A_18, rfl⟩ := q
  show Runs _ _ _ _ _ _ _ _ _ _ _ _ [b_14, b_2, a] h_20 2 32 212 #[vr a, vr u8, vr u, vi 0, vi 3, vi 2, vr b_2, vi 3, vi (own_8 (Int32.ofNat B)), vi (own_8 ((128 : Int32) ||| (Int32.ofNat (N % 64)))), .unset] [(.ref b_14)]
  have A_19 : Arv Z h_20 b_14 k_15 .byte (2 : Int32) [(.int (own_8 (Int32.ofNat N))), (.int (own_8 (Int32.ofNat B)))] (.int 0) := A_18
  refine Runs.astore (ls' := #[vr a, vr u8, vr u, vi 0, vi 3, vi 2, vr b_14, vi 3, vi (own_8 (Int32.ofNat B)), vi (own_8 ((128 : Int32) ||| (Int32.ofNat (N % 64)))), .unset]) i7_212 rfl rfl ?_
  refine Runs.aloadN i7_214 rfl rfl ?_
  refine Runs.aload i7_215 rfl rfl ?_
  have O_21 := ((((O0.keep K_4 nin0).keep K_8 (ninS (Nat.ne_of_lt (Nat.lt_of_lt_of_le (Nat.lt_of_lt_of_le O0.lt (Nat.le_refl _)) g_3)) nin0)).keep K_11 (ninS (Nat.ne_of_lt (Nat.lt_of_lt_of_le (Nat.lt_of_lt_of_le O0.lt (Nat.le_refl _)) g_3)) nin0)).keep K_17 nin0)
  refine Runs.putF (i := 0) (ty := (.array .byte)) i7_217 (host := "") (Or.inl (w69 hw)) Via.refl O_21 rfl (lay_0 hw) rfl (Or.inr ⟨(w70 hw), rfl, rfl⟩) (w31 hw) (by decide) rfl rfl ga (Or.inl (mi 2 rfl)) ?_
  intro h_22 K_23 (O_24 : Obj Z h_22 a "java/lang/String" [("java/lang/String", "value", "[B", (.ref b_14)), ("java/lang/String", "coder", "B", (.int 0))])
  refine Runs.aloadN i7_220 rfl rfl ?_
  refine Runs.iconst (v := (0 : Int32)) i7_221 (by decide) ?_
  refine Runs.putF (i := 1) (ty := .byte) i7_222 (host := "") (Or.inl (w71 hw)) Via.refl O_24 rfl (lay_0 hw) rfl (Or.inr ⟨(w72 hw), rfl, rfl⟩) (w31 hw) (by decide) rfl rfl ga (Or.inl (mi 2 rfl)) ?_
  intro h_25 K_26 (O_27 : Obj Z h_25 a "java/lang/String" [("java/lang/String", "value", "[B", (.ref b_14)), ("java/lang/String", "coder", "B", (.int 0))])
  have A_28 := ((A_19.keep K_23 (ninS (Nat.ne_of_gt (Nat.lt_of_lt_of_le (Nat.lt_of_lt_of_le O0.lt (Nat.le_trans (Nat.le_trans K_4.1 K_8.1) K_11.1)) g_16)) nin0)).keep K_26 (ninS (Nat.ne_of_gt (Nat.lt_of_lt_of_le (Nat.lt_of_lt_of_le O0.lt (Nat.le_trans (Nat.le_trans K_4.1 K_8.1) K_11.1)) g_16)) nin0))
  refine Runs.weak (D1 := []) (fun _ q => nomatch q) ?_
  have A_29 : Arv Z h_25 b_14 k_15 .byte (Int32.ofNat (([(Int32.ofNat N), (Int32.ofNat B)] : List Int32).length)) (([(Int32.ofNat N), (Int32.ofNat B)] : List Int32).map own_b) (.int 0) := A_28
  exact Runs.retV i7_225 rfl (by first | decide | (dsimp only; first | decide | omega)) (by first | decide | (dsimp only; first | decide | omega)) ⟨rfl, b_14, k_15, (((((((Keep.refl _ _).trans K_4 all0).trans K_8 (allS (Or.inr (Nat.le_trans (Nat.le_refl _) g_3)) all0)).trans K_11 (allS (Or.inr (Nat.le_trans (Nat.le_refl _) g_3)) all0)).trans K_17 all0).trans K_23 (allS (Or.inl (mi 0 rfl)) all0)).trans K_26 (allS (Or.inl (mi 0 rfl)) all0)), (Or.inl ⟨O_27, A_29, (own_aS (own_latN (by omega)) (own_aS (own_latN (by omega)) own_a0)), by simp⟩), rfl⟩
theorem own_ct2Lg (l : Launch) (Z : State) (a0 : Array Value) (hw : Wds Z a0) (n0 : Nat) (N : Nat) (hN : 128 ≤ N ∧ N < 256) (B : Nat) (hB : 128 ≤ B ∧ B < 256) (a u u8 : Addr) (ku : ClassId) (hua : u ≠ a) (cpt : Int32) (h0 : Heap) (ga : n0 ≤ a) (O0 : Obj Z h0 a "java/lang/String" [("java/lang/String", "value", "[B", .null), ("java/lang/String", "coder", "B", (.int 0))]) (U0 : Arv Z h0 u ku .byte (3 : Int32) [(.int (own_8 ((192 : Int32) ||| (Int32.ofNat (N / 64))))), (.int (own_8 ((128 : Int32) ||| (Int32.ofNat (N % 64))))), (.int (own_8 (Int32.ofNat B)))] (.int 0)) (E0 : Exa Z h0 u "[B") (hn0 : n0 ≤ h0.size) (S_C : SC Z cpt) (hcpt : ¬ cpt = 0) (S_A : SA Z) (S_H : SH Z) (S_L : SL Z) (fm : Value) (hfm : fm.isRef = true) (S_F : SF Z fm) (S_I : Sta Z Z.heap "sun/nio/cs/UTF_8" "INSTANCE" "Lsun/nio/cs/UTF_8;" (.ref u8))  : ConH 1 l Z [("java/lang/String", 7)] n0 (⟨"java/lang/String", "<init>", "(Ljava/nio/charset/Charset;[BII)V"⟩ : MethodName) c7_ 11 none [((800 : Nat), (813 : Nat), (816 : Nat), (202 : Nat))] ({ frames := 5, cells := 4, slots := 48, locals := 83 } : Room) #[(.ref a), (.ref u8), (.ref u), (.int 0), (.int 3)] [a] h0 (fun v h D' => v = none ∧ ∃ t k, Keep h0 h [a] ∧ Sx Z h a t k ([(Int32.ofNat N), (65533 : Int32)] : List Int32) ∧ D' = []) := by
  refine ConH.of_runs (ls := #[vr a, vr u8, vr u, vi 0, vi 3, .unset, .unset, .unset, .unset, .unset, .unset]) (by decide +kernel) (fun m => by simp [entryFrame, mkF, argsToLocals, Value.category]) ?_
  refine Runs.aloadN i7_0 rfl rfl ?_
  refine Runs.initO (W := 0) i7_1 (w48 hw) (w17 hw) (w18 hw) rfl (by decide) rfl (by decide) ?_
  refine Runs.iload i7_4 rfl ?_
  refine Runs.ifY (t := 30) i7_6 (by decide) (feq (by decide : ¬ ((3 : Int32) = (0 : Int32)))).2 ?_
  refine Runs.aloadN i7_30 rfl rfl ?_
  refine Runs.getS i7_31 (w49 hw) Via.refl S_I ?_
  refine Runs.acN i7_34 rfl rfl (Jvm.Free.XT.aa_ne_f (congrArg Value.ref rfl)) ?_
  refine Runs.getS i7_37 (w51 hw) Via.refl S_C ?_
  refine Runs.ifN i7_40 (feq hcpt).1 ?_
  refine Runs.aloadN i7_43 rfl rfl ?_
  refine Runs.iloadN i7_44 rfl ?_
  refine Runs.iload i7_45 rfl ?_
  have U_1 : Arv Z h0 u ku .byte (Int32.ofNat ([((192 : Int32) ||| (Int32.ofNat (N / 64))), ((128 : Int32) ||| (Int32.ofNat (N % 64))), (Int32.ofNat B)] : List Int32).length) (([((192 : Int32) ||| (Int32.ofNat (N / 64))), ((128 : Int32) ||| (Int32.ofNat (N % 64))), (Int32.ofNat B)] : List Int32).map own_b) (.int 0) := U0
  refine Runs.callSW (argsL := [(.ref u), (.int 0), (.int 3)]) (rest := []) (W := 0) i7_47 (w52 hw) (w53 hw) (w54 hw) (w55 hw) (by decide) pd_18 rfl rfl rfl rfl (by decide) (by decide) (by decide) (by decide) all0 (by decide) (own_ctp l Z a0 hw n0 u ku ([((192 : Int32) ||| (Int32.ofNat (N / 64))), ((128 : Int32) ||| (Int32.ofNat (N % 64))), (Int32.ofNat B)] : List Int32) (by simp) _ U_1) ?_
  intro v h1 D1 q hsz
  obtain ⟨j, rfl, hj1, hj2, hj3, rfl, rfl⟩ := q
  have hj : j = 0 := by
    have hj0 : j ≤ 3 := hj1
    rcases Nat.lt_trichotomy j 0 with q | q | q
    · exact absurd q (Nat.not_lt_zero _)
    · exact q
    · exact absurd (own_f2 (N / 64) (by omega) (by omega)).1 (hj2 0 q)
  subst hj
  show Runs _ _ _ _ _ _ _ _ _ _ _ _ [a] h0 0 0 50 #[vr a, vr u8, vr u, vi 0, vi 3, .unset, .unset, .unset, .unset, .unset, .unset] [(.int 0)]
  refine Runs.istore (ls' := #[vr a, vr u8, vr u, vi 0, vi 3, vi 0, .unset, .unset, .unset, .unset, .unset]) i7_50 rfl ?_
  refine Runs.iload i7_52 rfl ?_
  refine Runs.iload i7_54 rfl ?_
  refine Runs.icY (t := 78) i7_56 (by decide) (feq (by decide : ¬ ((0 : Int32) = (3 : Int32)))).2 ?_
  refine Runs.aloadN i7_78 rfl rfl ?_
  refine Runs.iloadN i7_79 rfl ?_
  refine Runs.iloadN i7_80 rfl ?_
  refine Runs.iload i7_81 rfl ?_
  refine Runs.iadd (z := (3 : Int32)) i7_83 (by decide) ?_
  refine Runs.callSW (argsL := [(.ref u), (.int 0), (.int 3)]) (rest := []) (W := 0) i7_84 (w56 hw) (w57 hw) (w58 hw) (w59 hw) (by decide) pd_19 rfl rfl rfl rfl (by decide) (by decide) (by decide) (by decide) all0 (by decide) (own_cor l Z a0 hw n0 u ku 3 16 [(.int (own_8 ((192 : Int32) ||| (Int32.ofNat (N / 64))))), (.int (own_8 ((128 : Int32) ||| (Int32.ofNat (N % 64))))), (.int (own_8 (Int32.ofNat B)))] (by decide) _ U0 E0) ?_
  intro v h_6 D1 q hsz
  obtain ⟨b_2, rfl, g_3, K_4, A_5, rfl⟩ := q
  show Runs _ _ _ _ _ _ _ _ _ _ _ _ [b_2, a] h_6 1 16 87 #[vr a, vr u8, vr u, vi 0, vi 3, vi 0, .unset, .unset, .unset, .unset, .unset] [(.ref b_2)]
  have ge_b_2 : n0 ≤ b_2 := Nat.le_trans hn0 (Nat.le_trans (Nat.le_refl _) g_3)
  refine Runs.astore (ls' := #[vr a, vr u8, vr u, vi 0, vi 3, vi 0, vr b_2, .unset, .unset, .unset, .unset]) i7_87 rfl rfl ?_
  refine Runs.iload i7_89 rfl ?_
  refine Runs.istore (ls' := #[vr a, vr u8, vr u, vi 0, vi 3, vi 0, vr b_2, vi 0, .unset, .unset, .unset]) i7_91 rfl ?_
  refine Runs.iload i7_93 rfl ?_
  refine Runs.iload i7_95 rfl ?_
  refine Runs.icN i7_97 (tlt (by decide : (0 : Int32) < (3 : Int32))).2.1 ?_
  refine Runs.aload i7_100 rfl rfl ?_
  refine Runs.iload i7_102 rfl ?_
  refine Runs.iinc (z := (1 : Int32)) (ls' := #[vr a, vr u8, vr u, vi 0, vi 3, vi 0, vr b_2, vi 1, .unset, .unset, .unset]) i7_104 rfl (by decide) rfl ?_
  refine Runs.baload (v := (.int (own_8 ((192 : Int32) ||| (Int32.ofNat (N / 64)))))) i7_107 A_5 ⟨by decide, by decide⟩ rfl ?_
  refine Runs.istore (ls' := #[vr a, vr u8, vr u, vi 0, vi 3, vi 0, vr b_2, vi 1, vi (own_8 ((192 : Int32) ||| (Int32.ofNat (N / 64)))), .unset, .unset]) i7_108 rfl ?_
  refine Runs.iload i7_110 rfl ?_
  refine Runs.ifY (t := 129) i7_112 (by decide) (tlt (own_f2 (N / 64) (by omega) (by omega)).1).1 ?_
  refine Runs.iload i7_129 rfl ?_
  refine Runs.sipush (v := (254 : Int32)) i7_131 (by decide) ?_
  refine Runs.iand (z := ((own_8 ((192 : Int32) ||| (Int32.ofNat (N / 64)))) &&& (254 : Int32))) i7_134 rfl ?_
  refine Runs.sipush (v := (194 : Int32)) i7_135 (by decide) ?_
  refine Runs.icN i7_138 (teq ((own_f2 (N / 64) (by omega) (by omega)).2.2.2.mpr (by omega))).2 ?_
  refine Runs.iload i7_141 rfl ?_
  refine Runs.iload i7_143 rfl ?_
  refine Runs.icN i7_145 (tlt (by decide : (1 : Int32) < (3 : Int32))).2.1 ?_
  refine Runs.aload i7_148 rfl rfl ?_
  refine Runs.iload i7_150 rfl ?_
  refine Runs.baload (v := (.int (own_8 ((128 : Int32) ||| (Int32.ofNat (N % 64)))))) i7_152 A_5 ⟨by decide, by decide⟩ rfl ?_
  refine Runs.istore (ls' := #[vr a, vr u8, vr u, vi 0, vi 3, vi 0, vr b_2, vi 1, vi (own_8 ((192 : Int32) ||| (Int32.ofNat (N / 64)))), vi (own_8 ((128 : Int32) ||| (Int32.ofNat (N % 64)))), .unset]) i7_153 rfl ?_
  refine Runs.iload i7_155 rfl ?_
  refine Runs.bipush (v := (-64 : Int32)) i7_157 (by decide) ?_
  refine Runs.icN i7_159 (tlt (own_fc _ (show N % 64 < 64 by omega)).2.1).2.1 ?_
  refine Runs.aload i7_162 rfl rfl ?_
  refine Runs.iload i7_164 rfl ?_
  refine Runs.iinc (z := (1 : Int32)) (ls' := #[vr a, vr u8, vr u, vi 0, vi 3, vi 1, vr b_2, vi 1, vi (own_8 ((192 : Int32) ||| (Int32.ofNat (N / 64)))), vi (own_8 ((128 : Int32) ||| (Int32.ofNat (N % 64)))), .unset]) i7_166 rfl (by decide) rfl ?_
  refine Runs.iload i7_169 rfl ?_
  refine Runs.iload i7_171 rfl ?_
  refine Runs.callSW (argsL := [(.int (own_8 ((192 : Int32) ||| (Int32.ofNat (N / 64))))), (.int (own_8 ((128 : Int32) ||| (Int32.ofNat (N % 64)))))]) (rest := [(.int 0), (.ref b_2)]) (W := 2) i7_173 (w101 hw) (w102 hw) (w32 hw) (w103 hw) (by decide) pd_9 rfl rfl rfl rfl (by decide) (by decide) (by decide) (by decide) all0 (by decide) (own_dd2 l Z a0 hw n0 (own_8 ((192 : Int32) ||| (Int32.ofNat (N / 64)))) (own_8 ((128 : Int32) ||| (Int32.ofNat (N % 64)))) (Int32.ofNat N) ((own_dc2 _ (by omega) _ (by omega)).trans (congrArg Int32.ofNat (by omega))) (own_chN (by omega)) _) ?_
  intro v h1 D1 q hsz
  obtain ⟨rfl, rfl, rfl⟩ := q
  show Runs _ _ _ _ _ _ _ _ _ _ _ _ [b_2, a] h_6 1 16 176 #[vr a, vr u8, vr u, vi 0, vi 3, vi 1, vr b_2, vi 1, vi (own_8 ((192 : Int32) ||| (Int32.ofNat (N / 64)))), vi (own_8 ((128 : Int32) ||| (Int32.ofNat (N % 64)))), .unset] [(.int (Int32.ofNat N)), (.int 0), (.ref b_2)]
  refine Runs.i2b (z := (own_8 (Int32.ofNat N))) i7_176 rfl ?_
  refine Runs.bastore (i := 0) (y := (own_8 (Int32.ofNat N))) i7_177 A_5 ⟨by decide, by decide⟩ (by decide) (Nat.le_of_ble_eq_true rfl) (own_88 _) ge_b_2 (Or.inl (mi 0 rfl)) ?_
  intro h_7 K_8 (A_9 : Arv Z h_7 b_2 ku .byte (3 : Int32) [(.int (own_8 (Int32.ofNat N))), (.int (own_8 ((128 : Int32) ||| (Int32.ofNat (N % 64))))), (.int (own_8 (Int32.ofNat B)))] (.int 0))
  refine Runs.iinc (z := (2 : Int32)) (ls' := #[vr a, vr u8, vr u, vi 0, vi 3, vi 1, vr b_2, vi 2, vi (own_8 ((192 : Int32) ||| (Int32.ofNat (N / 64)))), vi (own_8 ((128 : Int32) ||| (Int32.ofNat (N % 64)))), .unset]) i7_178 rfl (by decide) rfl ?_
  refine Runs.goto (t := 93) i7_181 (by decide) ?_
  refine Runs.iload i7_93 rfl ?_
  refine Runs.iload i7_95 rfl ?_
  refine Runs.icN i7_97 (tlt (by decide : (2 : Int32) < (3 : Int32))).2.1 ?_
  refine Runs.aload i7_100 rfl rfl ?_
  refine Runs.iload i7_102 rfl ?_
  refine Runs.iinc (z := (3 : Int32)) (ls' := #[vr a, vr u8, vr u, vi 0, vi 3, vi 1, vr b_2, vi 3, vi (own_8 ((192 : Int32) ||| (Int32.ofNat (N / 64)))), vi (own_8 ((128 : Int32) ||| (Int32.ofNat (N % 64)))), .unset]) i7_104 rfl (by decide) rfl ?_
  refine Runs.baload (v := (.int (own_8 (Int32.ofNat B)))) i7_107 A_9 ⟨by decide, by decide⟩ rfl ?_
  refine Runs.istore (ls' := #[vr a, vr u8, vr u, vi 0, vi 3, vi 1, vr b_2, vi 3, vi (own_8 (Int32.ofNat B)), vi (own_8 ((128 : Int32) ||| (Int32.ofNat (N % 64)))), .unset]) i7_108 rfl ?_
  refine Runs.iload i7_110 rfl ?_
  refine Runs.ifY (t := 129) i7_112 (by decide) (tlt (own_8g hB)).1 ?_
  refine Runs.iload i7_129 rfl ?_
  refine Runs.sipush (v := (254 : Int32)) i7_131 (by decide) ?_
  refine Runs.iand (z := ((own_8 (Int32.ofNat B)) &&& (254 : Int32))) i7_134 rfl ?_
  refine Runs.sipush (v := (194 : Int32)) i7_135 (by decide) ?_
  by_cases hc138 : ((own_8 (Int32.ofNat B)) &&& (254 : Int32)) = (194 : Int32)
  · refine Runs.icN i7_138 (teq hc138).2 ?_
    refine Runs.iload i7_141 rfl ?_
    refine Runs.iload i7_143 rfl ?_
    refine Runs.icY (t := 184) i7_145 (by decide) (flt (by decide : ¬ ((3 : Int32) < (3 : Int32)))).2.1 ?_
    refine Runs.iinc (z := (2 : Int32)) (ls' := #[vr a, vr u8, vr u, vi 0, vi 3, vi 1, vr b_2, vi 2, vi (own_8 (Int32.ofNat B)), vi (own_8 ((128 : Int32) ||| (Int32.ofNat (N % 64)))), .unset]) i7_184 rfl (by decide) rfl ?_
    refine Runs.goto (t := 190) i7_187 (by decide) ?_
    refine Runs.weak (D1 := [b_2, a]) (by simp) ?_
    have O_10 := ((O0.keep K_4 nin0).keep K_8 (ninS (Nat.ne_of_lt (Nat.lt_of_lt_of_le (Nat.lt_of_lt_of_le O0.lt (Nat.le_refl _)) g_3)) nin0))
    exact own_c190 l Z a0 hw n0 a u u8 b_2 ku 3 2 ([(Int32.ofNat N)] : List Int32) ([(Int32.ofNat N), (65533 : Int32)] : List Int32) [(.int (own_8 (Int32.ofNat N))), (.int (own_8 ((128 : Int32) ||| (Int32.ofNat (N % 64))))), (.int (own_8 (Int32.ofNat B)))] (own_8 (Int32.ofNat B)) (vi (own_8 ((128 : Int32) ||| (Int32.ofNat (N % 64))))) (.unset) (by decide) (by decide) (by simp) (by simp) (own_aS (own_latN (by omega)) own_a0) (fun i hi => by obtain rfl : i = 0 := Nat.lt_one_iff.mp hi; rfl) (own_nlat (mi 1 rfl) (by decide)) (own_aS (own_chN (by omega)) (own_aS ⟨by decide, by decide⟩ own_a0)) ga S_A S_H S_L fm hfm S_F (fun b kb h1 hne gb A1 B1 => own_dng l Z a0 hw n0 b_2 b ku kb [(.int (own_8 (Int32.ofNat N))), (.int (own_8 ((128 : Int32) ||| (Int32.ofNat (N % 64))))), (.int (own_8 (Int32.ofNat B)))] 3 hne (by decide) h1 A1 gb S_A S_H S_L ([(Int32.ofNat N)] : List Int32) 2 (by simp) rfl (own_8 (Int32.ofNat B)) (own_8g hB) rfl B1) _ _ (((Keep.refl _ _).trans K_4 all0).trans K_8 (allS (Or.inr (Nat.le_trans (Nat.le_refl _) g_3)) all0)) (Nat.le_trans hn0 (Nat.le_trans K_4.1 K_8.1)) O_10 A_9
  · refine Runs.icY (t := 184) i7_138 (by decide) (feq hc138).2 ?_
    refine Runs.iinc (z := (2 : Int32)) (ls' := #[vr a, vr u8, vr u, vi 0, vi 3, vi 1, vr b_2, vi 2, vi (own_8 (Int32.ofNat B)), vi (own_8 ((128 : Int32) ||| (Int32.ofNat (N % 64)))), .unset]) i7_184 rfl (by decide) rfl ?_
    refine Runs.goto (t := 190) i7_187 (by decide) ?_
    refine Runs.weak (D1 := [b_2, a]) (by simp) ?_
    have O_11 := ((O0.keep K_4 nin0).keep K_8 (ninS (Nat.ne_of_lt (Nat.lt_of_lt_of_le (Nat.lt_of_lt_of_le O0.lt (Nat.le_refl _)) g_3)) nin0))
    exact own_c190 l Z a0 hw n0 a u u8 b_2 ku 3 2 ([(Int32.ofNat N)] : List Int32) ([(Int32.ofNat N), (65533 : Int32)] : List Int32) [(.int (own_8 (Int32.ofNat N))), (.int (own_8 ((128 : Int32) ||| (Int32.ofNat (N % 64))))), (.int (own_8 (Int32.ofNat B)))] (own_8 (Int32.ofNat B)) (vi (own_8 ((128 : Int32) ||| (Int32.ofNat (N % 64))))) (.unset) (by decide) (by decide) (by simp) (by simp) (own_aS (own_latN (by omega)) own_a0) (fun i hi => by obtain rfl : i = 0 := Nat.lt_one_iff.mp hi; rfl) (own_nlat (mi 1 rfl) (by decide)) (own_aS (own_chN (by omega)) (own_aS ⟨by decide, by decide⟩ own_a0)) ga S_A S_H S_L fm hfm S_F (fun b kb h1 hne gb A1 B1 => own_dng l Z a0 hw n0 b_2 b ku kb [(.int (own_8 (Int32.ofNat N))), (.int (own_8 ((128 : Int32) ||| (Int32.ofNat (N % 64))))), (.int (own_8 (Int32.ofNat B)))] 3 hne (by decide) h1 A1 gb S_A S_H S_L ([(Int32.ofNat N)] : List Int32) 2 (by simp) rfl (own_8 (Int32.ofNat B)) (own_8g hB) rfl B1) _ _ (((Keep.refl _ _).trans K_4 all0).trans K_8 (allS (Or.inr (Nat.le_trans (Nat.le_refl _) g_3)) all0)) (Nat.le_trans hn0 (Nat.le_trans K_4.1 K_8.1)) O_11 A_9
theorem own_ct2Nn (l : Launch) (Z : State) (a0 : Array Value) (hw : Wds Z a0) (n0 : Nat) (N : Nat) (hN : 256 ≤ N ∧ N < 2048) (a u u8 : Addr) (ku : ClassId) (hua : u ≠ a) (cpt : Int32) (h0 : Heap) (ga : n0 ≤ a) (O0 : Obj Z h0 a "java/lang/String" [("java/lang/String", "value", "[B", .null), ("java/lang/String", "coder", "B", (.int 0))]) (U0 : Arv Z h0 u ku .byte (2 : Int32) [(.int (own_8 ((192 : Int32) ||| (Int32.ofNat (N / 64))))), (.int (own_8 ((128 : Int32) ||| (Int32.ofNat (N % 64)))))] (.int 0)) (E0 : Exa Z h0 u "[B") (hn0 : n0 ≤ h0.size) (S_C : SC Z cpt) (hcpt : ¬ cpt = 0) (S_A : SA Z) (S_H : SH Z) (S_L : SL Z) (fm : Value) (hfm : fm.isRef = true) (S_F : SF Z fm) (S_I : Sta Z Z.heap "sun/nio/cs/UTF_8" "INSTANCE" "Lsun/nio/cs/UTF_8;" (.ref u8))  : ConH 1 l Z [("java/lang/String", 7)] n0 (⟨"java/lang/String", "<init>", "(Ljava/nio/charset/Charset;[BII)V"⟩ : MethodName) c7_ 11 none [((800 : Nat), (813 : Nat), (816 : Nat), (202 : Nat))] ({ frames := 5, cells := 4, slots := 48, locals := 83 } : Room) #[(.ref a), (.ref u8), (.ref u), (.int 0), (.int 2)] [a] h0 (fun v h D' => v = none ∧ ∃ t k, Keep h0 h [a] ∧ Sx Z h a t k ([(Int32.ofNat N)] : List Int32) ∧ D' = []) := by
  refine ConH.of_runs (ls := #[vr a, vr u8, vr u, vi 0, vi 2, .unset, .unset, .unset, .unset, .unset, .unset]) (by decide +kernel) (fun m => by simp [entryFrame, mkF, argsToLocals, Value.category]) ?_
  refine Runs.aloadN i7_0 rfl rfl ?_
  refine Runs.initO (W := 0) i7_1 (w48 hw) (w17 hw) (w18 hw) rfl (by decide) rfl (by decide) ?_
  refine Runs.iload i7_4 rfl ?_
  refine Runs.ifY (t := 30) i7_6 (by decide) (feq (by decide : ¬ ((2 : Int32) = (0 : Int32)))).2 ?_
  refine Runs.aloadN i7_30 rfl rfl ?_
  refine Runs.getS i7_31 (w49 hw) Via.refl S_I ?_
  refine Runs.acN i7_34 rfl rfl (Jvm.Free.XT.aa_ne_f (congrArg Value.ref rfl)) ?_
  refine Runs.getS i7_37 (w51 hw) Via.refl S_C ?_
  refine Runs.ifN i7_40 (feq hcpt).1 ?_
  refine Runs.aloadN i7_43 rfl rfl ?_
  refine Runs.iloadN i7_44 rfl ?_
  refine Runs.iload i7_45 rfl ?_
  have U_1 : Arv Z h0 u ku .byte (Int32.ofNat ([((192 : Int32) ||| (Int32.ofNat (N / 64))), ((128 : Int32) ||| (Int32.ofNat (N % 64)))] : List Int32).length) (([((192 : Int32) ||| (Int32.ofNat (N / 64))), ((128 : Int32) ||| (Int32.ofNat (N % 64)))] : List Int32).map own_b) (.int 0) := U0
  refine Runs.callSW (argsL := [(.ref u), (.int 0), (.int 2)]) (rest := []) (W := 0) i7_47 (w52 hw) (w53 hw) (w54 hw) (w55 hw) (by decide) pd_18 rfl rfl rfl rfl (by decide) (by decide) (by decide) (by decide) all0 (by decide) (own_ctp l Z a0 hw n0 u ku ([((192 : Int32) ||| (Int32.ofNat (N / 64))), ((128 : Int32) ||| (Int32.ofNat (N % 64)))] : List Int32) (by simp) _ U_1) ?_
  intro v h1 D1 q hsz
  obtain ⟨j, rfl, hj1, hj2, hj3, rfl, rfl⟩ := q
  have hj : j = 0 := by
    have hj0 : j ≤ 2 := hj1
    rcases Nat.lt_trichotomy j 0 with q | q | q
    · exact absurd q (Nat.not_lt_zero _)
    · exact q
    · exact absurd (own_f2 (N / 64) (by omega) (by omega)).1 (hj2 0 q)
  subst hj
  show Runs _ _ _ _ _ _ _ _ _ _ _ _ [a] h0 0 0 50 #[vr a, vr u8, vr u, vi 0, vi 2, .unset, .unset, .unset, .unset, .unset, .unset] [(.int 0)]
  refine Runs.istore (ls' := #[vr a, vr u8, vr u, vi 0, vi 2, vi 0, .unset, .unset, .unset, .unset, .unset]) i7_50 rfl ?_
  refine Runs.iload i7_52 rfl ?_
  refine Runs.iload i7_54 rfl ?_
  refine Runs.icY (t := 78) i7_56 (by decide) (feq (by decide : ¬ ((0 : Int32) = (2 : Int32)))).2 ?_
  refine Runs.aloadN i7_78 rfl rfl ?_
  refine Runs.iloadN i7_79 rfl ?_
  refine Runs.iloadN i7_80 rfl ?_
  refine Runs.iload i7_81 rfl ?_
  refine Runs.iadd (z := (2 : Int32)) i7_83 (by decide) ?_
  refine Runs.callSW (argsL := [(.ref u), (.int 0), (.int 2)]) (rest := []) (W := 0) i7_84 (w56 hw) (w57 hw) (w58 hw) (w59 hw) (by decide) pd_19 rfl rfl rfl rfl (by decide) (by decide) (by decide) (by decide) all0 (by decide) (own_cor l Z a0 hw n0 u ku 2 16 [(.int (own_8 ((192 : Int32) ||| (Int32.ofNat (N / 64))))), (.int (own_8 ((128 : Int32) ||| (Int32.ofNat (N % 64)))))] (by decide) _ U0 E0) ?_
  intro v h_6 D1 q hsz
  obtain ⟨b_2, rfl, g_3, K_4, A_5, rfl⟩ := q
  show Runs _ _ _ _ _ _ _ _ _ _ _ _ [b_2, a] h_6 1 16 87 #[vr a, vr u8, vr u, vi 0, vi 2, vi 0, .unset, .unset, .unset, .unset, .unset] [(.ref b_2)]
  have ge_b_2 : n0 ≤ b_2 := Nat.le_trans hn0 (Nat.le_trans (Nat.le_refl _) g_3)
  refine Runs.astore (ls' := #[vr a, vr u8, vr u, vi 0, vi 2, vi 0, vr b_2, .unset, .unset, .unset, .unset]) i7_87 rfl rfl ?_
  refine Runs.iload i7_89 rfl ?_
  refine Runs.istore (ls' := #[vr a, vr u8, vr u, vi 0, vi 2, vi 0, vr b_2, vi 0, .unset, .unset, .unset]) i7_91 rfl ?_
  refine Runs.iload i7_93 rfl ?_
  refine Runs.iload i7_95 rfl ?_
  refine Runs.icN i7_97 (tlt (by decide : (0 : Int32) < (2 : Int32))).2.1 ?_
  refine Runs.aload i7_100 rfl rfl ?_
  refine Runs.iload i7_102 rfl ?_
  refine Runs.iinc (z := (1 : Int32)) (ls' := #[vr a, vr u8, vr u, vi 0, vi 2, vi 0, vr b_2, vi 1, .unset, .unset, .unset]) i7_104 rfl (by decide) rfl ?_
  refine Runs.baload (v := (.int (own_8 ((192 : Int32) ||| (Int32.ofNat (N / 64)))))) i7_107 A_5 ⟨by decide, by decide⟩ rfl ?_
  refine Runs.istore (ls' := #[vr a, vr u8, vr u, vi 0, vi 2, vi 0, vr b_2, vi 1, vi (own_8 ((192 : Int32) ||| (Int32.ofNat (N / 64)))), .unset, .unset]) i7_108 rfl ?_
  refine Runs.iload i7_110 rfl ?_
  refine Runs.ifY (t := 129) i7_112 (by decide) (tlt (own_f2 (N / 64) (by omega) (by omega)).1).1 ?_
  refine Runs.iload i7_129 rfl ?_
  refine Runs.sipush (v := (254 : Int32)) i7_131 (by decide) ?_
  refine Runs.iand (z := ((own_8 ((192 : Int32) ||| (Int32.ofNat (N / 64)))) &&& (254 : Int32))) i7_134 rfl ?_
  refine Runs.sipush (v := (194 : Int32)) i7_135 (by decide) ?_
  refine Runs.icY (t := 184) i7_138 (by decide) (feq (fun q => absurd ((own_f2 (N / 64) (by omega) (by omega)).2.2.2.mp q) (by omega))).2 ?_
  refine Runs.iinc (z := (0 : Int32)) (ls' := #[vr a, vr u8, vr u, vi 0, vi 2, vi 0, vr b_2, vi 0, vi (own_8 ((192 : Int32) ||| (Int32.ofNat (N / 64)))), .unset, .unset]) i7_184 rfl (by decide) rfl ?_
  refine Runs.goto (t := 190) i7_187 (by decide) ?_
  refine Runs.weak (D1 := [b_2, a]) (by simp) ?_
  have O_7 := (O0.keep K_4 nin0)
  exact own_c190 l Z a0 hw n0 a u u8 b_2 ku 2 0 ([] : List Int32) ([(Int32.ofNat N)] : List Int32) [(.int (own_8 ((192 : Int32) ||| (Int32.ofNat (N / 64))))), (.int (own_8 ((128 : Int32) ||| (Int32.ofNat (N % 64)))))] (own_8 ((192 : Int32) ||| (Int32.ofNat (N / 64)))) (.unset) (.unset) (by decide) (by decide) (by simp) (by simp) own_lat0 (fun i hi => absurd hi (Nat.not_lt_zero _)) (own_nlat (mi 0 rfl) (own_lt (a := 255) (by omega) (by omega))) (own_aS (own_chN (by omega)) own_a0) ga S_A S_H S_L fm hfm S_F (fun b kb h1 hne gb A1 B1 => own_dh2n l Z a0 hw n0 b_2 b ku kb [(.int (own_8 ((192 : Int32) ||| (Int32.ofNat (N / 64))))), (.int (own_8 ((128 : Int32) ||| (Int32.ofNat (N % 64)))))] hne h1 A1 gb S_A S_H S_L N (by omega) rfl rfl B1) _ _ ((Keep.refl _ _).trans K_4 all0) (Nat.le_trans hn0 K_4.1) O_7 A_5
theorem own_ct2Np (l : Launch) (Z : State) (a0 : Array Value) (hw : Wds Z a0) (n0 : Nat) (N : Nat) (hN : 256 ≤ N ∧ N < 2048) (B : Nat) (hB : B < 128) (a u u8 : Addr) (ku : ClassId) (hua : u ≠ a) (cpt : Int32) (h0 : Heap) (ga : n0 ≤ a) (O0 : Obj Z h0 a "java/lang/String" [("java/lang/String", "value", "[B", .null), ("java/lang/String", "coder", "B", (.int 0))]) (U0 : Arv Z h0 u ku .byte (3 : Int32) [(.int (own_8 ((192 : Int32) ||| (Int32.ofNat (N / 64))))), (.int (own_8 ((128 : Int32) ||| (Int32.ofNat (N % 64))))), (.int (own_8 (Int32.ofNat B)))] (.int 0)) (E0 : Exa Z h0 u "[B") (hn0 : n0 ≤ h0.size) (S_C : SC Z cpt) (hcpt : ¬ cpt = 0) (S_A : SA Z) (S_H : SH Z) (S_L : SL Z) (fm : Value) (hfm : fm.isRef = true) (S_F : SF Z fm) (S_I : Sta Z Z.heap "sun/nio/cs/UTF_8" "INSTANCE" "Lsun/nio/cs/UTF_8;" (.ref u8))  : ConH 1 l Z [("java/lang/String", 7)] n0 (⟨"java/lang/String", "<init>", "(Ljava/nio/charset/Charset;[BII)V"⟩ : MethodName) c7_ 11 none [((800 : Nat), (813 : Nat), (816 : Nat), (202 : Nat))] ({ frames := 5, cells := 4, slots := 48, locals := 83 } : Room) #[(.ref a), (.ref u8), (.ref u), (.int 0), (.int 3)] [a] h0 (fun v h D' => v = none ∧ ∃ t k, Keep h0 h [a] ∧ Sx Z h a t k ([(Int32.ofNat N), (Int32.ofNat B)] : List Int32) ∧ D' = []) := by
  refine ConH.of_runs (ls := #[vr a, vr u8, vr u, vi 0, vi 3, .unset, .unset, .unset, .unset, .unset, .unset]) (by decide +kernel) (fun m => by simp [entryFrame, mkF, argsToLocals, Value.category]) ?_
  refine Runs.aloadN i7_0 rfl rfl ?_
  refine Runs.initO (W := 0) i7_1 (w48 hw) (w17 hw) (w18 hw) rfl (by decide) rfl (by decide) ?_
  refine Runs.iload i7_4 rfl ?_
  refine Runs.ifY (t := 30) i7_6 (by decide) (feq (by decide : ¬ ((3 : Int32) = (0 : Int32)))).2 ?_
  refine Runs.aloadN i7_30 rfl rfl ?_
  refine Runs.getS i7_31 (w49 hw) Via.refl S_I ?_
  refine Runs.acN i7_34 rfl rfl (Jvm.Free.XT.aa_ne_f (congrArg Value.ref rfl)) ?_
  refine Runs.getS i7_37 (w51 hw) Via.refl S_C ?_
  refine Runs.ifN i7_40 (feq hcpt).1 ?_
  refine Runs.aloadN i7_43 rfl rfl ?_
  refine Runs.iloadN i7_44 rfl ?_
  refine Runs.iload i7_45 rfl ?_
  have U_1 : Arv Z h0 u ku .byte (Int32.ofNat ([((192 : Int32) ||| (Int32.ofNat (N / 64))), ((128 : Int32) ||| (Int32.ofNat (N % 64))), (Int32.ofNat B)] : List Int32).length) (([((192 : Int32) ||| (Int32.ofNat (N / 64))), ((128 : Int32) ||| (Int32.ofNat (N % 64))), (Int32.ofNat B)] : List Int32).map own_b) (.int 0) := U0
  refine Runs.callSW (argsL := [(.ref u), (.int 0), (.int 3)]) (rest := []) (W := 0) i7_47 (w52 hw) (w53 hw) (w54 hw) (w55 hw) (by decide) pd_18 rfl rfl rfl rfl (by decide) (by decide) (by decide) (by decide) all0 (by decide) (own_ctp l Z a0 hw n0 u ku ([((192 : Int32) ||| (Int32.ofNat (N / 64))), ((128 : Int32) ||| (Int32.ofNat (N % 64))), (Int32.ofNat B)] : List Int32) (by simp) _ U_1) ?_
  intro v h1 D1 q hsz
  obtain ⟨j, rfl, hj1, hj2, hj3, rfl, rfl⟩ := q
  have hj : j = 0 := by
    have hj0 : j ≤ 3 := hj1
    rcases Nat.lt_trichotomy j 0 with q | q | q
    · exact absurd q (Nat.not_lt_zero _)
    · exact q
    · exact absurd (own_f2 (N / 64) (by omega) (by omega)).1 (hj2 0 q)
  subst hj
  show Runs _ _ _ _ _ _ _ _ _ _ _ _ [a] h0 0 0 50 #[vr a, vr u8, vr u, vi 0, vi 3, .unset, .unset, .unset, .unset, .unset, .unset] [(.int 0)]
  refine Runs.istore (ls' := #[vr a, vr u8, vr u, vi 0, vi 3, vi 0, .unset, .unset, .unset, .unset, .unset]) i7_50 rfl ?_
  refine Runs.iload i7_52 rfl ?_
  refine Runs.iload i7_54 rfl ?_
  refine Runs.icY (t := 78) i7_56 (by decide) (feq (by decide : ¬ ((0 : Int32) = (3 : Int32)))).2 ?_
  refine Runs.aloadN i7_78 rfl rfl ?_
  refine Runs.iloadN i7_79 rfl ?_
  refine Runs.iloadN i7_80 rfl ?_
  refine Runs.iload i7_81 rfl ?_
  refine Runs.iadd (z := (3 : Int32)) i7_83 (by decide) ?_
  refine Runs.callSW (argsL := [(.ref u), (.int 0), (.int 3)]) (rest := []) (W := 0) i7_84 (w56 hw) (w57 hw) (w58 hw) (w59 hw) (by decide) pd_19 rfl rfl rfl rfl (by decide) (by decide) (by decide) (by decide) all0 (by decide) (own_cor l Z a0 hw n0 u ku 3 16 [(.int (own_8 ((192 : Int32) ||| (Int32.ofNat (N / 64))))), (.int (own_8 ((128 : Int32) ||| (Int32.ofNat (N % 64))))), (.int (own_8 (Int32.ofNat B)))] (by decide) _ U0 E0) ?_
  intro v h_6 D1 q hsz
  obtain ⟨b_2, rfl, g_3, K_4, A_5, rfl⟩ := q
  show Runs _ _ _ _ _ _ _ _ _ _ _ _ [b_2, a] h_6 1 16 87 #[vr a, vr u8, vr u, vi 0, vi 3, vi 0, .unset, .unset, .unset, .unset, .unset] [(.ref b_2)]
  have ge_b_2 : n0 ≤ b_2 := Nat.le_trans hn0 (Nat.le_trans (Nat.le_refl _) g_3)
  refine Runs.astore (ls' := #[vr a, vr u8, vr u, vi 0, vi 3, vi 0, vr b_2, .unset, .unset, .unset, .unset]) i7_87 rfl rfl ?_
  refine Runs.iload i7_89 rfl ?_
  refine Runs.istore (ls' := #[vr a, vr u8, vr u, vi 0, vi 3, vi 0, vr b_2, vi 0, .unset, .unset, .unset]) i7_91 rfl ?_
  refine Runs.iload i7_93 rfl ?_
  refine Runs.iload i7_95 rfl ?_
  refine Runs.icN i7_97 (tlt (by decide : (0 : Int32) < (3 : Int32))).2.1 ?_
  refine Runs.aload i7_100 rfl rfl ?_
  refine Runs.iload i7_102 rfl ?_
  refine Runs.iinc (z := (1 : Int32)) (ls' := #[vr a, vr u8, vr u, vi 0, vi 3, vi 0, vr b_2, vi 1, .unset, .unset, .unset]) i7_104 rfl (by decide) rfl ?_
  refine Runs.baload (v := (.int (own_8 ((192 : Int32) ||| (Int32.ofNat (N / 64)))))) i7_107 A_5 ⟨by decide, by decide⟩ rfl ?_
  refine Runs.istore (ls' := #[vr a, vr u8, vr u, vi 0, vi 3, vi 0, vr b_2, vi 1, vi (own_8 ((192 : Int32) ||| (Int32.ofNat (N / 64)))), .unset, .unset]) i7_108 rfl ?_
  refine Runs.iload i7_110 rfl ?_
  refine Runs.ifY (t := 129) i7_112 (by decide) (tlt (own_f2 (N / 64) (by omega) (by omega)).1).1 ?_
  refine Runs.iload i7_129 rfl ?_
  refine Runs.sipush (v := (254 : Int32)) i7_131 (by decide) ?_
  refine Runs.iand (z := ((own_8 ((192 : Int32) ||| (Int32.ofNat (N / 64)))) &&& (254 : Int32))) i7_134 rfl ?_
  refine Runs.sipush (v := (194 : Int32)) i7_135 (by decide) ?_
  refine Runs.icY (t := 184) i7_138 (by decide) (feq (fun q => absurd ((own_f2 (N / 64) (by omega) (by omega)).2.2.2.mp q) (by omega))).2 ?_
  refine Runs.iinc (z := (0 : Int32)) (ls' := #[vr a, vr u8, vr u, vi 0, vi 3, vi 0, vr b_2, vi 0, vi (own_8 ((192 : Int32) ||| (Int32.ofNat (N / 64)))), .unset, .unset]) i7_184 rfl (by decide) rfl ?_
  refine Runs.goto (t := 190) i7_187 (by decide) ?_
  refine Runs.weak (D1 := [b_2, a]) (by simp) ?_
  have O_7 := (O0.keep K_4 nin0)
  exact own_c190 l Z a0 hw n0 a u u8 b_2 ku 3 0 ([] : List Int32) ([(Int32.ofNat N), (Int32.ofNat B)] : List Int32) [(.int (own_8 ((192 : Int32) ||| (Int32.ofNat (N / 64))))), (.int (own_8 ((128 : Int32) ||| (Int32.ofNat (N % 64))))), (.int (own_8 (Int32.ofNat B)))] (own_8 ((192 : Int32) ||| (Int32.ofNat (N / 64)))) (.unset) (.unset) (by decide) (by decide) (by simp) (by simp) own_lat0 (fun i hi => absurd hi (Nat.not_lt_zero _)) (own_nlat (mi 0 rfl) (own_lt (a := 255) (by omega) (by omega))) (own_aS (own_chN (by omega)) (own_aS (own_chN (by omega)) own_a0)) ga S_A S_H S_L fm hfm S_F (fun b kb h1 hne gb A1 B1 => own_dh2p l Z a0 hw n0 b_2 b ku kb [(.int (own_8 ((192 : Int32) ||| (Int32.ofNat (N / 64))))), (.int (own_8 ((128 : Int32) ||| (Int32.ofNat (N % 64))))), (.int (own_8 (Int32.ofNat B)))] hne h1 A1 gb S_A S_H S_L N (by omega) rfl rfl B hB (congrArg Value.int (own_8id hB)) B1) _ _ ((Keep.refl _ _).trans K_4 all0) (Nat.le_trans hn0 K_4.1) O_7 A_5
theorem own_ct2Ng (l : Launch) (Z : State) (a0 : Array Value) (hw : Wds Z a0) (n0 : Nat) (N : Nat) (hN : 256 ≤ N ∧ N < 2048) (B : Nat) (hB : 128 ≤ B ∧ B < 256) (a u u8 : Addr) (ku : ClassId) (hua : u ≠ a) (cpt : Int32) (h0 : Heap) (ga : n0 ≤ a) (O0 : Obj Z h0 a "java/lang/String" [("java/lang/String", "value", "[B", .null), ("java/lang/String", "coder", "B", (.int 0))]) (U0 : Arv Z h0 u ku .byte (3 : Int32) [(.int (own_8 ((192 : Int32) ||| (Int32.ofNat (N / 64))))), (.int (own_8 ((128 : Int32) ||| (Int32.ofNat (N % 64))))), (.int (own_8 (Int32.ofNat B)))] (.int 0)) (E0 : Exa Z h0 u "[B") (hn0 : n0 ≤ h0.size) (S_C : SC Z cpt) (hcpt : ¬ cpt = 0) (S_A : SA Z) (S_H : SH Z) (S_L : SL Z) (fm : Value) (hfm : fm.isRef = true) (S_F : SF Z fm) (S_I : Sta Z Z.heap "sun/nio/cs/UTF_8" "INSTANCE" "Lsun/nio/cs/UTF_8;" (.ref u8))  : ConH 1 l Z [("java/lang/String", 7)] n0 (⟨"java/lang/String", "<init>", "(Ljava/nio/charset/Charset;[BII)V"⟩ : MethodName) c7_ 11 none [((800 : Nat), (813 : Nat), (816 : Nat), (202 : Nat))] ({ frames := 5, cells := 4, slots := 48, locals := 83 } : Room) #[(.ref a), (.ref u8), (.ref u), (.int 0), (.int 3)] [a] h0 (fun v h D' => v = none ∧ ∃ t k, Keep h0 h [a] ∧ Sx Z h a t k ([(Int32.ofNat N), (65533 : Int32)] : List Int32) ∧ D' = []) := by
  refine ConH.of_runs (ls := #[vr a, vr u8, vr u, vi 0, vi 3, .unset, .unset, .unset, .unset, .unset, .unset]) (by decide +kernel) (fun m => by simp [entryFrame, mkF, argsToLocals, Value.category]) ?_
  refine Runs.aloadN i7_0 rfl rfl ?_
  refine Runs.initO (W := 0) i7_1 (w48 hw) (w17 hw) (w18 hw) rfl (by decide) rfl (by decide) ?_
  refine Runs.iload i7_4 rfl ?_
  refine Runs.ifY (t := 30) i7_6 (by decide) (feq (by decide : ¬ ((3 : Int32) = (0 : Int32)))).2 ?_
  refine Runs.aloadN i7_30 rfl rfl ?_
  refine Runs.getS i7_31 (w49 hw) Via.refl S_I ?_
  refine Runs.acN i7_34 rfl rfl (Jvm.Free.XT.aa_ne_f (congrArg Value.ref rfl)) ?_
  refine Runs.getS i7_37 (w51 hw) Via.refl S_C ?_
  refine Runs.ifN i7_40 (feq hcpt).1 ?_
  refine Runs.aloadN i7_43 rfl rfl ?_
  refine Runs.iloadN i7_44 rfl ?_
  refine Runs.iload i7_45 rfl ?_
  have U_1 : Arv Z h0 u ku .byte (Int32.ofNat ([((192 : Int32) ||| (Int32.ofNat (N / 64))), ((128 : Int32) ||| (Int32.ofNat (N % 64))), (Int32.ofNat B)] : List Int32).length) (([((192 : Int32) ||| (Int32.ofNat (N / 64))), ((128 : Int32) ||| (Int32.ofNat (N % 64))), (Int32.ofNat B)] : List Int32).map own_b) (.int 0) := U0
  refine Runs.callSW (argsL := [(.ref u), (.int 0), (.int 3)]) (rest := []) (W := 0) i7_47 (w52 hw) (w53 hw) (w54 hw) (w55 hw) (by decide) pd_18 rfl rfl rfl rfl (by decide) (by decide) (by decide) (by decide) all0 (by decide) (own_ctp l Z a0 hw n0 u ku ([((192 : Int32) ||| (Int32.ofNat (N / 64))), ((128 : Int32) ||| (Int32.ofNat (N % 64))), (Int32.ofNat B)] : List Int32) (by simp) _ U_1) ?_
  intro v h1 D1 q hsz
  obtain ⟨j, rfl, hj1, hj2, hj3, rfl, rfl⟩ := q
  have hj : j = 0 := by
    have hj0 : j ≤ 3 := hj1
    rcases Nat.lt_trichotomy j 0 with q | q | q
    · exact absurd q (Nat.not_lt_zero _)
    · exact q
    · exact absurd (own_f2 (N / 64) (by omega) (by omega)).1 (hj2 0 q)
  subst hj
  show Runs _ _ _ _ _ _ _ _ _ _ _ _ [a] h0 0 0 50 #[vr a, vr u8, vr u, vi 0, vi 3, .unset, .unset, .unset, .unset, .unset, .unset] [(.int 0)]
  refine Runs.istore (ls' := #[vr a, vr u8, vr u, vi 0, vi 3, vi 0, .unset, .unset, .unset, .unset, .unset]) i7_50 rfl ?_
  refine Runs.iload i7_52 rfl ?_
  refine Runs.iload i7_54 rfl ?_
  refine Runs.icY (t := 78) i7_56 (by decide) (feq (by decide : ¬ ((0 : Int32) = (3 : Int32)))).2 ?_
  refine Runs.aloadN i7_78 rfl rfl ?_
  refine Runs.iloadN i7_79 rfl ?_
  refine Runs.iloadN i7_80 rfl ?_
  refine Runs.iload i7_81 rfl ?_
  refine Runs.iadd (z := (3 : Int32)) i7_83 (by decide) ?_
  refine Runs.callSW (argsL := [(.ref u), (.int 0), (.int 3)]) (rest := []) (W := 0) i7_84 (w56 hw) (w57 hw) (w58 hw) (w59 hw) (by decide) pd_19 rfl rfl rfl rfl (by decide) (by decide) (by decide) (by decide) all0 (by decide) (own_cor l Z a0 hw n0 u ku 3 16 [(.int (own_8 ((192 : Int32) ||| (Int32.ofNat (N / 64))))), (.int (own_8 ((128 : Int32) ||| (Int32.ofNat (N % 64))))), (.int (own_8 (Int32.ofNat B)))] (by decide) _ U0 E0) ?_
  intro v h_6 D1 q hsz
  obtain ⟨b_2, rfl, g_3, K_4, A_5, rfl⟩ := q
  show Runs _ _ _ _ _ _ _ _ _ _ _ _ [b_2, a] h_6 1 16 87 #[vr a, vr u8, vr u, vi 0, vi 3, vi 0, .unset, .unset, .unset, .unset, .unset] [(.ref b_2)]
  have ge_b_2 : n0 ≤ b_2 := Nat.le_trans hn0 (Nat.le_trans (Nat.le_refl _) g_3)
  refine Runs.astore (ls' := #[vr a, vr u8, vr u, vi 0, vi 3, vi 0, vr b_2, .unset, .unset, .unset, .unset]) i7_87 rfl rfl ?_
  refine Runs.iload i7_89 rfl ?_
  refine Runs.istore (ls' := #[vr a, vr u8, vr u, vi 0, vi 3, vi 0, vr b_2, vi 0, .unset, .unset, .unset]) i7_91 rfl ?_
  refine Runs.iload i7_93 rfl ?_
  refine Runs.iload i7_95 rfl ?_
  refine Runs.icN i7_97 (tlt (by decide : (0 : Int32) < (3 : Int32))).2.1 ?_
  refine Runs.aload i7_100 rfl rfl ?_
  refine Runs.iload i7_102 rfl ?_
  refine Runs.iinc (z := (1 : Int32)) (ls' := #[vr a, vr u8, vr u, vi 0, vi 3, vi 0, vr b_2, vi 1, .unset, .unset, .unset]) i7_104 rfl (by decide) rfl ?_
  refine Runs.baload (v := (.int (own_8 ((192 : Int32) ||| (Int32.ofNat (N / 64)))))) i7_107 A_5 ⟨by decide, by decide⟩ rfl ?_
  refine Runs.istore (ls' := #[vr a, vr u8, vr u, vi 0, vi 3, vi 0, vr b_2, vi 1, vi (own_8 ((192 : Int32) ||| (Int32.ofNat (N / 64)))), .unset, .unset]) i7_108 rfl ?_
  refine Runs.iload i7_110 rfl ?_
  refine Runs.ifY (t := 129) i7_112 (by decide) (tlt (own_f2 (N / 64) (by omega) (by omega)).1).1 ?_
  refine Runs.iload i7_129 rfl ?_
  refine Runs.sipush (v := (254 : Int32)) i7_131 (by decide) ?_
  refine Runs.iand (z := ((own_8 ((192 : Int32) ||| (Int32.ofNat (N / 64)))) &&& (254 : Int32))) i7_134 rfl ?_
  refine Runs.sipush (v := (194 : Int32)) i7_135 (by decide) ?_
  refine Runs.icY (t := 184) i7_138 (by decide) (feq (fun q => absurd ((own_f2 (N / 64) (by omega) (by omega)).2.2.2.mp q) (by omega))).2 ?_
  refine Runs.iinc (z := (0 : Int32)) (ls' := #[vr a, vr u8, vr u, vi 0, vi 3, vi 0, vr b_2, vi 0, vi (own_8 ((192 : Int32) ||| (Int32.ofNat (N / 64)))), .unset, .unset]) i7_184 rfl (by decide) rfl ?_
  refine Runs.goto (t := 190) i7_187 (by decide) ?_
  refine Runs.weak (D1 := [b_2, a]) (by simp) ?_
  have O_7 := (O0.keep K_4 nin0)
  exact own_c190 l Z a0 hw n0 a u u8 b_2 ku 3 0 ([] : List Int32) ([(Int32.ofNat N), (65533 : Int32)] : List Int32) [(.int (own_8 ((192 : Int32) ||| (Int32.ofNat (N / 64))))), (.int (own_8 ((128 : Int32) ||| (Int32.ofNat (N % 64))))), (.int (own_8 (Int32.ofNat B)))] (own_8 ((192 : Int32) ||| (Int32.ofNat (N / 64)))) (.unset) (.unset) (by decide) (by decide) (by simp) (by simp) own_lat0 (fun i hi => absurd hi (Nat.not_lt_zero _)) (own_nlat (mi 1 rfl) (by decide)) (own_aS (own_chN (by omega)) (own_aS ⟨by decide, by decide⟩ own_a0)) ga S_A S_H S_L fm hfm S_F (fun b kb h1 hne gb A1 B1 => own_dh2g l Z a0 hw n0 b_2 b ku kb [(.int (own_8 ((192 : Int32) ||| (Int32.ofNat (N / 64))))), (.int (own_8 ((128 : Int32) ||| (Int32.ofNat (N % 64))))), (.int (own_8 (Int32.ofNat B)))] hne h1 A1 gb S_A S_H S_L N (by omega) rfl rfl (own_8 (Int32.ofNat B)) (own_8g hB) rfl B1) _ _ ((Keep.refl _ _).trans K_4 all0) (Nat.le_trans hn0 K_4.1) O_7 A_5
theorem own_ct3n (l : Launch) (Z : State) (a0 : Array Value) (hw : Wds Z a0) (n0 : Nat) (N : Nat) (hN : 2048 ≤ N ∧ N < 65536) (hS : N < 55296 ∨ 57344 ≤ N) (a u u8 : Addr) (ku : ClassId) (hua : u ≠ a) (cpt : Int32) (h0 : Heap) (ga : n0 ≤ a) (O0 : Obj Z h0 a "java/lang/String" [("java/lang/String", "value", "[B", .null), ("java/lang/String", "coder", "B", (.int 0))]) (U0 : Arv Z h0 u ku .byte (3 : Int32) [(.int (own_8 ((224 : Int32) ||| (Int32.ofNat (N / 4096))))), (.int (own_8 ((128 : Int32) ||| (Int32.ofNat (N / 64 % 64))))), (.int (own_8 ((128 : Int32) ||| (Int32.ofNat (N % 64)))))] (.int 0)) (E0 : Exa Z h0 u "[B") (hn0 : n0 ≤ h0.size) (S_C : SC Z cpt) (hcpt : ¬ cpt = 0) (S_A : SA Z) (S_H : SH Z) (S_L : SL Z) (fm : Value) (hfm : fm.isRef = true) (S_F : SF Z fm) (S_I : Sta Z Z.heap "sun/nio/cs/UTF_8" "INSTANCE" "Lsun/nio/cs/UTF_8;" (.ref u8))  : ConH 1 l Z [("java/lang/String", 7)] n0 (⟨"java/lang/String", "<init>", "(Ljava/nio/charset/Charset;[BII)V"⟩ : MethodName) c7_ 11 none [((800 : Nat), (813 : Nat), (816 : Nat), (202 : Nat))] ({ frames := 5, cells := 4, slots := 48, locals := 83 } : Room) #[(.ref a), (.ref u8), (.ref u), (.int 0), (.int 3)] [a] h0 (fun v h D' => v = none ∧ ∃ t k, Keep h0 h [a] ∧ Sx Z h a t k ([(Int32.ofNat N)] : List Int32) ∧ D' = []) := by
  refine ConH.of_runs (ls := #[vr a, vr u8, vr u, vi 0, vi 3, .unset, .unset, .unset, .unset, .unset, .unset]) (by decide +kernel) (fun m => by simp [entryFrame, mkF, argsToLocals, Value.category]) ?_
  refine Runs.aloadN i7_0 rfl rfl ?_
  refine Runs.initO (W := 0) i7_1 (w48 hw) (w17 hw) (w18 hw) rfl (by decide) rfl (by decide) ?_
  refine Runs.iload i7_4 rfl ?_
  refine Runs.ifY (t := 30) i7_6 (by decide) (feq (by decide : ¬ ((3 : Int32) = (0 : Int32)))).2 ?_
  refine Runs.aloadN i7_30 rfl rfl ?_
  refine Runs.getS i7_31 (w49 hw) Via.refl S_I ?_
  refine Runs.acN i7_34 rfl rfl (Jvm.Free.XT.aa_ne_f (congrArg Value.ref rfl)) ?_
  refine Runs.getS i7_37 (w51 hw) Via.refl S_C ?_
  refine Runs.ifN i7_40 (feq hcpt).1 ?_
  refine Runs.aloadN i7_43 rfl rfl ?_
  refine Runs.iloadN i7_44 rfl ?_
  refine Runs.iload i7_45 rfl ?_
  have U_1 : Arv Z h0 u ku .byte (Int32.ofNat ([((224 : Int32) ||| (Int32.ofNat (N / 4096))), ((128 : Int32) ||| (Int32.ofNat (N / 64 % 64))), ((128 : Int32) ||| (Int32.ofNat (N % 64)))] : List Int32).length) (([((224 : Int32) ||| (Int32.ofNat (N / 4096))), ((128 : Int32) ||| (Int32.ofNat (N / 64 % 64))), ((128 : Int32) ||| (Int32.ofNat (N % 64)))] : List Int32).map own_b) (.int 0) := U0
  refine Runs.callSW (argsL := [(.ref u), (.int 0), (.int 3)]) (rest := []) (W := 0) i7_47 (w52 hw) (w53 hw) (w54 hw) (w55 hw) (by decide) pd_18 rfl rfl rfl rfl (by decide) (by decide) (by decide) (by decide) all0 (by decide) (own_ctp l Z a0 hw n0 u ku ([((224 : Int32) ||| (Int32.ofNat (N / 4096))), ((128 : Int32) ||| (Int32.ofNat (N / 64 % 64))), ((128 : Int32) ||| (Int32.ofNat (N % 64)))] : List Int32) (by simp) _ U_1) ?_
  intro v h1 D1 q hsz
  obtain ⟨j, rfl, hj1, hj2, hj3, rfl, rfl⟩ := q
  have hj : j = 0 := by
    have hj0 : j ≤ 3 := hj1
    rcases Nat.lt_trichotomy j 0 with q | q | q
    · exact absurd q (Nat.not_lt_zero _)
    · exact q
    · exact absurd (own_f3 (N / 4096) (by omega)).1 (hj2 0 q)
  subst hj
  show Runs _ _ _ _ _ _ _ _ _ _ _ _ [a] h0 0 0 50 #[vr a, vr u8, vr u, vi 0, vi 3, .unset, .unset, .unset, .unset, .unset, .unset] [(.int 0)]
  refine Runs.istore (ls' := #[vr a, vr u8, vr u, vi 0, vi 3, vi 0, .unset, .unset, .unset, .unset, .unset]) i7_50 rfl ?_
  refine Runs.iload i7_52 rfl ?_
  refine Runs.iload i7_54 rfl ?_
  refine Runs.icY (t := 78) i7_56 (by decide) (feq (by decide : ¬ ((0 : Int32) = (3 : Int32)))).2 ?_
  refine Runs.aloadN i7_78 rfl rfl ?_
  refine Runs.iloadN i7_79 rfl ?_
  refine Runs.iloadN i7_80 rfl ?_
  refine Runs.iload i7_81 rfl ?_
  refine Runs.iadd (z := (3 : Int32)) i7_83 (by decide) ?_
  refine Runs.callSW (argsL := [(.ref u), (.int 0), (.int 3)]) (rest := []) (W := 0) i7_84 (w56 hw) (w57 hw) (w58 hw) (w59 hw) (by decide) pd_19 rfl rfl rfl rfl (by decide) (by decide) (by decide) (by decide) all0 (by decide) (own_cor l Z a0 hw n0 u ku 3 16 [(.int (own_8 ((224 : Int32) ||| (Int32.ofNat (N / 4096))))), (.int (own_8 ((128 : Int32) ||| (Int32.ofNat (N / 64 % 64))))), (.int (own_8 ((128 : Int32) ||| (Int32.ofNat (N % 64)))))] (by decide) _ U0 E0) ?_
  intro v h_6 D1 q hsz
  obtain ⟨b_2, rfl, g_3, K_4, A_5, rfl⟩ := q
  show Runs _ _ _ _ _ _ _ _ _ _ _ _ [b_2, a] h_6 1 16 87 #[vr a, vr u8, vr u, vi 0, vi 3, vi 0, .unset, .unset, .unset, .unset, .unset] [(.ref b_2)]
  have ge_b_2 : n0 ≤ b_2 := Nat.le_trans hn0 (Nat.le_trans (Nat.le_refl _) g_3)
  refine Runs.astore (ls' := #[vr a, vr u8, vr u, vi 0, vi 3, vi 0, vr b_2, .unset, .unset, .unset, .unset]) i7_87 rfl rfl ?_
  refine Runs.iload i7_89 rfl ?_
  refine Runs.istore (ls' := #[vr a, vr u8, vr u, vi 0, vi 3, vi 0, vr b_2, vi 0, .unset, .unset, .unset]) i7_91 rfl ?_
  refine Runs.iload i7_93 rfl ?_
  refine Runs.iload i7_95 rfl ?_
  refine Runs.icN i7_97 (tlt (by decide : (0 : Int32) < (3 : Int32))).2.1 ?_
  refine Runs.aload i7_100 rfl rfl ?_
  refine Runs.iload i7_102 rfl ?_
  refine Runs.iinc (z := (1 : Int32)) (ls' := #[vr a, vr u8, vr u, vi 0, vi 3, vi 0, vr b_2, vi 1, .unset, .unset, .unset]) i7_104 rfl (by decide) rfl ?_
  refine Runs.baload (v := (.int (own_8 ((224 : Int32) ||| (Int32.ofNat (N / 4096)))))) i7_107 A_5 ⟨by decide, by decide⟩ rfl ?_
  refine Runs.istore (ls' := #[vr a, vr u8, vr u, vi 0, vi 3, vi 0, vr b_2, vi 1, vi (own_8 ((224 : Int32) ||| (Int32.ofNat (N / 4096)))), .unset, .unset]) i7_108 rfl ?_
  refine Runs.iload i7_110 rfl ?_
  refine Runs.ifY (t := 129) i7_112 (by decide) (tlt (own_f3 (N / 4096) (by omega)).1).1 ?_
  refine Runs.iload i7_129 rfl ?_
  refine Runs.sipush (v := (254 : Int32)) i7_131 (by decide) ?_
  refine Runs.iand (z := ((own_8 ((224 : Int32) ||| (Int32.ofNat (N / 4096)))) &&& (254 : Int32))) i7_134 rfl ?_
  refine Runs.sipush (v := (194 : Int32)) i7_135 (by decide) ?_
  refine Runs.icY (t := 184) i7_138 (by decide) (feq (own_f3 (N / 4096) (by omega)).2.2.2.1).2 ?_
  refine Runs.iinc (z := (0 : Int32)) (ls' := #[vr a, vr u8, vr u, vi 0, vi 3, vi 0, vr b_2, vi 0, vi (own_8 ((224 : Int32) ||| (Int32.ofNat (N / 4096)))), .unset, .unset]) i7_184 rfl (by decide) rfl ?_
  refine Runs.goto (t := 190) i7_187 (by decide) ?_
  refine Runs.weak (D1 := [b_2, a]) (by simp) ?_
  have O_7 := (O0.keep K_4 nin0)
  exact own_c190 l Z a0 hw n0 a u u8 b_2 ku 3 0 ([] : List Int32) ([(Int32.ofNat N)] : List Int32) [(.int (own_8 ((224 : Int32) ||| (Int32.ofNat (N / 4096))))), (.int (own_8 ((128 : Int32) ||| (Int32.ofNat (N / 64 % 64))))), (.int (own_8 ((128 : Int32) ||| (Int32.ofNat (N % 64)))))] (own_8 ((224 : Int32) ||| (Int32.ofNat (N / 4096)))) (.unset) (.unset) (by decide) (by decide) (by simp) (by simp) own_lat0 (fun i hi => absurd hi (Nat.not_lt_zero _)) (own_nlat (mi 0 rfl) (own_lt (a := 255) (by omega) (by omega))) (own_aS (own_chN (by omega)) own_a0) ga S_A S_H S_L fm hfm S_F (fun b kb h1 hne gb A1 B1 => own_dh3n l Z a0 hw n0 b_2 b ku kb [(.int (own_8 ((224 : Int32) ||| (Int32.ofNat (N / 4096))))), (.int (own_8 ((128 : Int32) ||| (Int32.ofNat (N / 64 % 64))))), (.int (own_8 ((128 : Int32) ||| (Int32.ofNat (N % 64)))))] hne h1 A1 gb S_A S_H S_L N (by omega) hS rfl rfl rfl B1) _ _ ((Keep.refl _ _).trans K_4 all0) (Nat.le_trans hn0 K_4.1) O_7 A_5
theorem own_ct3p (l : Launch) (Z : State) (a0 : Array Value) (hw : Wds Z a0) (n0 : Nat) (N : Nat) (hN : 2048 ≤ N ∧ N < 65536) (hS : N < 55296 ∨ 57344 ≤ N) (B : Nat) (hB : B < 128) (a u u8 : Addr) (ku : ClassId) (hua : u ≠ a) (cpt : Int32) (h0 : Heap) (ga : n0 ≤ a) (O0 : Obj Z h0 a "java/lang/String" [("java/lang/String", "value", "[B", .null), ("java/lang/String", "coder", "B", (.int 0))]) (U0 : Arv Z h0 u ku .byte (4 : Int32) [(.int (own_8 ((224 : Int32) ||| (Int32.ofNat (N / 4096))))), (.int (own_8 ((128 : Int32) ||| (Int32.ofNat (N / 64 % 64))))), (.int (own_8 ((128 : Int32) ||| (Int32.ofNat (N % 64))))), (.int (own_8 (Int32.ofNat B)))] (.int 0)) (E0 : Exa Z h0 u "[B") (hn0 : n0 ≤ h0.size) (S_C : SC Z cpt) (hcpt : ¬ cpt = 0) (S_A : SA Z) (S_H : SH Z) (S_L : SL Z) (fm : Value) (hfm : fm.isRef = true) (S_F : SF Z fm) (S_I : Sta Z Z.heap "sun/nio/cs/UTF_8" "INSTANCE" "Lsun/nio/cs/UTF_8;" (.ref u8))  : ConH 1 l Z [("java/lang/String", 7)] n0 (⟨"java/lang/String", "<init>", "(Ljava/nio/charset/Charset;[BII)V"⟩ : MethodName) c7_ 11 none [((800 : Nat), (813 : Nat), (816 : Nat), (202 : Nat))] ({ frames := 5, cells := 4, slots := 48, locals := 83 } : Room) #[(.ref a), (.ref u8), (.ref u), (.int 0), (.int 4)] [a] h0 (fun v h D' => v = none ∧ ∃ t k, Keep h0 h [a] ∧ Sx Z h a t k ([(Int32.ofNat N), (Int32.ofNat B)] : List Int32) ∧ D' = []) := by
  refine ConH.of_runs (ls := #[vr a, vr u8, vr u, vi 0, vi 4, .unset, .unset, .unset, .unset, .unset, .unset]) (by decide +kernel) (fun m => by simp [entryFrame, mkF, argsToLocals, Value.category]) ?_
  refine Runs.aloadN i7_0 rfl rfl ?_
  refine Runs.initO (W := 0) i7_1 (w48 hw) (w17 hw) (w18 hw) rfl (by decide) rfl (by decide) ?_
  refine Runs.iload i7_4 rfl ?_
  refine Runs.ifY (t := 30) i7_6 (by decide) (feq (by decide : ¬ ((4 : Int32) = (0 : Int32)))).2 ?_
  refine Runs.aloadN i7_30 rfl rfl ?_
  refine Runs.getS i7_31 (w49 hw) Via.refl S_I ?_
  refine Runs.acN i7_34 rfl rfl (Jvm.Free.XT.aa_ne_f (congrArg Value.ref rfl)) ?_
  refine Runs.getS i7_37 (w51 hw) Via.refl S_C ?_
  refine Runs.ifN i7_40 (feq hcpt).1 ?_
  refine Runs.aloadN i7_43 rfl rfl ?_
  refine Runs.iloadN i7_44 rfl ?_
  refine Runs.iload i7_45 rfl ?_
  have U_1 : Arv Z h0 u ku .byte (Int32.ofNat ([((224 : Int32) ||| (Int32.ofNat (N / 4096))), ((128 : Int32) ||| (Int32.ofNat (N / 64 % 64))), ((128 : Int32) ||| (Int32.ofNat (N % 64))), (Int32.ofNat B)] : List Int32).length) (([((224 : Int32) ||| (Int32.ofNat (N / 4096))), ((128 : Int32) ||| (Int32.ofNat (N / 64 % 64))), ((128 : Int32) ||| (Int32.ofNat (N % 64))), (Int32.ofNat B)] : List Int32).map own_b) (.int 0) := U0
  refine Runs.callSW (argsL := [(.ref u), (.int 0), (.int 4)]) (rest := []) (W := 0) i7_47 (w52 hw) (w53 hw) (w54 hw) (w55 hw) (by decide) pd_18 rfl rfl rfl rfl (by decide) (by decide) (by decide) (by decide) all0 (by decide) (own_ctp l Z a0 hw n0 u ku ([((224 : Int32) ||| (Int32.ofNat (N / 4096))), ((128 : Int32) ||| (Int32.ofNat (N / 64 % 64))), ((128 : Int32) ||| (Int32.ofNat (N % 64))), (Int32.ofNat B)] : List Int32) (by simp) _ U_1) ?_
  intro v h1 D1 q hsz
  obtain ⟨j, rfl, hj1, hj2, hj3, rfl, rfl⟩ := q
  have hj : j = 0 := by
    have hj0 : j ≤ 4 := hj1
    rcases Nat.lt_trichotomy j 0 with q | q | q
    · exact absurd q (Nat.not_lt_zero _)
    · exact q
    · exact absurd (own_f3 (N / 4096) (by omega)).1 (hj2 0 q)
  subst hj
  show Runs _ _ _ _ _ _ _ _ _ _ _ _ [a] h0 0 0 50 #[vr a, vr u8, vr u, vi 0, vi 4, .unset, .unset, .unset, .unset, .unset, .unset] [(.int 0)]
  refine Runs.istore (ls' := #[vr a, vr u8, vr u, vi 0, vi 4, vi 0, .unset, .unset, .unset, .unset, .unset]) i7_50 rfl ?_
  refine Runs.iload i7_52 rfl ?_
  refine Runs.iload i7_54 rfl ?_
  refine Runs.icY (t := 78) i7_56 (by decide) (feq (by decide : ¬ ((0 : Int32) = (4 : Int32)))).2 ?_
  refine Runs.aloadN i7_78 rfl rfl ?_
  refine Runs.iloadN i7_79 rfl ?_
  refine Runs.iloadN i7_80 rfl ?_
  refine Runs.iload i7_81 rfl ?_
  refine Runs.iadd (z := (4 : Int32)) i7_83 (by decide) ?_
  refine Runs.callSW (argsL := [(.ref u), (.int 0), (.int 4)]) (rest := []) (W := 0) i7_84 (w56 hw) (w57 hw) (w58 hw) (w59 hw) (by decide) pd_19 rfl rfl rfl rfl (by decide) (by decide) (by decide) (by decide) all0 (by decide) (own_cor l Z a0 hw n0 u ku 4 16 [(.int (own_8 ((224 : Int32) ||| (Int32.ofNat (N / 4096))))), (.int (own_8 ((128 : Int32) ||| (Int32.ofNat (N / 64 % 64))))), (.int (own_8 ((128 : Int32) ||| (Int32.ofNat (N % 64))))), (.int (own_8 (Int32.ofNat B)))] (by decide) _ U0 E0) ?_
  intro v h_6 D1 q hsz
  obtain ⟨b_2, rfl, g_3, K_4, A_5, rfl⟩ := q
  show Runs _ _ _ _ _ _ _ _ _ _ _ _ [b_2, a] h_6 1 16 87 #[vr a, vr u8, vr u, vi 0, vi 4, vi 0, .unset, .unset, .unset, .unset, .unset] [(.ref b_2)]
  have ge_b_2 : n0 ≤ b_2 := Nat.le_trans hn0 (Nat.le_trans (Nat.le_refl _) g_3)
  refine Runs.astore (ls' := #[vr a, vr u8, vr u, vi 0, vi 4, vi 0, vr b_2, .unset, .unset, .unset, .unset]) i7_87 rfl rfl ?_
  refine Runs.iload i7_89 rfl ?_
  refine Runs.istore (ls' := #[vr a, vr u8, vr u, vi 0, vi 4, vi 0, vr b_2, vi 0, .unset, .unset, .unset]) i7_91 rfl ?_
  refine Runs.iload i7_93 rfl ?_
  refine Runs.iload i7_95 rfl ?_
  refine Runs.icN i7_97 (tlt (by decide : (0 : Int32) < (4 : Int32))).2.1 ?_
  refine Runs.aload i7_100 rfl rfl ?_
  refine Runs.iload i7_102 rfl ?_
  refine Runs.iinc (z := (1 : Int32)) (ls' := #[vr a, vr u8, vr u, vi 0, vi 4, vi 0, vr b_2, vi 1, .unset, .unset, .unset]) i7_104 rfl (by decide) rfl ?_
  refine Runs.baload (v := (.int (own_8 ((224 : Int32) ||| (Int32.ofNat (N / 4096)))))) i7_107 A_5 ⟨by decide, by decide⟩ rfl ?_
  refine Runs.istore (ls' := #[vr a, vr u8, vr u, vi 0, vi 4, vi 0, vr b_2, vi 1, vi (own_8 ((224 : Int32) ||| (Int32.ofNat (N / 4096)))), .unset, .unset]) i7_108 rfl ?_
  refine Runs.iload i7_110 rfl ?_
  refine Runs.ifY (t := 129) i7_112 (by decide) (tlt (own_f3 (N / 4096) (by omega)).1).1 ?_
  refine Runs.iload i7_129 rfl ?_
  refine Runs.sipush (v := (254 : Int32)) i7_131 (by decide) ?_
  refine Runs.iand (z := ((own_8 ((224 : Int32) ||| (Int32.ofNat (N / 4096)))) &&& (254 : Int32))) i7_134 rfl ?_
  refine Runs.sipush (v := (194 : Int32)) i7_135 (by decide) ?_
  refine Runs.icY (t := 184) i7_138 (by decide) (feq (own_f3 (N / 4096) (by omega)).2.2.2.1).2 ?_
  refine Runs.iinc (z := (0 : Int32)) (ls' := #[vr a, vr u8, vr u, vi 0, vi 4, vi 0, vr b_2, vi 0, vi (own_8 ((224 : Int32) ||| (Int32.ofNat (N / 4096)))), .unset, .unset]) i7_184 rfl (by decide) rfl ?_
  refine Runs.goto (t := 190) i7_187 (by decide) ?_
  refine Runs.weak (D1 := [b_2, a]) (by simp) ?_
  have O_7 := (O0.keep K_4 nin0)
  exact own_c190 l Z a0 hw n0 a u u8 b_2 ku 4 0 ([] : List Int32) ([(Int32.ofNat N), (Int32.ofNat B)] : List Int32) [(.int (own_8 ((224 : Int32) ||| (Int32.ofNat (N / 4096))))), (.int (own_8 ((128 : Int32) ||| (Int32.ofNat (N / 64 % 64))))), (.int (own_8 ((128 : Int32) ||| (Int32.ofNat (N % 64))))), (.int (own_8 (Int32.ofNat B)))] (own_8 ((224 : Int32) ||| (Int32.ofNat (N / 4096)))) (.unset) (.unset) (by decide) (by decide) (by simp) (by simp) own_lat0 (fun i hi => absurd hi (Nat.not_lt_zero _)) (own_nlat (mi 0 rfl) (own_lt (a := 255) (by omega) (by omega))) (own_aS (own_chN (by omega)) (own_aS (own_chN (by omega)) own_a0)) ga S_A S_H S_L fm hfm S_F (fun b kb h1 hne gb A1 B1 => own_dh3p l Z a0 hw n0 b_2 b ku kb [(.int (own_8 ((224 : Int32) ||| (Int32.ofNat (N / 4096))))), (.int (own_8 ((128 : Int32) ||| (Int32.ofNat (N / 64 % 64))))), (.int (own_8 ((128 : Int32) ||| (Int32.ofNat (N % 64))))), (.int (own_8 (Int32.ofNat B)))] hne h1 A1 gb S_A S_H S_L N (by omega) hS rfl rfl rfl B hB (congrArg Value.int (own_8id hB)) B1) _ _ ((Keep.refl _ _).trans K_4 all0) (Nat.le_trans hn0 K_4.1) O_7 A_5
theorem own_ct3g (l : Launch) (Z : State) (a0 : Array Value) (hw : Wds Z a0) (n0 : Nat) (N : Nat) (hN : 2048 ≤ N ∧ N < 65536) (hS : N < 55296 ∨ 57344 ≤ N) (B : Nat) (hB : 128 ≤ B ∧ B < 256) (a u u8 : Addr) (ku : ClassId) (hua : u ≠ a) (cpt : Int32) (h0 : Heap) (ga : n0 ≤ a) (O0 : Obj Z h0 a "java/lang/String" [("java/lang/String", "value", "[B", .null), ("java/lang/String", "coder", "B", (.int 0))]) (U0 : Arv Z h0 u ku .byte (4 : Int32) [(.int (own_8 ((224 : Int32) ||| (Int32.ofNat (N / 4096))))), (.int (own_8 ((128 : Int32) ||| (Int32.ofNat (N / 64 % 64))))), (.int (own_8 ((128 : Int32) ||| (Int32.ofNat (N % 64))))), (.int (own_8 (Int32.ofNat B)))] (.int 0)) (E0 : Exa Z h0 u "[B") (hn0 : n0 ≤ h0.size) (S_C : SC Z cpt) (hcpt : ¬ cpt = 0) (S_A : SA Z) (S_H : SH Z) (S_L : SL Z) (fm : Value) (hfm : fm.isRef = true) (S_F : SF Z fm) (S_I : Sta Z Z.heap "sun/nio/cs/UTF_8" "INSTANCE" "Lsun/nio/cs/UTF_8;" (.ref u8))  : ConH 1 l Z [("java/lang/String", 7)] n0 (⟨"java/lang/String", "<init>", "(Ljava/nio/charset/Charset;[BII)V"⟩ : MethodName) c7_ 11 none [((800 : Nat), (813 : Nat), (816 : Nat), (202 : Nat))] ({ frames := 5, cells := 4, slots := 48, locals := 83 } : Room) #[(.ref a), (.ref u8), (.ref u), (.int 0), (.int 4)] [a] h0 (fun v h D' => v = none ∧ ∃ t k, Keep h0 h [a] ∧ Sx Z h a t k ([(Int32.ofNat N), (65533 : Int32)] : List Int32) ∧ D' = []) := by
  refine ConH.of_runs (ls := #[vr a, vr u8, vr u, vi 0, vi 4, .unset, .unset, .unset, .unset, .unset, .unset]) (by decide +kernel) (fun m => by simp [entryFrame, mkF, argsToLocals, Value.category]) ?_
  refine Runs.aloadN i7_0 rfl rfl ?_
  refine Runs.initO (W := 0) i7_1 (w48 hw) (w17 hw) (w18 hw) rfl (by decide) rfl (by decide) ?_
  refine Runs.iload i7_4 rfl ?_
  refine Runs.ifY (t := 30) i7_6 (by decide) (feq (by decide : ¬ ((4 : Int32) = (0 : Int32)))).2 ?_
  refine Runs.aloadN i7_30 rfl rfl ?_
  refine Runs.getS i7_31 (w49 hw) Via.refl S_I ?_
  refine Runs.acN i7_34 rfl rfl (Jvm.Free.XT.aa_ne_f (congrArg Value.ref rfl)) ?_
  refine Runs.getS i7_37 (w51 hw) Via.refl S_C ?_
  refine Runs.ifN i7_40 (feq hcpt).1 ?_
  refine Runs.aloadN i7_43 rfl rfl ?_
  refine Runs.iloadN i7_44 rfl ?_
  refine Runs.iload i7_45 rfl ?_
  have U_1 : Arv Z h0 u ku .byte (Int32.ofNat ([((224 : Int32) ||| (Int32.ofNat (N / 4096))), ((128 : Int32) ||| (Int32.ofNat (N / 64 % 64))), ((128 : Int32) ||| (Int32.ofNat (N % 64))), (Int32.ofNat B)] : List Int32).length) (([((224 : Int32) ||| (Int32.ofNat (N / 4096))), ((128 : Int32) ||| (Int32.ofNat (N / 64 % 64))), ((128 : Int32) ||| (Int32.ofNat (N % 64))), (Int32.ofNat B)] : List Int32).map own_b) (.int 0) := U0
  refine Runs.callSW (argsL := [(.ref u), (.int 0), (.int 4)]) (rest := []) (W := 0) i7_47 (w52 hw) (w53 hw) (w54 hw) (w55 hw) (by decide) pd_18 rfl rfl rfl rfl (by decide) (by decide) (by decide) (by decide) all0 (by decide) (own_ctp l Z a0 hw n0 u ku ([((224 : Int32) ||| (Int32.ofNat (N / 4096))), ((128 : Int32) ||| (Int32.ofNat (N / 64 % 64))), ((128 : Int32) ||| (Int32.ofNat (N % 64))), (Int32.ofNat B)] : List Int32) (by simp) _ U_1) ?_
  intro v h1 D1 q hsz
  obtain ⟨j, rfl, hj1, hj2, hj3, rfl, rfl⟩ := q
  have hj : j = 0 := by
    have hj0 : j ≤ 4 := hj1
    rcases Nat.lt_trichotomy j 0 with q | q | q
    · exact absurd q (Nat.not_lt_zero _)
    · exact q
    · exact absurd (own_f3 (N / 4096) (by omega)).1 (hj2 0 q)
  subst hj
  show Runs _ _ _ _ _ _ _ _ _ _ _ _ [a] h0 0 0 50 #[vr a, vr u8, vr u, vi 0, vi 4, .unset, .unset, .unset, .unset, .unset, .unset] [(.int 0)]
  refine Runs.istore (ls' := #[vr a, vr u8, vr u, vi 0, vi 4, vi 0, .unset, .unset, .unset, .unset, .unset]) i7_50 rfl ?_
  refine Runs.iload i7_52 rfl ?_
  refine Runs.iload i7_54 rfl ?_
  refine Runs.icY (t := 78) i7_56 (by decide) (feq (by decide : ¬ ((0 : Int32) = (4 : Int32)))).2 ?_
  refine Runs.aloadN i7_78 rfl rfl ?_
  refine Runs.iloadN i7_79 rfl ?_
  refine Runs.iloadN i7_80 rfl ?_
  refine Runs.iload i7_81 rfl ?_
  refine Runs.iadd (z := (4 : Int32)) i7_83 (by decide) ?_
  refine Runs.callSW (argsL := [(.ref u), (.int 0), (.int 4)]) (rest := []) (W := 0) i7_84 (w56 hw) (w57 hw) (w58 hw) (w59 hw) (by decide) pd_19 rfl rfl rfl rfl (by decide) (by decide) (by decide) (by decide) all0 (by decide) (own_cor l Z a0 hw n0 u ku 4 16 [(.int (own_8 ((224 : Int32) ||| (Int32.ofNat (N / 4096))))), (.int (own_8 ((128 : Int32) ||| (Int32.ofNat (N / 64 % 64))))), (.int (own_8 ((128 : Int32) ||| (Int32.ofNat (N % 64))))), (.int (own_8 (Int32.ofNat B)))] (by decide) _ U0 E0) ?_
  intro v h_6 D1 q hsz
  obtain ⟨b_2, rfl, g_3, K_4, A_5, rfl⟩ := q
  show Runs _ _ _ _ _ _ _ _ _ _ _ _ [b_2, a] h_6 1 16 87 #[vr a, vr u8, vr u, vi 0, vi 4, vi 0, .unset, .unset, .unset, .unset, .unset] [(.ref b_2)]
  have ge_b_2 : n0 ≤ b_2 := Nat.le_trans hn0 (Nat.le_trans (Nat.le_refl _) g_3)
  refine Runs.astore (ls' := #[vr a, vr u8, vr u, vi 0, vi 4, vi 0, vr b_2, .unset, .unset, .unset, .unset]) i7_87 rfl rfl ?_
  refine Runs.iload i7_89 rfl ?_
  refine Runs.istore (ls' := #[vr a, vr u8, vr u, vi 0, vi 4, vi 0, vr b_2, vi 0, .unset, .unset, .unset]) i7_91 rfl ?_
  refine Runs.iload i7_93 rfl ?_
  refine Runs.iload i7_95 rfl ?_
  refine Runs.icN i7_97 (tlt (by decide : (0 : Int32) < (4 : Int32))).2.1 ?_
  refine Runs.aload i7_100 rfl rfl ?_
  refine Runs.iload i7_102 rfl ?_
  refine Runs.iinc (z := (1 : Int32)) (ls' := #[vr a, vr u8, vr u, vi 0, vi 4, vi 0, vr b_2, vi 1, .unset, .unset, .unset]) i7_104 rfl (by decide) rfl ?_
  refine Runs.baload (v := (.int (own_8 ((224 : Int32) ||| (Int32.ofNat (N / 4096)))))) i7_107 A_5 ⟨by decide, by decide⟩ rfl ?_
  refine Runs.istore (ls' := #[vr a, vr u8, vr u, vi 0, vi 4, vi 0, vr b_2, vi 1, vi (own_8 ((224 : Int32) ||| (Int32.ofNat (N / 4096)))), .unset, .unset]) i7_108 rfl ?_
  refine Runs.iload i7_110 rfl ?_
  refine Runs.ifY (t := 129) i7_112 (by decide) (tlt (own_f3 (N / 4096) (by omega)).1).1 ?_
  refine Runs.iload i7_129 rfl ?_
  refine Runs.sipush (v := (254 : Int32)) i7_131 (by decide) ?_
  refine Runs.iand (z := ((own_8 ((224 : Int32) ||| (Int32.ofNat (N / 4096)))) &&& (254 : Int32))) i7_134 rfl ?_
  refine Runs.sipush (v := (194 : Int32)) i7_135 (by decide) ?_
  refine Runs.icY (t := 184) i7_138 (by decide) (feq (own_f3 (N / 4096) (by omega)).2.2.2.1).2 ?_
  refine Runs.iinc (z := (0 : Int32)) (ls' := #[vr a, vr u8, vr u, vi 0, vi 4, vi 0, vr b_2, vi 0, vi (own_8 ((224 : Int32) ||| (Int32.ofNat (N / 4096)))), .unset, .unset]) i7_184 rfl (by decide) rfl ?_
  refine Runs.goto (t := 190) i7_187 (by decide) ?_
  refine Runs.weak (D1 := [b_2, a]) (by simp) ?_
  have O_7 := (O0.keep K_4 nin0)
  exact own_c190 l Z a0 hw n0 a u u8 b_2 ku 4 0 ([] : List Int32) ([(Int32.ofNat N), (65533 : Int32)] : List Int32) [(.int (own_8 ((224 : Int32) ||| (Int32.ofNat (N / 4096))))), (.int (own_8 ((128 : Int32) ||| (Int32.ofNat (N / 64 % 64))))), (.int (own_8 ((128 : Int32) ||| (Int32.ofNat (N % 64))))), (.int (own_8 (Int32.ofNat B)))] (own_8 ((224 : Int32) ||| (Int32.ofNat (N / 4096)))) (.unset) (.unset) (by decide) (by decide) (by simp) (by simp) own_lat0 (fun i hi => absurd hi (Nat.not_lt_zero _)) (own_nlat (mi 1 rfl) (by decide)) (own_aS (own_chN (by omega)) (own_aS ⟨by decide, by decide⟩ own_a0)) ga S_A S_H S_L fm hfm S_F (fun b kb h1 hne gb A1 B1 => own_dh3g l Z a0 hw n0 b_2 b ku kb [(.int (own_8 ((224 : Int32) ||| (Int32.ofNat (N / 4096))))), (.int (own_8 ((128 : Int32) ||| (Int32.ofNat (N / 64 % 64))))), (.int (own_8 ((128 : Int32) ||| (Int32.ofNat (N % 64))))), (.int (own_8 (Int32.ofNat B)))] hne h1 A1 gb S_A S_H S_L N (by omega) hS rfl rfl rfl (own_8 (Int32.ofNat B)) (own_8g hB) rfl B1) _ _ ((Keep.refl _ _).trans K_4 all0) (Nat.le_trans hn0 K_4.1) O_7 A_5
theorem own_ct4n (l : Launch) (Z : State) (a0 : Array Value) (hw : Wds Z a0) (n0 : Nat) (N : Nat) (hN : 65536 ≤ N ∧ N < 1114112) (a u u8 : Addr) (ku : ClassId) (hua : u ≠ a) (cpt : Int32) (h0 : Heap) (ga : n0 ≤ a) (O0 : Obj Z h0 a "java/lang/String" [("java/lang/String", "value", "[B", .null), ("java/lang/String", "coder", "B", (.int 0))]) (U0 : Arv Z h0 u ku .byte (4 : Int32) [(.int (own_8 ((240 : Int32) ||| (Int32.ofNat (N / 262144))))), (.int (own_8 ((128 : Int32) ||| (Int32.ofNat (N / 4096 % 64))))), (.int (own_8 ((128 : Int32) ||| (Int32.ofNat (N / 64 % 64))))), (.int (own_8 ((128 : Int32) ||| (Int32.ofNat (N % 64)))))] (.int 0)) (E0 : Exa Z h0 u "[B") (hn0 : n0 ≤ h0.size) (S_C : SC Z cpt) (hcpt : ¬ cpt = 0) (S_A : SA Z) (S_H : SH Z) (S_L : SL Z) (fm : Value) (hfm : fm.isRef = true) (S_F : SF Z fm) (S_I : Sta Z Z.heap "sun/nio/cs/UTF_8" "INSTANCE" "Lsun/nio/cs/UTF_8;" (.ref u8))  : ConH 1 l Z [("java/lang/String", 7)] n0 (⟨"java/lang/String", "<init>", "(Ljava/nio/charset/Charset;[BII)V"⟩ : MethodName) c7_ 11 none [((800 : Nat), (813 : Nat), (816 : Nat), (202 : Nat))] ({ frames := 5, cells := 4, slots := 48, locals := 83 } : Room) #[(.ref a), (.ref u8), (.ref u), (.int 0), (.int 4)] [a] h0 (fun v h D' => v = none ∧ ∃ t k, Keep h0 h [a] ∧ Sx Z h a t k ([(Int32.ofNat (55296 + (N - 65536) / 1024)), (Int32.ofNat (56320 + (N - 65536) % 1024))] : List Int32) ∧ D' = []) := by
  refine ConH.of_runs (ls := #[vr a, vr u8, vr u, vi 0, vi 4, .unset, .unset, .unset, .unset, .unset, .unset]) (by decide +kernel) (fun m => by simp [entryFrame, mkF, argsToLocals, Value.category]) ?_
  refine Runs.aloadN i7_0 rfl rfl ?_
  refine Runs.initO (W := 0) i7_1 (w48 hw) (w17 hw) (w18 hw) rfl (by decide) rfl (by decide) ?_
  refine Runs.iload i7_4 rfl ?_
  refine Runs.ifY (t := 30) i7_6 (by decide) (feq (by decide : ¬ ((4 : Int32) = (0 : Int32)))).2 ?_
  refine Runs.aloadN i7_30 rfl rfl ?_
  refine Runs.getS i7_31 (w49 hw) Via.refl S_I ?_
  refine Runs.acN i7_34 rfl rfl (Jvm.Free.XT.aa_ne_f (congrArg Value.ref rfl)) ?_
  refine Runs.getS i7_37 (w51 hw) Via.refl S_C ?_
  refine Runs.ifN i7_40 (feq hcpt).1 ?_
  refine Runs.aloadN i7_43 rfl rfl ?_
  refine Runs.iloadN i7_44 rfl ?_
  refine Runs.iload i7_45 rfl ?_
  have U_1 : Arv Z h0 u ku .byte (Int32.ofNat ([((240 : Int32) ||| (Int32.ofNat (N / 262144))), ((128 : Int32) ||| (Int32.ofNat (N / 4096 % 64))), ((128 : Int32) ||| (Int32.ofNat (N / 64 % 64))), ((128 : Int32) ||| (Int32.ofNat (N % 64)))] : List Int32).length) (([((240 : Int32) ||| (Int32.ofNat (N / 262144))), ((128 : Int32) ||| (Int32.ofNat (N / 4096 % 64))), ((128 : Int32) ||| (Int32.ofNat (N / 64 % 64))), ((128 : Int32) ||| (Int32.ofNat (N % 64)))] : List Int32).map own_b) (.int 0) := U0
  refine Runs.callSW (argsL := [(.ref u), (.int 0), (.int 4)]) (rest := []) (W := 0) i7_47 (w52 hw) (w53 hw) (w54 hw) (w55 hw) (by decide) pd_18 rfl rfl rfl rfl (by decide) (by decide) (by decide) (by decide) all0 (by decide) (own_ctp l Z a0 hw n0 u ku ([((240 : Int32) ||| (Int32.ofNat (N / 262144))), ((128 : Int32) ||| (Int32.ofNat (N / 4096 % 64))), ((128 : Int32) ||| (Int32.ofNat (N / 64 % 64))), ((128 : Int32) ||| (Int32.ofNat (N % 64)))] : List Int32) (by simp) _ U_1) ?_
  intro v h1 D1 q hsz
  obtain ⟨j, rfl, hj1, hj2, hj3, rfl, rfl⟩ := q
  have hj : j = 0 := by
    have hj0 : j ≤ 4 := hj1
    rcases Nat.lt_trichotomy j 0 with q | q | q
    · exact absurd q (Nat.not_lt_zero _)
    · exact q
    · exact absurd (own_f4 (N / 262144) (by omega)).1 (hj2 0 q)
  subst hj
  show Runs _ _ _ _ _ _ _ _ _ _ _ _ [a] h0 0 0 50 #[vr a, vr u8, vr u, vi 0, vi 4, .unset, .unset, .unset, .unset, .unset, .unset] [(.int 0)]
  refine Runs.istore (ls' := #[vr a, vr u8, vr u, vi 0, vi 4, vi 0, .unset, .unset, .unset, .unset, .unset]) i7_50 rfl ?_
  refine Runs.iload i7_52 rfl ?_
  refine Runs.iload i7_54 rfl ?_
  refine Runs.icY (t := 78) i7_56 (by decide) (feq (by decide : ¬ ((0 : Int32) = (4 : Int32)))).2 ?_
  refine Runs.aloadN i7_78 rfl rfl ?_
  refine Runs.iloadN i7_79 rfl ?_
  refine Runs.iloadN i7_80 rfl ?_
  refine Runs.iload i7_81 rfl ?_
  refine Runs.iadd (z := (4 : Int32)) i7_83 (by decide) ?_
  refine Runs.callSW (argsL := [(.ref u), (.int 0), (.int 4)]) (rest := []) (W := 0) i7_84 (w56 hw) (w57 hw) (w58 hw) (w59 hw) (by decide) pd_19 rfl rfl rfl rfl (by decide) (by decide) (by decide) (by decide) all0 (by decide) (own_cor l Z a0 hw n0 u ku 4 16 [(.int (own_8 ((240 : Int32) ||| (Int32.ofNat (N / 262144))))), (.int (own_8 ((128 : Int32) ||| (Int32.ofNat (N / 4096 % 64))))), (.int (own_8 ((128 : Int32) ||| (Int32.ofNat (N / 64 % 64))))), (.int (own_8 ((128 : Int32) ||| (Int32.ofNat (N % 64)))))] (by decide) _ U0 E0) ?_
  intro v h_6 D1 q hsz
  obtain ⟨b_2, rfl, g_3, K_4, A_5, rfl⟩ := q
  show Runs _ _ _ _ _ _ _ _ _ _ _ _ [b_2, a] h_6 1 16 87 #[vr a, vr u8, vr u, vi 0, vi 4, vi 0, .unset, .unset, .unset, .unset, .unset] [(.ref b_2)]
  have ge_b_2 : n0 ≤ b_2 := Nat.le_trans hn0 (Nat.le_trans (Nat.le_refl _) g_3)
  refine Runs.astore (ls' := #[vr a, vr u8, vr u, vi 0, vi 4, vi 0, vr b_2, .unset, .unset, .unset, .unset]) i7_87 rfl rfl ?_
  refine Runs.iload i7_89 rfl ?_
  refine Runs.istore (ls' := #[vr a, vr u8, vr u, vi 0, vi 4, vi 0, vr b_2, vi 0, .unset, .unset, .unset]) i7_91 rfl ?_
  refine Runs.iload i7_93 rfl ?_
  refine Runs.iload i7_95 rfl ?_
  refine Runs.icN i7_97 (tlt (by decide : (0 : Int32) < (4 : Int32))).2.1 ?_
  refine Runs.aload i7_100 rfl rfl ?_
  refine Runs.iload i7_102 rfl ?_
  refine Runs.iinc (z := (1 : Int32)) (ls' := #[vr a, vr u8, vr u, vi 0, vi 4, vi 0, vr b_2, vi 1, .unset, .unset, .unset]) i7_104 rfl (by decide) rfl ?_
  refine Runs.baload (v := (.int (own_8 ((240 : Int32) ||| (Int32.ofNat (N / 262144)))))) i7_107 A_5 ⟨by decide, by decide⟩ rfl ?_
  refine Runs.istore (ls' := #[vr a, vr u8, vr u, vi 0, vi 4, vi 0, vr b_2, vi 1, vi (own_8 ((240 : Int32) ||| (Int32.ofNat (N / 262144)))), .unset, .unset]) i7_108 rfl ?_
  refine Runs.iload i7_110 rfl ?_
  refine Runs.ifY (t := 129) i7_112 (by decide) (tlt (own_f4 (N / 262144) (by omega)).1).1 ?_
  refine Runs.iload i7_129 rfl ?_
  refine Runs.sipush (v := (254 : Int32)) i7_131 (by decide) ?_
  refine Runs.iand (z := ((own_8 ((240 : Int32) ||| (Int32.ofNat (N / 262144)))) &&& (254 : Int32))) i7_134 rfl ?_
  refine Runs.sipush (v := (194 : Int32)) i7_135 (by decide) ?_
  refine Runs.icY (t := 184) i7_138 (by decide) (feq (own_f4 (N / 262144) (by omega)).2.2.2.2).2 ?_
  refine Runs.iinc (z := (0 : Int32)) (ls' := #[vr a, vr u8, vr u, vi 0, vi 4, vi 0, vr b_2, vi 0, vi (own_8 ((240 : Int32) ||| (Int32.ofNat (N / 262144)))), .unset, .unset]) i7_184 rfl (by decide) rfl ?_
  refine Runs.goto (t := 190) i7_187 (by decide) ?_
  refine Runs.weak (D1 := [b_2, a]) (by simp) ?_
  have O_7 := (O0.keep K_4 nin0)
  exact own_c190 l Z a0 hw n0 a u u8 b_2 ku 4 0 ([] : List Int32) ([(Int32.ofNat (55296 + (N - 65536) / 1024)), (Int32.ofNat (56320 + (N - 65536) % 1024))] : List Int32) [(.int (own_8 ((240 : Int32) ||| (Int32.ofNat (N / 262144))))), (.int (own_8 ((128 : Int32) ||| (Int32.ofNat (N / 4096 % 64))))), (.int (own_8 ((128 : Int32) ||| (Int32.ofNat (N / 64 % 64))))), (.int (own_8 ((128 : Int32) ||| (Int32.ofNat (N % 64)))))] (own_8 ((240 : Int32) ||| (Int32.ofNat (N / 262144)))) (.unset) (.unset) (by decide) (by decide) (by simp) (by simp) own_lat0 (fun i hi => absurd hi (Nat.not_lt_zero _)) (own_nlat (mi 0 rfl) (own_lt (a := 255) (by omega) (by omega))) (own_aS (own_chN (by omega)) (own_aS (own_chN (by omega)) own_a0)) ga S_A S_H S_L fm hfm S_F (fun b kb h1 hne gb A1 B1 => own_dh4n l Z a0 hw n0 b_2 b ku kb [(.int (own_8 ((240 : Int32) ||| (Int32.ofNat (N / 262144))))), (.int (own_8 ((128 : Int32) ||| (Int32.ofNat (N / 4096 % 64))))), (.int (own_8 ((128 : Int32) ||| (Int32.ofNat (N / 64 % 64))))), (.int (own_8 ((128 : Int32) ||| (Int32.ofNat (N % 64)))))] hne h1 A1 gb S_A S_H S_L N (by omega) rfl rfl rfl rfl B1) _ _ ((Keep.refl _ _).trans K_4 all0) (Nat.le_trans hn0 K_4.1) O_7 A_5
theorem own_ct4p (l : Launch) (Z : State) (a0 : Array Value) (hw : Wds Z a0) (n0 : Nat) (N : Nat) (hN : 65536 ≤ N ∧ N < 1114112) (B : Nat) (hB : B < 128) (a u u8 : Addr) (ku : ClassId) (hua : u ≠ a) (cpt : Int32) (h0 : Heap) (ga : n0 ≤ a) (O0 : Obj Z h0 a "java/lang/String" [("java/lang/String", "value", "[B", .null), ("java/lang/String", "coder", "B", (.int 0))]) (U0 : Arv Z h0 u ku .byte (5 : Int32) [(.int (own_8 ((240 : Int32) ||| (Int32.ofNat (N / 262144))))), (.int (own_8 ((128 : Int32) ||| (Int32.ofNat (N / 4096 % 64))))), (.int (own_8 ((128 : Int32) ||| (Int32.ofNat (N / 64 % 64))))), (.int (own_8 ((128 : Int32) ||| (Int32.ofNat (N % 64))))), (.int (own_8 (Int32.ofNat B)))] (.int 0)) (E0 : Exa Z h0 u "[B") (hn0 : n0 ≤ h0.size) (S_C : SC Z cpt) (hcpt : ¬ cpt = 0) (S_A : SA Z) (S_H : SH Z) (S_L : SL Z) (fm : Value) (hfm : fm.isRef = true) (S_F : SF Z fm) (S_I : Sta Z Z.heap "sun/nio/cs/UTF_8" "INSTANCE" "Lsun/nio/cs/UTF_8;" (.ref u8))  : ConH 1 l Z [("java/lang/String", 7)] n0 (⟨"java/lang/String", "<init>", "(Ljava/nio/charset/Charset;[BII)V"⟩ : MethodName) c7_ 11 none [((800 : Nat), (813 : Nat), (816 : Nat), (202 : Nat))] ({ frames := 5, cells := 4, slots := 48, locals := 83 } : Room) #[(.ref a), (.ref u8), (.ref u), (.int 0), (.int 5)] [a] h0 (fun v h D' => v = none ∧ ∃ t k, Keep h0 h [a] ∧ Sx Z h a t k ([(Int32.ofNat (55296 + (N - 65536) / 1024)), (Int32.ofNat (56320 + (N - 65536) % 1024)), (Int32.ofNat B)] : List Int32) ∧ D' = []) := by
  refine ConH.of_runs (ls := #[vr a, vr u8, vr u, vi 0, vi 5, .unset, .unset, .unset, .unset, .unset, .unset]) (by decide +kernel) (fun m => by simp [entryFrame, mkF, argsToLocals, Value.category]) ?_
  refine Runs.aloadN i7_0 rfl rfl ?_
  refine Runs.initO (W := 0) i7_1 (w48 hw) (w17 hw) (w18 hw) rfl (by decide) rfl (by decide) ?_
  refine Runs.iload i7_4 rfl ?_
  refine Runs.ifY (t := 30) i7_6 (by decide) (feq (by decide : ¬ ((5 : Int32) = (0 : Int32)))).2 ?_
  refine Runs.aloadN i7_30 rfl rfl ?_
  refine Runs.getS i7_31 (w49 hw) Via.refl S_I ?_
  refine Runs.acN i7_34 rfl rfl (Jvm.Free.XT.aa_ne_f (congrArg Value.ref rfl)) ?_
  refine Runs.getS i7_37 (w51 hw) Via.refl S_C ?_
  refine Runs.ifN i7_40 (feq hcpt).1 ?_
  refine Runs.aloadN i7_43 rfl rfl ?_
  refine Runs.iloadN i7_44 rfl ?_
  refine Runs.iload i7_45 rfl ?_
  have U_1 : Arv Z h0 u ku .byte (Int32.ofNat ([((240 : Int32) ||| (Int32.ofNat (N / 262144))), ((128 : Int32) ||| (Int32.ofNat (N / 4096 % 64))), ((128 : Int32) ||| (Int32.ofNat (N / 64 % 64))), ((128 : Int32) ||| (Int32.ofNat (N % 64))), (Int32.ofNat B)] : List Int32).length) (([((240 : Int32) ||| (Int32.ofNat (N / 262144))), ((128 : Int32) ||| (Int32.ofNat (N / 4096 % 64))), ((128 : Int32) ||| (Int32.ofNat (N / 64 % 64))), ((128 : Int32) ||| (Int32.ofNat (N % 64))), (Int32.ofNat B)] : List Int32).map own_b) (.int 0) := U0
  refine Runs.callSW (argsL := [(.ref u), (.int 0), (.int 5)]) (rest := []) (W := 0) i7_47 (w52 hw) (w53 hw) (w54 hw) (w55 hw) (by decide) pd_18 rfl rfl rfl rfl (by decide) (by decide) (by decide) (by decide) all0 (by decide) (own_ctp l Z a0 hw n0 u ku ([((240 : Int32) ||| (Int32.ofNat (N / 262144))), ((128 : Int32) ||| (Int32.ofNat (N / 4096 % 64))), ((128 : Int32) ||| (Int32.ofNat (N / 64 % 64))), ((128 : Int32) ||| (Int32.ofNat (N % 64))), (Int32.ofNat B)] : List Int32) (by simp) _ U_1) ?_
  intro v h1 D1 q hsz
  obtain ⟨j, rfl, hj1, hj2, hj3, rfl, rfl⟩ := q
  have hj : j = 0 := by
    have hj0 : j ≤ 5 := hj1
    rcases Nat.lt_trichotomy j 0 with q | q | q
    · exact absurd q (Nat.not_lt_zero _)
    · exact q
    · exact absurd (own_f4 (N / 262144) (by omega)).1 (hj2 0 q)
  subst hj
  show Runs _ _ _ _ _ _ _ _ _ _ _ _ [a] h0 0 0 50 #[vr a, vr u8, vr u, vi 0, vi 5, .unset, .unset, .unset, .unset, .unset, .unset] [(.int 0)]
  refine Runs.istore (ls' := #[vr a, vr u8, vr u, vi 0, vi 5, vi 0, .unset, .unset, .unset, .unset, .unset]) i7_50 rfl ?_
  refine Runs.iload i7_52 rfl ?_
  refine Runs.iload i7_54 rfl ?_
  refine Runs.icY (t := 78) i7_56 (by decide) (feq (by decide : ¬ ((0 : Int32) = (5 : Int32)))).2 ?_
  refine Runs.aloadN i7_78 rfl rfl ?_
  refine Runs.iloadN i7_79 rfl ?_
  refine Runs.iloadN i7_80 rfl ?_
  refine Runs.iload i7_81 rfl ?_
  refine Runs.iadd (z := (5 : Int32)) i7_83 (by decide) ?_
  refine Runs.callSW (argsL := [(.ref u), (.int 0), (.int 5)]) (rest := []) (W := 0) i7_84 (w56 hw) (w57 hw) (w58 hw) (w59 hw) (by decide) pd_19 rfl rfl rfl rfl (by decide) (by decide) (by decide) (by decide) all0 (by decide) (own_cor l Z a0 hw n0 u ku 5 16 [(.int (own_8 ((240 : Int32) ||| (Int32.ofNat (N / 262144))))), (.int (own_8 ((128 : Int32) ||| (Int32.ofNat (N / 4096 % 64))))), (.int (own_8 ((128 : Int32) ||| (Int32.ofNat (N / 64 % 64))))), (.int (own_8 ((128 : Int32) ||| (Int32.ofNat (N % 64))))), (.int (own_8 (Int32.ofNat B)))] (by decide) _ U0 E0) ?_
  intro v h_6 D1 q hsz
  obtain ⟨b_2, rfl, g_3, K_4, A_5, rfl⟩ := q
  show Runs _ _ _ _ _ _ _ _ _ _ _ _ [b_2, a] h_6 1 16 87 #[vr a, vr u8, vr u, vi 0, vi 5, vi 0, .unset, .unset, .unset, .unset, .unset] [(.ref b_2)]
  have ge_b_2 : n0 ≤ b_2 := Nat.le_trans hn0 (Nat.le_trans (Nat.le_refl _) g_3)
  refine Runs.astore (ls' := #[vr a, vr u8, vr u, vi 0, vi 5, vi 0, vr b_2, .unset, .unset, .unset, .unset]) i7_87 rfl rfl ?_
  refine Runs.iload i7_89 rfl ?_
  refine Runs.istore (ls' := #[vr a, vr u8, vr u, vi 0, vi 5, vi 0, vr b_2, vi 0, .unset, .unset, .unset]) i7_91 rfl ?_
  refine Runs.iload i7_93 rfl ?_
  refine Runs.iload i7_95 rfl ?_
  refine Runs.icN i7_97 (tlt (by decide : (0 : Int32) < (5 : Int32))).2.1 ?_
  refine Runs.aload i7_100 rfl rfl ?_
  refine Runs.iload i7_102 rfl ?_
  refine Runs.iinc (z := (1 : Int32)) (ls' := #[vr a, vr u8, vr u, vi 0, vi 5, vi 0, vr b_2, vi 1, .unset, .unset, .unset]) i7_104 rfl (by decide) rfl ?_
  refine Runs.baload (v := (.int (own_8 ((240 : Int32) ||| (Int32.ofNat (N / 262144)))))) i7_107 A_5 ⟨by decide, by decide⟩ rfl ?_
  refine Runs.istore (ls' := #[vr a, vr u8, vr u, vi 0, vi 5, vi 0, vr b_2, vi 1, vi (own_8 ((240 : Int32) ||| (Int32.ofNat (N / 262144)))), .unset, .unset]) i7_108 rfl ?_
  refine Runs.iload i7_110 rfl ?_
  refine Runs.ifY (t := 129) i7_112 (by decide) (tlt (own_f4 (N / 262144) (by omega)).1).1 ?_
  refine Runs.iload i7_129 rfl ?_
  refine Runs.sipush (v := (254 : Int32)) i7_131 (by decide) ?_
  refine Runs.iand (z := ((own_8 ((240 : Int32) ||| (Int32.ofNat (N / 262144)))) &&& (254 : Int32))) i7_134 rfl ?_
  refine Runs.sipush (v := (194 : Int32)) i7_135 (by decide) ?_
  refine Runs.icY (t := 184) i7_138 (by decide) (feq (own_f4 (N / 262144) (by omega)).2.2.2.2).2 ?_
  refine Runs.iinc (z := (0 : Int32)) (ls' := #[vr a, vr u8, vr u, vi 0, vi 5, vi 0, vr b_2, vi 0, vi (own_8 ((240 : Int32) ||| (Int32.ofNat (N / 262144)))), .unset, .unset]) i7_184 rfl (by decide) rfl ?_
  refine Runs.goto (t := 190) i7_187 (by decide) ?_
  refine Runs.weak (D1 := [b_2, a]) (by simp) ?_
  have O_7 := (O0.keep K_4 nin0)
  exact own_c190 l Z a0 hw n0 a u u8 b_2 ku 5 0 ([] : List Int32) ([(Int32.ofNat (55296 + (N - 65536) / 1024)), (Int32.ofNat (56320 + (N - 65536) % 1024)), (Int32.ofNat B)] : List Int32) [(.int (own_8 ((240 : Int32) ||| (Int32.ofNat (N / 262144))))), (.int (own_8 ((128 : Int32) ||| (Int32.ofNat (N / 4096 % 64))))), (.int (own_8 ((128 : Int32) ||| (Int32.ofNat (N / 64 % 64))))), (.int (own_8 ((128 : Int32) ||| (Int32.ofNat (N % 64))))), (.int (own_8 (Int32.ofNat B)))] (own_8 ((240 : Int32) ||| (Int32.ofNat (N / 262144)))) (.unset) (.unset) (by decide) (by decide) (by simp) (by simp) own_lat0 (fun i hi => absurd hi (Nat.not_lt_zero _)) (own_nlat (mi 0 rfl) (own_lt (a := 255) (by omega) (by omega))) (own_aS (own_chN (by omega)) (own_aS (own_chN (by omega)) (own_aS (own_chN (by omega)) own_a0))) ga S_A S_H S_L fm hfm S_F (fun b kb h1 hne gb A1 B1 => own_dh4p l Z a0 hw n0 b_2 b ku kb [(.int (own_8 ((240 : Int32) ||| (Int32.ofNat (N / 262144))))), (.int (own_8 ((128 : Int32) ||| (Int32.ofNat (N / 4096 % 64))))), (.int (own_8 ((128 : Int32) ||| (Int32.ofNat (N / 64 % 64))))), (.int (own_8 ((128 : Int32) ||| (Int32.ofNat (N % 64))))), (.int (own_8 (Int32.ofNat B)))] hne h1 A1 gb S_A S_H S_L N (by omega) rfl rfl rfl rfl B hB (congrArg Value.int (own_8id hB)) B1) _ _ ((Keep.refl _ _).trans K_4 all0) (Nat.le_trans hn0 K_4.1) O_7 A_5
theorem own_ct4g (l : Launch) (Z : State) (a0 : Array Value) (hw : Wds Z a0) (n0 : Nat) (N : Nat) (hN : 65536 ≤ N ∧ N < 1114112) (B : Nat) (hB : 128 ≤ B ∧ B < 256) (a u u8 : Addr) (ku : ClassId) (hua : u ≠ a) (cpt : Int32) (h0 : Heap) (ga : n0 ≤ a) (O0 : Obj Z h0 a "java/lang/String" [("java/lang/String", "value", "[B", .null), ("java/lang/String", "coder", "B", (.int 0))]) (U0 : Arv Z h0 u ku .byte (5 : Int32) [(.int (own_8 ((240 : Int32) ||| (Int32.ofNat (N / 262144))))), (.int (own_8 ((128 : Int32) ||| (Int32.ofNat (N / 4096 % 64))))), (.int (own_8 ((128 : Int32) ||| (Int32.ofNat (N / 64 % 64))))), (.int (own_8 ((128 : Int32) ||| (Int32.ofNat (N % 64))))), (.int (own_8 (Int32.ofNat B)))] (.int 0)) (E0 : Exa Z h0 u "[B") (hn0 : n0 ≤ h0.size) (S_C : SC Z cpt) (hcpt : ¬ cpt = 0) (S_A : SA Z) (S_H : SH Z) (S_L : SL Z) (fm : Value) (hfm : fm.isRef = true) (S_F : SF Z fm) (S_I : Sta Z Z.heap "sun/nio/cs/UTF_8" "INSTANCE" "Lsun/nio/cs/UTF_8;" (.ref u8))  : ConH 1 l Z [("java/lang/String", 7)] n0 (⟨"java/lang/String", "<init>", "(Ljava/nio/charset/Charset;[BII)V"⟩ : MethodName) c7_ 11 none [((800 : Nat), (813 : Nat), (816 : Nat), (202 : Nat))] ({ frames := 5, cells := 4, slots := 48, locals := 83 } : Room) #[(.ref a), (.ref u8), (.ref u), (.int 0), (.int 5)] [a] h0 (fun v h D' => v = none ∧ ∃ t k, Keep h0 h [a] ∧ Sx Z h a t k ([(Int32.ofNat (55296 + (N - 65536) / 1024)), (Int32.ofNat (56320 + (N - 65536) % 1024)), (65533 : Int32)] : List Int32) ∧ D' = []) := by
  refine ConH.of_runs (ls := #[vr a, vr u8, vr u, vi 0, vi 5, .unset, .unset, .unset, .unset, .unset, .unset]) (by decide +kernel) (fun m => by simp [entryFrame, mkF, argsToLocals, Value.category]) ?_
  refine Runs.aloadN i7_0 rfl rfl ?_
  refine Runs.initO (W := 0) i7_1 (w48 hw) (w17 hw) (w18 hw) rfl (by decide) rfl (by decide) ?_
  refine Runs.iload i7_4 rfl ?_
  refine Runs.ifY (t := 30) i7_6 (by decide) (feq (by decide : ¬ ((5 : Int32) = (0 : Int32)))).2 ?_
  refine Runs.aloadN i7_30 rfl rfl ?_
  refine Runs.getS i7_31 (w49 hw) Via.refl S_I ?_
  refine Runs.acN i7_34 rfl rfl (Jvm.Free.XT.aa_ne_f (congrArg Value.ref rfl)) ?_
  refine Runs.getS i7_37 (w51 hw) Via.refl S_C ?_
  refine Runs.ifN i7_40 (feq hcpt).1 ?_
  refine Runs.aloadN i7_43 rfl rfl ?_
  refine Runs.iloadN i7_44 rfl ?_
  refine Runs.iload i7_45 rfl ?_
  have U_1 : Arv Z h0 u ku .byte (Int32.ofNat ([((240 : Int32) ||| (Int32.ofNat (N / 262144))), ((128 : Int32) ||| (Int32.ofNat (N / 4096 % 64))), ((128 : Int32) ||| (Int32.ofNat (N / 64 % 64))), ((128 : Int32) ||| (Int32.ofNat (N % 64))), (Int32.ofNat B)] : List Int32).length) (([((240 : Int32) ||| (Int32.ofNat (N / 262144))), ((128 : Int32) ||| (Int32.ofNat (N / 4096 % 64))), ((128 : Int32) ||| (Int32.ofNat (N / 64 % 64))), ((128 : Int32) ||| (Int32.ofNat (N % 64))), (Int32.ofNat B)] : List Int32).map own_b) (.int 0) := U0
  refine Runs.callSW (argsL := [(.ref u), (.int 0), (.int 5)]) (rest := []) (W := 0) i7_47 (w52 hw) (w53 hw) (w54 hw) (w55 hw) (by decide) pd_18 rfl rfl rfl rfl (by decide) (by decide) (by decide) (by decide) all0 (by decide) (own_ctp l Z a0 hw n0 u ku ([((240 : Int32) ||| (Int32.ofNat (N / 262144))), ((128 : Int32) ||| (Int32.ofNat (N / 4096 % 64))), ((128 : Int32) ||| (Int32.ofNat (N / 64 % 64))), ((128 : Int32) ||| (Int32.ofNat (N % 64))), (Int32.ofNat B)] : List Int32) (by simp) _ U_1) ?_
  intro v h1 D1 q hsz
  obtain ⟨j, rfl, hj1, hj2, hj3, rfl, rfl⟩ := q
  have hj : j = 0 := by
    have hj0 : j ≤ 5 := hj1
    rcases Nat.lt_trichotomy j 0 with q | q | q
    · exact absurd q (Nat.not_lt_zero _)
    · exact q
    · exact absurd (own_f4 (N / 262144) (by omega)).1 (hj2 0 q)
  subst hj
  show Runs _ _ _ _ _ _ _ _ _ _ _ _ [a] h0 0 0 50 #[vr a, vr u8, vr u, vi 0, vi 5, .unset, .unset, .unset, .unset, .unset, .unset] [(.int 0)]
  refine Runs.istore (ls' := #[vr a, vr u8, vr u, vi 0, vi 5, vi 0, .unset, .unset, .unset, .unset, .unset]) i7_50 rfl ?_
  refine Runs.iload i7_52 rfl ?_
  refine Runs.iload i7_54 rfl ?_
  refine Runs.icY (t := 78) i7_56 (by decide) (feq (by decide : ¬ ((0 : Int32) = (5 : Int32)))).2 ?_
  refine Runs.aloadN i7_78 rfl rfl ?_
  refine Runs.iloadN i7_79 rfl ?_
  refine Runs.iloadN i7_80 rfl ?_
  refine Runs.iload i7_81 rfl ?_
  refine Runs.iadd (z := (5 : Int32)) i7_83 (by decide) ?_
  refine Runs.callSW (argsL := [(.ref u), (.int 0), (.int 5)]) (rest := []) (W := 0) i7_84 (w56 hw) (w57 hw) (w58 hw) (w59 hw) (by decide) pd_19 rfl rfl rfl rfl (by decide) (by decide) (by decide) (by decide) all0 (by decide) (own_cor l Z a0 hw n0 u ku 5 16 [(.int (own_8 ((240 : Int32) ||| (Int32.ofNat (N / 262144))))), (.int (own_8 ((128 : Int32) ||| (Int32.ofNat (N / 4096 % 64))))), (.int (own_8 ((128 : Int32) ||| (Int32.ofNat (N / 64 % 64))))), (.int (own_8 ((128 : Int32) ||| (Int32.ofNat (N % 64))))), (.int (own_8 (Int32.ofNat B)))] (by decide) _ U0 E0) ?_
  intro v h_6 D1 q hsz
  obtain ⟨b_2, rfl, g_3, K_4, A_5, rfl⟩ := q
  show Runs _ _ _ _ _ _ _ _ _ _ _ _ [b_2, a] h_6 1 16 87 #[vr a, vr u8, vr u, vi 0, vi 5, vi 0, .unset, .unset, .unset, .unset, .unset] [(.ref b_2)]
  have ge_b_2 : n0 ≤ b_2 := Nat.le_trans hn0 (Nat.le_trans (Nat.le_refl _) g_3)
  refine Runs.astore (ls' := #[vr a, vr u8, vr u, vi 0, vi 5, vi 0, vr b_2, .unset, .unset, .unset, .unset]) i7_87 rfl rfl ?_
  refine Runs.iload i7_89 rfl ?_
  refine Runs.istore (ls' := #[vr a, vr u8, vr u, vi 0, vi 5, vi 0, vr b_2, vi 0, .unset, .unset, .unset]) i7_91 rfl ?_
  refine Runs.iload i7_93 rfl ?_
  refine Runs.iload i7_95 rfl ?_
  refine Runs.icN i7_97 (tlt (by decide : (0 : Int32) < (5 : Int32))).2.1 ?_
  refine Runs.aload i7_100 rfl rfl ?_
  refine Runs.iload i7_102 rfl ?_
  refine Runs.iinc (z := (1 : Int32)) (ls' := #[vr a, vr u8, vr u, vi 0, vi 5, vi 0, vr b_2, vi 1, .unset, .unset, .unset]) i7_104 rfl (by decide) rfl ?_
  refine Runs.baload (v := (.int (own_8 ((240 : Int32) ||| (Int32.ofNat (N / 262144)))))) i7_107 A_5 ⟨by decide, by decide⟩ rfl ?_
  refine Runs.istore (ls' := #[vr a, vr u8, vr u, vi 0, vi 5, vi 0, vr b_2, vi 1, vi (own_8 ((240 : Int32) ||| (Int32.ofNat (N / 262144)))), .unset, .unset]) i7_108 rfl ?_
  refine Runs.iload i7_110 rfl ?_
  refine Runs.ifY (t := 129) i7_112 (by decide) (tlt (own_f4 (N / 262144) (by omega)).1).1 ?_
  refine Runs.iload i7_129 rfl ?_
  refine Runs.sipush (v := (254 : Int32)) i7_131 (by decide) ?_
  refine Runs.iand (z := ((own_8 ((240 : Int32) ||| (Int32.ofNat (N / 262144)))) &&& (254 : Int32))) i7_134 rfl ?_
  refine Runs.sipush (v := (194 : Int32)) i7_135 (by decide) ?_
  refine Runs.icY (t := 184) i7_138 (by decide) (feq (own_f4 (N / 262144) (by omega)).2.2.2.2).2 ?_
  refine Runs.iinc (z := (0 : Int32)) (ls' := #[vr a, vr u8, vr u, vi 0, vi 5, vi 0, vr b_2, vi 0, vi (own_8 ((240 : Int32) ||| (Int32.ofNat (N / 262144)))), .unset, .unset]) i7_184 rfl (by decide) rfl ?_
  refine Runs.goto (t := 190) i7_187 (by decide) ?_
  refine Runs.weak (D1 := [b_2, a]) (by simp) ?_
  have O_7 := (O0.keep K_4 nin0)
  exact own_c190 l Z a0 hw n0 a u u8 b_2 ku 5 0 ([] : List Int32) ([(Int32.ofNat (55296 + (N - 65536) / 1024)), (Int32.ofNat (56320 + (N - 65536) % 1024)), (65533 : Int32)] : List Int32) [(.int (own_8 ((240 : Int32) ||| (Int32.ofNat (N / 262144))))), (.int (own_8 ((128 : Int32) ||| (Int32.ofNat (N / 4096 % 64))))), (.int (own_8 ((128 : Int32) ||| (Int32.ofNat (N / 64 % 64))))), (.int (own_8 ((128 : Int32) ||| (Int32.ofNat (N % 64))))), (.int (own_8 (Int32.ofNat B)))] (own_8 ((240 : Int32) ||| (Int32.ofNat (N / 262144)))) (.unset) (.unset) (by decide) (by decide) (by simp) (by simp) own_lat0 (fun i hi => absurd hi (Nat.not_lt_zero _)) (own_nlat (mi 2 rfl) (by decide)) (own_aS (own_chN (by omega)) (own_aS (own_chN (by omega)) (own_aS ⟨by decide, by decide⟩ own_a0))) ga S_A S_H S_L fm hfm S_F (fun b kb h1 hne gb A1 B1 => own_dh4g l Z a0 hw n0 b_2 b ku kb [(.int (own_8 ((240 : Int32) ||| (Int32.ofNat (N / 262144))))), (.int (own_8 ((128 : Int32) ||| (Int32.ofNat (N / 4096 % 64))))), (.int (own_8 ((128 : Int32) ||| (Int32.ofNat (N / 64 % 64))))), (.int (own_8 ((128 : Int32) ||| (Int32.ofNat (N % 64))))), (.int (own_8 (Int32.ofNat B)))] hne h1 A1 gb S_A S_H S_L N (by omega) rfl rfl rfl rfl (own_8 (Int32.ofNat B)) (own_8g hB) rfl B1) _ _ ((Keep.refl _ _).trans K_4 all0) (Nat.le_trans hn0 K_4.1) O_7 A_5
theorem own_cll (l : Launch) (Z : State) (a0 : Array Value) (hw : Wds Z a0) (n0 : Nat) (u t : Addr) (ku k : ClassId) (cs : List Int32) (hut : u ≠ t) (hcs : cs.length < 1000000) (hC : Chs cs) (h0 : Heap) (U0 : Arv Z h0 u ku .char (Int32.ofNat cs.length) (cs.map Value.int) (.int 0)) (gt : n0 ≤ t) (d : Nat) : ∀ (i : Nat) (h : Heap) (sl : Slot), (sl = .unset ∨ ∃ x : Int32, sl = (vi x)) → d + i = cs.length → (∀ j, j < i → ¬ (255 : Int32) < cs.getD j 0) → Keep h0 h [t] → Arv Z h t k .byte (Int32.ofNat cs.length) ((cs.take i).map own_b) (.int 0) → Runs 1 l Z [("java/lang/String", 7)] n0 "java/lang/StringUTF16" "compress" c13_ 7 (some .int) ({ frames := 0, cells := 0, slots := 0, locals := 0 } : Room) (fun v h D' => ∃ j : Nat, v = some (.int (Int32.ofNat j)) ∧ j ≤ cs.length ∧ (∀ i, i < j → ¬ (255 : Int32) < cs.getD i 0) ∧ (j < cs.length → (255 : Int32) < cs.getD j 0) ∧ Keep h0 h [t] ∧ Arv Z h t k .byte (Int32.ofNat cs.length) ((cs.take j).map own_b) (.int 0) ∧ D' = []) [t] h 0 0 3 #[vr u, vi (Int32.ofNat i), vr t, vi (Int32.ofNat i), vi (Int32.ofNat cs.length), vi (Int32.ofNat i), sl] [] := by
  induction d with
  | zero =>
    intro i h sl hsl hd hp K T
    refine Runs.iload i13_3 rfl ?_
    refine Runs.iload i13_5 rfl ?_
    refine Runs.icY (t := 44) i13_7 (by decide) (flt (own_nlt (by omega) (by omega))).2.1 ?_
    refine Runs.iload i13_44 rfl ?_
    refine Runs.weak (D1 := []) (fun _ q => nomatch q) ?_
    exact Runs.retI (z := Int32.ofNat cs.length) i13_46 rfl (Or.inl rfl) rfl (by decide) (by decide) ⟨cs.length, rfl, Nat.le_refl _, fun j hj => hp j (by omega), fun q => absurd q (Nat.lt_irrefl _), K, by rw [show cs.take cs.length = cs.take i by rw [show i = cs.length by omega]]; exact T, rfl⟩
  | succ d ih =>
    intro i h sl hsl hd hp K T
    rcases hsl with rfl | ⟨cx, rfl⟩
    all_goals
      refine Runs.iload i13_3 rfl ?_
      refine Runs.iload i13_5 rfl ?_
      refine Runs.icN i13_7 (tlt (own_lt (by omega) (by omega))).2.1 ?_
      refine Runs.aloadN i13_10 rfl rfl ?_
      refine Runs.iloadN i13_11 rfl ?_
      refine Runs.caload (v := .int (cs.getD i 0)) i13_12 (U0.keep K (ninS hut nin0)) ⟨own_nn (by omega), own_lt (by omega) (by omega)⟩ (by rw [own_cl (by omega)]; exact own_getb _ _) ?_
      refine Runs.istore (ls' := #[vr u, vi (Int32.ofNat i), vr t, vi (Int32.ofNat i), vi (Int32.ofNat cs.length), vi (Int32.ofNat i), vi (cs.getD i 0)]) i13_13 rfl ?_
      refine Runs.iload i13_15 rfl ?_
      refine Runs.sipush (v := (255 : Int32)) i13_17 (by decide) ?_
      by_cases hc20 : (255 : Int32) < (cs.getD i 0)
      · refine Runs.icN i13_20 (tlt hc20).2.2.2 ?_
        refine Runs.iload i13_23 rfl ?_
        refine Runs.weak (D1 := []) (fun _ q => nomatch q) ?_
        exact Runs.retI (z := Int32.ofNat i) i13_25 rfl (Or.inl rfl) rfl (by decide) (by decide) ⟨i, rfl, by omega, hp, fun _ => hc20, K, T, rfl⟩
      · refine Runs.icY (t := 26) i13_20 (by decide) (flt hc20).2.2.2 ?_
        refine Runs.aloadN i13_26 rfl rfl ?_
        refine Runs.iloadN i13_27 rfl ?_
        refine Runs.iload i13_28 rfl ?_
        refine Runs.i2b (z := ((Int32.toInt8 (cs.getD i 0)).toInt32)) i13_30 rfl ?_
        have T1 : Arv Z h t k .byte (Int32.ofNat cs.length) ((cs.take i).map own_b ++ List.replicate (1 + 0) (.int 0)) (.int 0) := T.pad (pad_rep _ _ _)
        refine Runs.bastore (i := i) (y := ((Int32.toInt8 (cs.getD i 0)).toInt32)) i13_31 T1 ⟨own_nn (by omega), own_lt (by omega) (by omega)⟩ (own_cl (by omega)) (by rw [List.length_append, List.length_map, own_tkl (show i ≤ cs.length by omega), List.length_replicate]; omega) (own_bb _) gt (Or.inl (mi 0 rfl)) ?_
        intro h_1 K_2 A_3
        have A_32 : Arv Z h_1 t k .byte (Int32.ofNat cs.length) ((cs.take (i + 1)).map own_b) (.int 0) := by
          have e := own_setb (cs.take i) (cs.getD i 0) 0
          rw [own_tkl (show i ≤ cs.length by omega), own_take1 (by omega), List.replicate_zero, List.append_nil] at e
          rw [← e]; exact A_3
        refine Runs.iinc (z := (Int32.ofNat (i + 1))) (ls' := #[vr u, vi (Int32.ofNat (i + 1)), vr t, vi (Int32.ofNat i), vi (Int32.ofNat cs.length), vi (Int32.ofNat i), vi (cs.getD i 0)]) i13_32 rfl (own_add (b := 1) (by omega)) rfl ?_
        refine Runs.iinc (z := (Int32.ofNat (i + 1))) (ls' := #[vr u, vi (Int32.ofNat (i + 1)), vr t, vi (Int32.ofNat (i + 1)), vi (Int32.ofNat cs.length), vi (Int32.ofNat i), vi (cs.getD i 0)]) i13_35 rfl (own_add (b := 1) (by omega)) rfl ?_
        refine Runs.iinc (z := (Int32.ofNat (i + 1))) (ls' := #[vr u, vi (Int32.ofNat (i + 1)), vr t, vi (Int32.ofNat (i + 1)), vi (Int32.ofNat cs.length), vi (Int32.ofNat (i + 1)), vi (cs.getD i 0)]) i13_38 rfl (own_add (b := 1) (by omega)) rfl ?_
        refine Runs.goto (t := 3) i13_41 (by decide) ?_
        exact ih (i + 1) _ (vi (cs.getD i 0)) (Or.inr ⟨_, rfl⟩) (by omega) (fun j hj => by rcases Nat.lt_or_ge j i with q | q; exact hp j q; rw [show j = i by omega]; exact hc20) (K.trans K_2 (allS (Or.inl (mi 0 rfl)) all0)) A_32
theorem own_cpl (l : Launch) (Z : State) (a0 : Array Value) (hw : Wds Z a0) (n0 : Nat) (u t : Addr) (ku k : ClassId) (cs : List Int32) (hut : u ≠ t) (hcs : cs.length < 1000000) (hC : Chs cs) (h0 : Heap) (U0 : Arv Z h0 u ku .char (Int32.ofNat cs.length) (cs.map Value.int) (.int 0)) (gt : n0 ≤ t) (T0 : Arv Z h0 t k .byte (Int32.ofNat cs.length) (([] : List Int32).map own_b) (.int 0)) : Con 1 l Z [("java/lang/String", 7)] n0 (⟨"java/lang/StringUTF16", "compress", "([CI[BII)I"⟩ : MethodName) c13_ 7 (some .int) ({ frames := 0, cells := 0, slots := 0, locals := 0 } : Room) #[(.ref u), (.int 0), (.ref t), (.int 0), (.int (Int32.ofNat cs.length))] [t] h0 (fun v h D' => ∃ j : Nat, v = some (.int (Int32.ofNat j)) ∧ j ≤ cs.length ∧ (∀ i, i < j → ¬ (255 : Int32) < cs.getD i 0) ∧ (j < cs.length → (255 : Int32) < cs.getD j 0) ∧ Keep h0 h [t] ∧ Arv Z h t k .byte (Int32.ofNat cs.length) ((cs.take j).map own_b) (.int 0) ∧ D' = []) := by
  refine Con.of_runs (ls := #[vr u, vi 0, vr t, vi 0, vi (Int32.ofNat cs.length), .unset, .unset]) (by decide +kernel) (fun m => rfl) ?_
  refine Runs.iconst (v := (0 : Int32)) i13_0 (by decide) ?_
  refine Runs.istore (ls' := #[vr u, vi 0, vr t, vi 0, vi (Int32.ofNat cs.length), vi 0, .unset]) i13_1 rfl ?_
  exact own_cll l Z a0 hw n0 u t ku k cs hut hcs hC h0 U0 gt cs.length 0 _ .unset (Or.inl rfl) (by omega) (fun _ q => absurd q (Nat.not_lt_zero _)) (Keep.refl _ _) T0
theorem own_utl (l : Launch) (Z : State) (a0 : Array Value) (hw : Wds Z a0) (n0 : Nat) (u : Addr) (ku : ClassId) (cs : List Int32) (NS : Nat) (hcs : cs.length < 1000000) (hNS : 2 * cs.length ≤ NS ∧ NS < 10000000) (h0 : Heap) (U0 : Arv Z h0 u ku .char (Int32.ofNat cs.length) (cs.map Value.int) (.int 0)) (S_A : SA Z) (S_H : SH Z) (S_L : SL Z) (t : Addr) (k : ClassId) (gt : h0.size ≤ t) (ge : n0 ≤ t) (d : Nat) : ∀ (i : Nat) (h : Heap), d + i = cs.length → Keep h0 h [] → Arv Z h t k .byte (Int32.ofNat (2 * cs.length)) (own_ws (cs.take i)) (.int 0) → Exa Z h t "[B" → Runs 1 l Z [("java/lang/String", 7)] n0 "java/lang/StringUTF16" "toBytes" c35_ 5 (some (.array .byte)) ({ frames := 2, cells := 1, slots := NS, locals := 31 } : Room) (fun v h D' => ∃ b k, v = some (.ref b) ∧ h0.size ≤ b ∧ Keep h0 h [] ∧ Arv Z h b k .byte (Int32.ofNat (2 * cs.length)) (own_ws cs) (.int 0) ∧ Exa Z h b "[B" ∧ D' = [b]) [t] h 1 (0 + NS) 8 #[vr u, vi (Int32.ofNat i), vi (Int32.ofNat cs.length), vr t, vi (Int32.ofNat i)] [] := by
  induction d with
  | zero =>
    intro i h hd K T E
    refine Runs.iload i35_8 rfl ?_
    refine Runs.iloadN i35_10 rfl ?_
    refine Runs.icY (t := 32) i35_11 (by decide) (flt (own_nlt (by omega) (by omega))).2.1 ?_
    refine Runs.aloadN i35_32 rfl rfl ?_
    exact Runs.retA i35_33 rfl rfl rfl (by first | decide | (dsimp only; first | decide | omega)) (by first | decide | (dsimp only; first | decide | omega)) ⟨t, k, rfl, gt, K, by rw [List.take_of_length_le (by omega)] at T; exact T, E, rfl⟩
  | succ d ih =>
    intro i h hd K T E
    refine Runs.iload i35_8 rfl ?_
    refine Runs.iloadN i35_10 rfl ?_
    refine Runs.icN i35_11 (tlt (own_lt (by omega) (by omega))).2.1 ?_
    refine Runs.aloadN i35_14 rfl rfl ?_
    refine Runs.iload i35_15 rfl ?_
    refine Runs.aloadN i35_17 rfl rfl ?_
    refine Runs.iloadN i35_18 rfl ?_
    refine Runs.caload (v := .int (cs.getD i 0)) i35_19 (U0.keep K nin0) ⟨own_nn (by omega), own_lt (by omega) (by omega)⟩ (by rw [own_cl (by omega)]; exact own_getb _ _) ?_
    have Hc := own_upc l Z a0 hw n0 t k cs.length (cs.take i) _ T (cs.getD i 0) (by rw [own_tkl (by omega)]; omega) hcs ge S_A S_H S_L
    rw [own_tkl (by omega)] at Hc
    refine Runs.callSW (argsL := [(.ref t), (.int (Int32.ofNat i)), (.int (cs.getD i 0))]) (rest := []) (W := 0) i35_20 (w178 hw) (w165 hw) (w82 hw) (w166 hw) (by decide) pd_5 rfl rfl rfl rfl (by first | decide | (dsimp only; first | decide | omega)) (by first | decide | (dsimp only; first | decide | omega)) (by first | decide | (dsimp only; first | decide | omega)) (by first | decide | (dsimp only; first | decide | omega)) (allS (mi 0 rfl) all0) (by decide) Hc ?_
    intro v h_3 D1 q hsz
    obtain ⟨rfl, K_1, A_2, rfl⟩ := q
    show Runs _ _ _ _ _ _ _ _ _ _ _ _ [t] h_3 1 (0 + NS) 23 #[vr u, vi (Int32.ofNat i), vi (Int32.ofNat cs.length), vr t, vi (Int32.ofNat i)] []
    refine Runs.iinc (z := (Int32.ofNat (i + 1))) (ls' := #[vr u, vi (Int32.ofNat (i + 1)), vi (Int32.ofNat cs.length), vr t, vi (Int32.ofNat i)]) i35_23 rfl (own_add (b := 1) (by omega)) rfl ?_
    refine Runs.iinc (z := (Int32.ofNat (i + 1))) (ls' := #[vr u, vi (Int32.ofNat (i + 1)), vi (Int32.ofNat cs.length), vr t, vi (Int32.ofNat (i + 1))]) i35_26 rfl (own_add (b := 1) (by omega)) rfl ?_
    refine Runs.goto (t := 8) i35_29 (by decide) ?_
    exact ih (i + 1) _ (by omega) (K.trans K_1 (allS (Or.inr gt) all0)) (by rw [← own_take1 (by omega)]; exact A_2) (E.keep K_1)
theorem own_utb (l : Launch) (Z : State) (a0 : Array Value) (hw : Wds Z a0) (n0 : Nat) (u : Addr) (ku : ClassId) (cs : List Int32) (NS : Nat) (hcs : cs.length < 1000000) (hNS : 2 * cs.length ≤ NS ∧ NS < 10000000) (h0 : Heap) (U0 : Arv Z h0 u ku .char (Int32.ofNat cs.length) (cs.map Value.int) (.int 0)) (S_A : SA Z) (S_H : SH Z) (S_L : SL Z) (hn0 : n0 ≤ h0.size) : Con 1 l Z [("java/lang/String", 7)] n0 (⟨"java/lang/StringUTF16", "toBytes", "([CII)[B"⟩ : MethodName) c35_ 5 (some (.array .byte)) ({ frames := 2, cells := 1, slots := NS, locals := 31 } : Room) #[(.ref u), (.int 0), (.int (Int32.ofNat cs.length))] [] h0 (fun v h D' => ∃ b k, v = some (.ref b) ∧ h0.size ≤ b ∧ Keep h0 h [] ∧ Arv Z h b k .byte (Int32.ofNat (2 * cs.length)) (own_ws cs) (.int 0) ∧ Exa Z h b "[B" ∧ D' = [b]) := by
  refine Con.of_runs (ls := #[vr u, vi 0, vi (Int32.ofNat cs.length), .unset, .unset]) (by decide +kernel) (fun m => rfl) ?_
  refine Runs.iloadN i35_0 rfl ?_
  refine Runs.callSW (argsL := [(.int (Int32.ofNat cs.length))]) (rest := []) (W := 0) i35_1 (w177 hw) (w118 hw) (w82 hw) (w119 hw) (by decide) pd_15 rfl rfl rfl rfl (by first | decide | (dsimp only; first | decide | omega)) (by first | decide | (dsimp only; first | decide | omega)) (by first | decide | (dsimp only; first | decide | omega)) (by first | decide | (dsimp only; first | decide | omega)) all0 (by decide) (own_ubf l Z a0 hw n0 cs.length NS hcs hNS _) ?_
  intro v h_7 D1 q hsz
  obtain ⟨t_1, k_2, rfl, g_3, K_4, A_5, E_6, rfl⟩ := q
  show Runs _ _ _ _ _ _ _ _ _ _ _ _ [t_1] h_7 1 (0 + NS) 4 #[vr u, vi 0, vi (Int32.ofNat cs.length), .unset, .unset] [(.ref t_1)]
  refine Runs.astoreN (ls' := #[vr u, vi 0, vi (Int32.ofNat cs.length), vr t_1, .unset]) i35_4 rfl rfl ?_
  refine Runs.iconst (v := (0 : Int32)) i35_5 (by decide) ?_
  refine Runs.istore (ls' := #[vr u, vi 0, vi (Int32.ofNat cs.length), vr t_1, vi 0]) i35_6 rfl ?_
  exact own_utl l Z a0 hw n0 u ku cs NS hcs hNS h0 U0 S_A S_H S_L t_1 k_2 g_3 (Nat.le_trans hn0 g_3) cs.length 0 _ (by omega) K_4 A_5 E_6
theorem own_ugc (l : Launch) (Z : State) (a0 : Array Value) (hw : Wds Z a0) (n0 : Nat) (t : Addr) (k : ClassId) (cap : Nat) (xs : List Int32) (h0 : Heap) (T0 : Arv Z h0 t k .byte (Int32.ofNat (2 * cap)) (own_ws xs) (.int 0)) (i : Nat) (hi : i < xs.length) (hx : xs.length ≤ cap) (hcap : cap < 1000000) (hc : ¬ xs.getD i 0 < 0 ∧ ¬ (65535 : Int32) < xs.getD i 0) (S_A : SA Z) (S_H : SH Z) (S_L : SL Z) : Con 1 l Z [("java/lang/String", 7)] n0 (⟨"java/lang/StringUTF16", "getChar", "([BI)C"⟩ : MethodName) c36_ 2 (some .char) ({ frames := 0, cells := 0, slots := 0, locals := 0 } : Room) #[(.ref t), (.int (Int32.ofNat i))] [] h0 (fun v h D' => v = some (.int (xs.getD i 0)) ∧ h0 = h ∧ D' = []) := by
  refine Con.of_runs (ls := #[vr t, vi (Int32.ofNat i)]) (by decide +kernel) (fun m => rfl) ?_
  refine Runs.getS i36_0 (w167 hw) Via.refl S_A ?_
  refine Runs.ifY (t := 28) i36_3 (by decide) (feq (by decide : ¬ ((1 : Int32) = (0 : Int32)))).2 ?_
  refine Runs.iloadN i36_28 rfl ?_
  refine Runs.iconst (v := (1 : Int32)) i36_29 (by decide) ?_
  refine Runs.ishl (z := Int32.ofNat (2 * i)) i36_30 (own_shl1 (by omega)) ?_
  refine Runs.istoreN (ls' := #[vr t, vi (Int32.ofNat (2 * i))]) i36_31 rfl ?_
  refine Runs.aloadN i36_32 rfl rfl ?_
  refine Runs.iloadN i36_33 rfl ?_
  refine Runs.iinc (z := (Int32.ofNat (2 * i + 1))) (ls' := #[vr t, vi (Int32.ofNat (2 * i + 1))]) i36_34 rfl (own_add (b := 1) (by omega)) rfl ?_
  refine Runs.baload (v := .int (own_lo (xs.getD i 0))) i36_37 T0 ⟨own_nn (by omega), own_lt (by omega) (by omega)⟩ (by rw [own_cl (by omega)]; exact (own_getw xs i hi).1) ?_
  refine Runs.sipush (v := (255 : Int32)) i36_38 (by decide) ?_
  refine Runs.iand (z := ((own_lo (xs.getD i 0)) &&& 255)) i36_41 rfl ?_
  refine Runs.getS i36_42 (w168 hw) Via.refl S_H ?_
  refine Runs.ishl (z := (((own_lo (xs.getD i 0)) &&& 255) <<< ((0 : Int32) &&& 31))) i36_45 rfl ?_
  refine Runs.aloadN i36_46 rfl rfl ?_
  refine Runs.iloadN i36_47 rfl ?_
  refine Runs.baload (v := .int (own_hi (xs.getD i 0))) i36_48 T0 ⟨own_nn (by omega), own_lt (by omega) (by omega)⟩ (by rw [own_cl (by omega)]; exact (own_getw xs i hi).2) ?_
  refine Runs.sipush (v := (255 : Int32)) i36_49 (by decide) ?_
  refine Runs.iand (z := ((own_hi (xs.getD i 0)) &&& 255)) i36_52 rfl ?_
  refine Runs.getS i36_53 (w169 hw) Via.refl S_L ?_
  refine Runs.ishl (z := (((own_hi (xs.getD i 0)) &&& 255) <<< ((8 : Int32) &&& 31))) i36_56 rfl ?_
  refine Runs.ior (z := xs.getD i 0) i36_57 (own_wchar hc) ?_
  refine Runs.i2c (z := xs.getD i 0) i36_58 (own_cc hc) ?_
  exact Runs.retI (z := (xs.getD i 0)) i36_59 rfl (Or.inr (Or.inr (Or.inr (Or.inl rfl)))) (congrArg Value.int (own_cc hc)) (by decide) (by decide) ⟨rfl, rfl, rfl⟩
theorem own_cpw (l : Launch) (Z : State) (a0 : Array Value) (hw : Wds Z a0) (n0 : Nat) (u : Addr) (ku : ClassId) (cs : List Int32) (NS : Nat) (hcs : cs.length < 400000) (hNS : 2 * cs.length ≤ NS ∧ NS < 1000000) (hC : Chs cs) (h0 : Heap) (U0 : Arv Z h0 u ku .char (Int32.ofNat cs.length) (cs.map Value.int) (.int 0)) (hn0 : n0 ≤ h0.size) (S_A : SA Z) (S_H : SH Z) (S_L : SL Z) : Con 1 l Z [("java/lang/String", 7)] n0 (⟨"java/lang/StringUTF16", "compress", "([CII)[B"⟩ : MethodName) c12_ 6 (some (.array .byte)) ({ frames := 3, cells := 2, slots := (NS + NS), locals := 47 } : Room) #[(.ref u), (.int 0), (.int (Int32.ofNat cs.length))] [] h0 (fun v h D' => ∃ b k, v = some (.ref b) ∧ h0.size ≤ b ∧ Keep h0 h [] ∧ ((Lat cs ∧ Arv Z h b k .byte (Int32.ofNat cs.length) (cs.map own_b) (.int 0)) ∨ (¬ Lat cs ∧ Arv Z h b k .byte (Int32.ofNat (2 * cs.length)) (own_ws cs) (.int 0))) ∧ Exa Z h b "[B" ∧ D' = [b]) := by
  refine Con.of_runs (ls := #[vr u, vi 0, vi (Int32.ofNat cs.length), .unset, .unset, .unset]) (by decide +kernel) (fun m => rfl) ?_
  refine Runs.iloadN i12_0 rfl ?_
  refine Runs.newP (cap := NS) (ad := "[B") i12_1 (w3 hw) (own_nn (n := cs.length) (by omega)) (by rw [own_cl (n := cs.length) (by omega)]; omega) (by omega) (by first | decide | (dsimp only; first | decide | omega)) (by first | decide | (dsimp only; first | decide | omega)) rfl ?_
  intro h_1 b_2 k_3 g_6 ge_7 K_4 (A_5 : Arv Z h_1 b_2 k_3 .byte (Int32.ofNat cs.length) (([] : List Int32).map own_b) (.int 0)) E_8
  refine Runs.astoreN (ls' := #[vr u, vi 0, vi (Int32.ofNat cs.length), vr b_2, .unset, .unset]) i12_3 rfl rfl ?_
  refine Runs.aloadN i12_4 rfl rfl ?_
  refine Runs.iloadN i12_5 rfl ?_
  refine Runs.aloadN i12_6 rfl rfl ?_
  refine Runs.iconst (v := (0 : Int32)) i12_7 (by decide) ?_
  refine Runs.iloadN i12_8 rfl ?_
  have A_9 := (U0.keep K_4 nin0)
  refine Runs.callSW (argsL := [(.ref u), (.int 0), (.ref b_2), (.int 0), (.int (Int32.ofNat cs.length))]) (rest := []) (W := 0) i12_9 (w84 hw) (w85 hw) (w82 hw) (w86 hw) (by decide) pd_20 rfl rfl rfl rfl (by first | decide | (dsimp only; first | decide | omega)) (by first | decide | (dsimp only; first | decide | omega)) (by first | decide | (dsimp only; first | decide | omega)) (by first | decide | (dsimp only; first | decide | omega)) (allS (mi 0 rfl) all0) (by decide) (own_cpl l Z a0 hw n0 u b_2 ku k_3 cs (Nat.ne_of_lt (Nat.lt_of_lt_of_le (Nat.lt_of_lt_of_le U0.lt (Nat.le_refl _)) g_6)) (by omega) hC _ A_9 ge_7 A_5) ?_
  intro v h_12 D1 q hsz
  obtain ⟨j, rfl, hj1, hj2, hj3, K_10, A_11, rfl⟩ := q
  show Runs _ _ _ _ _ _ _ _ _ _ _ _ [b_2] h_12 1 (0 + NS) 12 #[vr u, vi 0, vi (Int32.ofNat cs.length), vr b_2, .unset, .unset] [(.int (Int32.ofNat j))]
  refine Runs.istore (ls' := #[vr u, vi 0, vi (Int32.ofNat cs.length), vr b_2, vi (Int32.ofNat j), .unset]) i12_12 rfl ?_
  refine Runs.iload i12_14 rfl ?_
  refine Runs.iloadN i12_16 rfl ?_
  by_cases hc17 : (Int32.ofNat j) = (Int32.ofNat cs.length)
  · refine Runs.icY (t := 57) i12_17 (by decide) (teq hc17).1 ?_
    refine Runs.aloadN i12_57 rfl rfl ?_
    have ej : j = cs.length := (own_inj (by omega) (by omega)).mp hc17
    exact Runs.retA i12_58 rfl rfl rfl (by first | decide | (dsimp only; first | decide | omega)) (by first | decide | (dsimp only; first | decide | omega)) ⟨b_2, k_3, rfl, (Nat.le_trans (Nat.le_refl _) g_6), (((Keep.refl _ _).trans K_4 all0).trans K_10 (allS (Or.inr (Nat.le_trans (Nat.le_refl _) g_6)) all0)), Or.inl ⟨own_latof hC (fun i hi => hj2 i (by omega)), by rw [ej, List.take_length] at A_11; exact A_11⟩, (E_8.keep K_10), rfl⟩
  · refine Runs.icN i12_17 (feq hc17).1 ?_
    have hi : j < cs.length := by
      rcases Nat.lt_or_ge j cs.length with q | q
      · exact q
      · exact absurd (by rw [show j = cs.length by omega]) hc17
    refine Runs.aloadN i12_20 rfl rfl ?_
    refine Runs.iloadN i12_21 rfl ?_
    refine Runs.iloadN i12_22 rfl ?_
    have A_13 := (A_9.keep K_10 (ninS (Nat.ne_of_lt (Nat.lt_of_lt_of_le (Nat.lt_of_lt_of_le U0.lt (Nat.le_refl _)) g_6)) nin0))
    refine Runs.callSW (argsL := [(.ref u), (.int 0), (.int (Int32.ofNat cs.length))]) (rest := []) (W := 0) i12_23 (w174 hw) (w175 hw) (w82 hw) (w176 hw) (by decide) pd_21 rfl rfl rfl rfl (by first | decide | (dsimp only; first | decide | omega)) (by first | decide | (dsimp only; first | decide | omega)) (by first | decide | (dsimp only; first | decide | omega)) (by first | decide | (dsimp only; first | decide | omega)) all0 (by decide) (own_utb l Z a0 hw n0 u ku cs NS (by omega) (by omega) _ A_13 S_A S_H S_L (Nat.le_trans hn0 (Nat.le_trans K_4.1 K_10.1))) ?_
    intro v h_20 D1 q hsz
    obtain ⟨t_14, k_15, rfl, g_16, K_17, A_18, E_19, rfl⟩ := q
    show Runs _ _ _ _ _ _ _ _ _ _ _ _ [t_14, b_2] h_20 2 ((0 + NS) + NS) 26 #[vr u, vi 0, vi (Int32.ofNat cs.length), vr b_2, vi (Int32.ofNat j), .unset] [(.ref t_14)]
    refine Runs.astore (ls' := #[vr u, vi 0, vi (Int32.ofNat cs.length), vr b_2, vi (Int32.ofNat j), vr t_14]) i12_26 rfl rfl ?_
    refine Runs.aload i12_28 rfl rfl ?_
    refine Runs.iload i12_30 rfl ?_
    refine Runs.callSW (argsL := [(.ref t_14), (.int (Int32.ofNat j))]) (rest := []) (W := 0) i12_32 (w179 hw) (w180 hw) (w82 hw) (w181 hw) (by decide) pd_22 rfl rfl rfl rfl (by first | decide | (dsimp only; first | decide | omega)) (by first | decide | (dsimp only; first | decide | omega)) (by first | decide | (dsimp only; first | decide | omega)) (by first | decide | (dsimp only; first | decide | omega)) all0 (by decide) (own_ugc l Z a0 hw n0 t_14 k_15 cs.length cs _ A_18 j hi (Nat.le_refl _) (by omega) (own_chg hC hi) S_A S_H S_L) ?_
    intro v h1 D1 q hsz
    obtain ⟨rfl, rfl, rfl⟩ := q
    show Runs _ _ _ _ _ _ _ _ _ _ _ _ [t_14, b_2] h_20 2 ((0 + NS) + NS) 35 #[vr u, vi 0, vi (Int32.ofNat cs.length), vr b_2, vi (Int32.ofNat j), vr t_14] [(.int (cs.getD j 0))]
    refine Runs.sipush (v := (255 : Int32)) i12_35 (by decide) ?_
    refine Runs.icY (t := 54) i12_38 (by decide) (tlt (hj3 hi)).2.2.1 ?_
    refine Runs.aload i12_54 rfl rfl ?_
    refine Runs.weak (D1 := [t_14]) (by simp) ?_
    exact Runs.retA i12_56 rfl rfl rfl (by first | decide | (dsimp only; first | decide | omega)) (by first | decide | (dsimp only; first | decide | omega)) ⟨t_14, k_15, rfl, (Nat.le_trans (Nat.le_trans K_4.1 K_10.1) g_16), ((((Keep.refl _ _).trans K_4 all0).trans K_10 (allS (Or.inr (Nat.le_trans (Nat.le_refl _) g_6)) all0)).trans K_17 all0), Or.inr ⟨fun q => (own_latg q hi).2 (hj3 hi), A_18⟩, E_19, rfl⟩
theorem own_cfa (l : Launch) (Z : State) (a0 : Array Value) (hw : Wds Z a0) (n0 : Nat) (t : Addr) (k : ClassId) (n m : Nat) (z : Int32) (hz : (if m ≤ n then (0 : Int32) else 1) = z) (hn : n < 1000000) (hm : m < 1000000) (vs : List Value) (d : Value) (h0 : Heap) (T0 : Arv Z h0 t k .byte (Int32.ofNat m) vs d) : Con 1 l Z [("java/lang/String", 7)] n0 (⟨"java/lang/StringUTF16", "coderFromArrayLen", "([BI)B"⟩ : MethodName) c14_ 2 (some .byte) ({ frames := 0, cells := 0, slots := 0, locals := 0 } : Room) #[(.ref t), (.int (Int32.ofNat n))] [] h0 (fun v h D' => v = some (.int z) ∧ h0 = h ∧ D' = []) := by
  refine Con.of_runs (ls := #[vr t, vi (Int32.ofNat n)]) (by decide +kernel) (fun m => rfl) ?_
  refine Runs.iloadN i14_0 rfl ?_
  refine Runs.aloadN i14_1 rfl rfl ?_
  refine Runs.arrlen i14_2 T0 ?_
  refine Runs.isub (z := ((Int32.ofNat n) - (Int32.ofNat m))) i14_3 rfl ?_
  refine Runs.bipush (v := (31 : Int32)) i14_4 (by decide) ?_
  refine Runs.iushr (z := (Jvm.Free.XT.ushr ((Int32.ofNat n) - (Int32.ofNat m)) 31)) i14_6 rfl ?_
  refine Runs.i2b (z := z) i14_7 ((own_cfl hn hm).trans hz) ?_
  exact Runs.retI (z := z) i14_8 rfl (Or.inr (Or.inr (Or.inl rfl))) (by rw [← hz]; split <;> rfl) (by decide) (by decide) ⟨rfl, rfl, rfl⟩
theorem own_swi (l : Launch) (Z : State) (a0 : Array Value) (hw : Wds Z a0) (n0 : Nat) (a u : Addr) (ku : ClassId) (hua : u ≠ a) (cs : List Int32) (NS : Nat) (hcs : 0 < cs.length ∧ cs.length < 400000) (hNS : 2 * cs.length ≤ NS ∧ NS < 1000000) (hC : Chs cs) (cpt : Int32) (h0 : Heap) (ga : n0 ≤ a) (O0 : Obj Z h0 a "java/lang/String" [("java/lang/String", "value", "[B", .null), ("java/lang/String", "coder", "B", (.int 0))]) (U0 : Arv Z h0 u ku .char (Int32.ofNat cs.length) (cs.map Value.int) (.int 0)) (hn0 : n0 ≤ h0.size) (S_C : SC Z cpt) (hcpt : ¬ cpt = 0) (S_A : SA Z) (S_H : SH Z) (S_L : SL Z) : Con 1 l Z [("java/lang/String", 7)] n0 (⟨"java/lang/String", "<init>", "([CIILjava/lang/Void;)V"⟩ : MethodName) c11_ 6 none ({ frames := 4, cells := 2, slots := (NS + NS), locals := 64 } : Room) #[(.ref a), (.ref u), (.int 0), (.int (Int32.ofNat cs.length)), .null] [a] h0 (fun v h D' => v = none ∧ ∃ t k, h0.size ≤ t ∧ Keep h0 h [a] ∧ Sx Z h a t k cs ∧ Exa Z h t "[B" ∧ D' = []) := by
  refine Con.of_runs (ls := #[vr a, vr u, vi 0, vi (Int32.ofNat cs.length), .val .null, .unset]) (by decide +kernel) (fun m => rfl) ?_
  refine Runs.aloadN i11_0 rfl rfl ?_
  refine Runs.initO (W := 0) i11_1 (w48 hw) (w17 hw) (w18 hw) rfl (by first | decide | (dsimp only; first | decide | omega)) rfl (by first | decide | (dsimp only; first | decide | omega)) ?_
  refine Runs.iloadN i11_4 rfl ?_
  refine Runs.ifY (t := 27) i11_5 (by decide) (feq (fun q => absurd ((own_inj (a := cs.length) (b := 0) (by omega) (by omega)).mp q) (by omega))).2 ?_
  refine Runs.getS i11_27 (w51 hw) Via.refl S_C ?_
  refine Runs.ifN i11_30 (feq hcpt).1 ?_
  refine Runs.aloadN i11_33 rfl rfl ?_
  refine Runs.iloadN i11_34 rfl ?_
  refine Runs.iloadN i11_35 rfl ?_
  refine Runs.callSW (argsL := [(.ref u), (.int 0), (.int (Int32.ofNat cs.length))]) (rest := []) (W := 0) i11_36 (w80 hw) (w81 hw) (w82 hw) (w83 hw) (by decide) pd_21 rfl rfl rfl rfl (by first | decide | (dsimp only; first | decide | omega)) (by first | decide | (dsimp only; first | decide | omega)) (by first | decide | (dsimp only; first | decide | omega)) (by first | decide | (dsimp only; first | decide | omega)) all0 (by decide) (own_cpw l Z a0 hw n0 u ku cs NS (by omega) hNS hC _ U0 (Nat.le_trans hn0 (Nat.le_refl _)) S_A S_H S_L) ?_
  intro v h_7 D1 q hsz
  obtain ⟨b_1, k_2, rfl, g_3, K_4, H_5, E_6, rfl⟩ := q
  show Runs _ _ _ _ _ _ _ _ _ _ _ _ [b_1, a] h_7 2 (0 + (NS + NS)) 39 #[vr a, vr u, vi 0, vi (Int32.ofNat cs.length), .val .null, .unset] [(.ref b_1)]
  rcases H_5 with ⟨hl, A⟩ | ⟨hl, A⟩
  · skip
    refine Runs.astore (ls' := #[vr a, vr u, vi 0, vi (Int32.ofNat cs.length), .val .null, vr b_1]) i11_39 rfl rfl ?_
    refine Runs.aloadN i11_41 rfl rfl ?_
    refine Runs.aload i11_42 rfl rfl ?_
    refine Runs.iloadN i11_44 rfl ?_
    refine Runs.callSW (argsL := [(.ref b_1), (.int (Int32.ofNat cs.length))]) (rest := [(.ref a)]) (W := 1) i11_45 (w87 hw) (w88 hw) (w82 hw) (w89 hw) (by decide) pd_23 rfl rfl rfl rfl (by first | decide | (dsimp only; first | decide | omega)) (by first | decide | (dsimp only; first | decide | omega)) (by first | decide | (dsimp only; first | decide | omega)) (by first | decide | (dsimp only; first | decide | omega)) all0 (by decide) (own_cfa l Z a0 hw n0 b_1 _ cs.length cs.length (0 : Int32) (if_pos (Nat.le_refl _)) (by omega) (by omega) _ _ _ A) ?_
    intro v h1 D1 q hsz
    obtain ⟨rfl, rfl, rfl⟩ := q
    show Runs _ _ _ _ _ _ _ _ _ _ _ _ [b_1, a] h_7 2 (0 + (NS + NS)) 48 #[vr a, vr u, vi 0, vi (Int32.ofNat cs.length), .val .null, vr b_1] [(.int 0), (.ref a)]
    have O_8 := (O0.keep K_4 nin0)
    refine Runs.putF (i := 1) (ty := .byte) i11_48 (host := "") (Or.inl (w71 hw)) Via.refl O_8 rfl (lay_0 hw) rfl (Or.inr ⟨(w72 hw), rfl, rfl⟩) (w31 hw) (by decide) rfl rfl ga (Or.inl (mi 1 rfl)) ?_
    intro h_9 K_10 (O_11 : Obj Z h_9 a "java/lang/String" [("java/lang/String", "value", "[B", .null), ("java/lang/String", "coder", "B", (.int 0))])
    refine Runs.aloadN i11_51 rfl rfl ?_
    refine Runs.aload i11_52 rfl rfl ?_
    refine Runs.putF (i := 0) (ty := (.array .byte)) i11_54 (host := "") (Or.inl (w69 hw)) Via.refl O_11 rfl (lay_0 hw) rfl (Or.inr ⟨(w70 hw), rfl, rfl⟩) (w31 hw) (by decide) rfl rfl ga (Or.inl (mi 1 rfl)) ?_
    intro h_12 K_13 (O_14 : Obj Z h_12 a "java/lang/String" [("java/lang/String", "value", "[B", (.ref b_1)), ("java/lang/String", "coder", "B", (.int 0))])
    have A_15 := ((A.keep K_10 (ninS (Nat.ne_of_gt (Nat.lt_of_lt_of_le (Nat.lt_of_lt_of_le O0.lt (Nat.le_refl _)) g_3)) nin0)).keep K_13 (ninS (Nat.ne_of_gt (Nat.lt_of_lt_of_le (Nat.lt_of_lt_of_le O0.lt (Nat.le_refl _)) g_3)) nin0))
    refine Runs.weak (D1 := []) (fun _ q => nomatch q) ?_
    exact Runs.retV i11_57 rfl (by first | decide | (dsimp only; first | decide | omega)) (by first | decide | (dsimp only; first | decide | omega)) ⟨rfl, b_1, k_2, (Nat.le_trans (Nat.le_refl _) g_3), ((((Keep.refl _ _).trans K_4 all0).trans K_10 (allS (Or.inl (mi 0 rfl)) all0)).trans K_13 (allS (Or.inl (mi 0 rfl)) all0)), (Or.inl ⟨O_14, A_15, hl, by omega⟩), ((E_6.keep K_10).keep K_13), rfl⟩
  · skip
    refine Runs.astore (ls' := #[vr a, vr u, vi 0, vi (Int32.ofNat cs.length), .val .null, vr b_1]) i11_39 rfl rfl ?_
    refine Runs.aloadN i11_41 rfl rfl ?_
    refine Runs.aload i11_42 rfl rfl ?_
    refine Runs.iloadN i11_44 rfl ?_
    refine Runs.callSW (argsL := [(.ref b_1), (.int (Int32.ofNat cs.length))]) (rest := [(.ref a)]) (W := 1) i11_45 (w87 hw) (w88 hw) (w82 hw) (w89 hw) (by decide) pd_23 rfl rfl rfl rfl (by first | decide | (dsimp only; first | decide | omega)) (by first | decide | (dsimp only; first | decide | omega)) (by first | decide | (dsimp only; first | decide | omega)) (by first | decide | (dsimp only; first | decide | omega)) all0 (by decide) (own_cfa l Z a0 hw n0 b_1 _ cs.length (2 * cs.length) (1 : Int32) (if_neg (by omega)) (by omega) (by omega) _ _ _ A) ?_
    intro v h1 D1 q hsz
    obtain ⟨rfl, rfl, rfl⟩ := q
    show Runs _ _ _ _ _ _ _ _ _ _ _ _ [b_1, a] h_7 2 (0 + (NS + NS)) 48 #[vr a, vr u, vi 0, vi (Int32.ofNat cs.length), .val .null, vr b_1] [(.int 1), (.ref a)]
    have O_16 := (O0.keep K_4 nin0)
    refine Runs.putF (i := 1) (ty := .byte) i11_48 (host := "") (Or.inl (w71 hw)) Via.refl O_16 rfl (lay_0 hw) rfl (Or.inr ⟨(w72 hw), rfl, rfl⟩) (w31 hw) (by decide) rfl rfl ga (Or.inl (mi 1 rfl)) ?_
    intro h_17 K_18 (O_19 : Obj Z h_17 a "java/lang/String" [("java/lang/String", "value", "[B", .null), ("java/lang/String", "coder", "B", (.int 1))])
    refine Runs.aloadN i11_51 rfl rfl ?_
    refine Runs.aload i11_52 rfl rfl ?_
    refine Runs.putF (i := 0) (ty := (.array .byte)) i11_54 (host := "") (Or.inl (w69 hw)) Via.refl O_19 rfl (lay_0 hw) rfl (Or.inr ⟨(w70 hw), rfl, rfl⟩) (w31 hw) (by decide) rfl rfl ga (Or.inl (mi 1 rfl)) ?_
    intro h_20 K_21 (O_22 : Obj Z h_20 a "java/lang/String" [("java/lang/String", "value", "[B", (.ref b_1)), ("java/lang/String", "coder", "B", (.int 1))])
    have A_23 := ((A.keep K_18 (ninS (Nat.ne_of_gt (Nat.lt_of_lt_of_le (Nat.lt_of_lt_of_le O0.lt (Nat.le_refl _)) g_3)) nin0)).keep K_21 (ninS (Nat.ne_of_gt (Nat.lt_of_lt_of_le (Nat.lt_of_lt_of_le O0.lt (Nat.le_refl _)) g_3)) nin0))
    refine Runs.weak (D1 := []) (fun _ q => nomatch q) ?_
    exact Runs.retV i11_57 rfl (by first | decide | (dsimp only; first | decide | omega)) (by first | decide | (dsimp only; first | decide | omega)) ⟨rfl, b_1, k_2, (Nat.le_trans (Nat.le_refl _) g_3), ((((Keep.refl _ _).trans K_4 all0).trans K_18 (allS (Or.inl (mi 0 rfl)) all0)).trans K_21 (allS (Or.inl (mi 0 rfl)) all0)), (Or.inr ⟨hl, O_22, A_23, hC, by omega⟩), ((E_6.keep K_18).keep K_21), rfl⟩
theorem own_sw (l : Launch) (Z : State) (a0 : Array Value) (hw : Wds Z a0) (n0 : Nat) (a u : Addr) (ku : ClassId) (hua : u ≠ a) (cs : List Int32) (NS : Nat) (hcs : 0 < cs.length ∧ cs.length < 400000) (hNS : 2 * cs.length ≤ NS ∧ NS < 1000000) (hC : Chs cs) (cpt : Int32) (h0 : Heap) (ga : n0 ≤ a) (O0 : Obj Z h0 a "java/lang/String" [("java/lang/String", "value", "[B", .null), ("java/lang/String", "coder", "B", (.int 0))]) (U0 : Arv Z h0 u ku .char (Int32.ofNat cs.length) (cs.map Value.int) (.int 0)) (hn0 : n0 ≤ h0.size) (S_C : SC Z cpt) (hcpt : ¬ cpt = 0) (S_A : SA Z) (S_H : SH Z) (S_L : SL Z) : Con 1 l Z [("java/lang/String", 7)] n0 (⟨"java/lang/String", "<init>", "([C)V"⟩ : MethodName) c10_ 2 none ({ frames := 5, cells := 2, slots := (NS + NS), locals := 81 } : Room) #[(.ref a), (.ref u)] [a] h0 (fun v h D' => v = none ∧ ∃ t k, h0.size ≤ t ∧ Keep h0 h [a] ∧ Sx Z h a t k cs ∧ Exa Z h t "[B" ∧ D' = []) := by
  refine Con.of_runs (ls := #[vr a, vr u]) (by decide +kernel) (fun m => rfl) ?_
  refine Runs.aloadN i10_0 rfl rfl ?_
  refine Runs.aloadN i10_1 rfl rfl ?_
  refine Runs.iconst (v := (0 : Int32)) i10_2 (by decide) ?_
  refine Runs.aloadN i10_3 rfl rfl ?_
  refine Runs.arrlen i10_4 U0 ?_
  refine Runs.aconstNull i10_5 ?_
  refine Runs.callCW (argsL := [(.ref u), (.int 0), (.int (Int32.ofNat cs.length)), .null]) (rest := []) (W := 0) i10_6 rfl (w77 hw) (w78 hw) (w79 hw) (w32 hw) (by decide) pd_24 rfl rfl rfl rfl (by first | decide | (dsimp only; first | decide | omega)) (by first | decide | (dsimp only; first | decide | omega)) (by first | decide | (dsimp only; first | decide | omega)) (by first | decide | (dsimp only; first | decide | omega)) (allS (mi 0 rfl) all0) (by decide) (own_swi l Z a0 hw n0 a u ku hua cs NS hcs hNS hC cpt _ ga O0 U0 hn0 S_C hcpt S_A S_H S_L) ?_
  intro v h1 D1 q hsz
  obtain ⟨rfl, t1, k1, g1, K1, S1, E1, rfl⟩ := q
  show Runs _ _ _ _ _ _ _ _ _ _ _ _ [a] h1 2 (0 + (NS + NS)) 9 #[vr a, vr u] []
  refine Runs.weak (D1 := []) (fun _ q => nomatch q) ?_
  exact Runs.retV i10_9 rfl (by first | decide | (dsimp only; first | decide | omega)) (by first | decide | (dsimp only; first | decide | omega)) ⟨rfl, t1, k1, g1, K1, S1, E1, rfl⟩
theorem own_si4_0 (l : Launch) (Z : State) (a0 : Array Value) (hw : Wds Z a0) (n0 : Nat) (a u : Addr) (h0 : Heap) (ga : n0 ≤ a) (O0 : Obj Z h0 a "java/lang/String" [("java/lang/String", "value", "[B", .null), ("java/lang/String", "coder", "B", (.int 0))]) : Con 1 l Z [("java/lang/String", 7)] n0 (⟨"java/lang/String", "<init>", "([CIILjava/lang/Void;)V"⟩ : MethodName) c11_ 6 none ({ frames := 1, cells := 4, slots := 8, locals := 12 } : Room) #[(.ref a), (.ref u), (.int 0), (.int 0), .null] [a] h0 (fun v h D' => v = none ∧ ∃ t k, Keep h0 h [a] ∧ Obj Z h a "java/lang/String" [("java/lang/String", "value", "[B", (.ref t)), ("java/lang/String", "coder", "B", (.int 0))] ∧ Arv Z h t k .byte (0 : Int32) [] (.int 0) ∧ D' = []) := by
  refine Con.of_runs (ls := #[vr a, vr u, vi 0, vi 0, .val .null, .unset]) (by decide +kernel) (fun m => rfl) ?_
  refine Runs.aloadN i11_0 rfl rfl ?_
  refine Runs.initO (W := 0) i11_1 (w48 hw) (w17 hw) (w18 hw) rfl (by decide) rfl (by decide) ?_
  refine Runs.iloadN i11_4 rfl ?_
  refine Runs.ifN i11_5 (teq (by decide : (0 : Int32) = (0 : Int32))).2 ?_
  refine Runs.aloadN i11_8 rfl rfl ?_
  refine Runs.ldcT (vs := []) (z := (0 : Int32)) (n := 0) (by decide) i11_9 (hw _ (mi 182 rfl)) (own_sa hw) (own_EW hw) (mi 0 rfl) ⟨by decide, by decide⟩ (by decide) (by decide) (by decide) (by decide) (by decide) (by decide) ?_
  intro h_1 s_2 t_3 k_4 K_5 O_6 A_7 dd_8
  show Runs _ _ _ _ _ _ _ _ _ _ _ _ [a] h_1 2 4 11 #[vr a, vr u, vi 0, vi 0, .val .null, .unset] [(.ref s_2), (.ref a)]
  refine Runs.getF i11_11 (host := "") (Or.inl (w69 hw)) Via.refl (O_6.fld (i := 0) rfl) ?_
  have O_9 := (O0.keep K_5 nin0)
  refine Runs.putF (i := 0) (ty := (.array .byte)) i11_14 (host := "") (Or.inl (w69 hw)) Via.refl O_9 rfl (lay_0 hw) rfl (Or.inr ⟨(w70 hw), rfl, rfl⟩) (w31 hw) (by decide) rfl rfl ga (Or.inl (mi 0 rfl)) ?_
  intro h_10 K_11 (O_12 : Obj Z h_10 a "java/lang/String" [("java/lang/String", "value", "[B", (.ref t_3)), ("java/lang/String", "coder", "B", (.int 0))])
  refine Runs.aloadN i11_17 rfl rfl ?_
  refine Runs.ldcT (vs := []) (z := (0 : Int32)) (n := 0) (by decide) i11_18 (hw _ (mi 182 rfl)) (own_sa hw) (own_EW hw) (mi 0 rfl) ⟨by decide, by decide⟩ (by decide) (by decide) (by decide) (by decide) (by decide) (by decide) ?_
  intro h_13 s_14 t_15 k_16 K_17 O_18 A_19 dd_20
  show Runs _ _ _ _ _ _ _ _ _ _ _ _ [a] h_13 4 8 20 #[vr a, vr u, vi 0, vi 0, .val .null, .unset] [(.ref s_14), (.ref a)]
  refine Runs.getF i11_20 (host := "") (Or.inl (w71 hw)) Via.refl (O_18.fld (i := 1) rfl) ?_
  have O_21 := (O_12.keep K_17 nin0)
  refine Runs.putF (i := 1) (ty := .byte) i11_23 (host := "") (Or.inl (w71 hw)) Via.refl O_21 rfl (lay_0 hw) rfl (Or.inr ⟨(w72 hw), rfl, rfl⟩) (w31 hw) (by decide) rfl rfl ga (Or.inl (mi 0 rfl)) ?_
  intro h_22 K_23 (O_24 : Obj Z h_22 a "java/lang/String" [("java/lang/String", "value", "[B", (.ref t_3)), ("java/lang/String", "coder", "B", (.int 0))])
  have A_25 := (((A_7.keep K_11 (ninS (Ne.symm (dd_8 _ (mi 0 rfl)).2) nin0)).keep K_17 nin0).keep K_23 (ninS (Ne.symm (dd_8 _ (mi 0 rfl)).2) nin0))
  refine Runs.weak (D1 := []) (fun _ q => nomatch q) ?_
  exact Runs.retV i11_26 rfl (by decide) (by decide) ⟨rfl, t_3, k_4, (((((Keep.refl _ _).trans K_5 all0).trans K_11 (allS (Or.inl (mi 0 rfl)) all0)).trans K_17 all0).trans K_23 (allS (Or.inl (mi 0 rfl)) all0)), O_24, A_25, rfl⟩
theorem own_si_0 (l : Launch) (Z : State) (a0 : Array Value) (hw : Wds Z a0) (n0 : Nat) (a u : Addr) (ku : ClassId) (h0 : Heap) (ga : n0 ≤ a) (O0 : Obj Z h0 a "java/lang/String" [("java/lang/String", "value", "[B", .null), ("java/lang/String", "coder", "B", (.int 0))]) (U0 : Arv Z h0 u ku .char (0 : Int32) [] (.int 0)) : Con 1 l Z [("java/lang/String", 7)] n0 (⟨"java/lang/String", "<init>", "([C)V"⟩ : MethodName) c10_ 2 none ({ frames := 2, cells := 4, slots := 8, locals := 29 } : Room) #[(.ref a), (.ref u)] [a] h0 (fun v h D' => v = none ∧ ∃ t k, Keep h0 h [a] ∧ Obj Z h a "java/lang/String" [("java/lang/String", "value", "[B", (.ref t)), ("java/lang/String", "coder", "B", (.int 0))] ∧ Arv Z h t k .byte (0 : Int32) [] (.int 0) ∧ D' = []) := by
  refine Con.of_runs (ls := #[vr a, vr u]) (by decide +kernel) (fun m => rfl) ?_
  refine Runs.aloadN i10_0 rfl rfl ?_
  refine Runs.aloadN i10_1 rfl rfl ?_
  refine Runs.iconst (v := (0 : Int32)) i10_2 (by decide) ?_
  refine Runs.aloadN i10_3 rfl rfl ?_
  refine Runs.arrlen i10_4 U0 ?_
  refine Runs.aconstNull i10_5 ?_
  refine Runs.callCW (argsL := [(.ref u), (.int 0), (.int 0), .null]) (rest := []) (W := 0) i10_6 rfl (w77 hw) (w78 hw) (w79 hw) (w32 hw) (by decide) pd_24 rfl rfl rfl rfl (by decide) (by decide) (by decide) (by decide) (allS (mi 0 rfl) all0) (by decide) (own_si4_0 l Z a0 hw n0 a u _ ga O0) ?_
  intro v h_6 D1 q hsz
  obtain ⟨rfl, t_1, k_2, K_3, O_4, A_5, rfl⟩ := q
  show Runs _ _ _ _ _ _ _ _ _ _ _ _ [a] h_6 4 8 9 #[vr a, vr u] []
  refine Runs.weak (D1 := []) (fun _ q => nomatch q) ?_
  exact Runs.retV i10_9 rfl (by decide) (by decide) ⟨rfl, t_1, k_2, K_3, O_4, A_5, rfl⟩
theorem own_eql (l : Launch) (Z : State) (a0 : Array Value) (hw : Wds Z a0) (n0 : Nat) (xs ys : List Int32) (hx : xs.length < 2147483647) (hy : ys.length < 2147483647) (t u : Addr) (k k2 : ClassId) (h0 : Heap) (X0 : Arv Z h0 t k .byte (Int32.ofNat xs.length) (xs.map Value.int) (.int 0)) (Y0 : Arv Z h0 u k2 .byte (Int32.ofNat ys.length) (ys.map Value.int) (.int 0)) (hl : xs.length = ys.length) (d : Nat) : ∀ i : Nat, d + i = ys.length → xs.take i = ys.take i → Runs 1 l Z [("java/lang/String", 7)] n0 "java/lang/StringLatin1" "equals" c16_ 3 (some .boolean) ({ frames := 0, cells := 0, slots := 0, locals := 0 } : Room) (fun v h D' => v = some (.int (if xs = ys then 1 else 0)) ∧ h0 = h ∧ D' = []) [] h0 0 0 9 #[vr t, vr u, vi (Int32.ofNat i)] [] := by
  induction d with
  | zero =>
    intro i hd hp
    refine Runs.iloadN i16_9 rfl ?_
    refine Runs.aloadN i16_10 rfl rfl ?_
    refine Runs.arrlen i16_11 X0 ?_
    refine Runs.icY (t := 32) i16_12 (by decide) (flt (own_nlt (by omega) (by omega))).2.1 ?_
    refine Runs.iconst (v := (1 : Int32)) i16_32 (by decide) ?_
    exact Runs.retI (z := (1 : Int32)) i16_33 rfl (Or.inr (Or.inl rfl)) (by decide) (by decide) (by decide) ⟨by rw [if_pos (own_all hl (by omega) hp)], rfl, rfl⟩
  | succ d ih =>
    intro i hd hp
    refine Runs.iloadN i16_9 rfl ?_
    refine Runs.aloadN i16_10 rfl rfl ?_
    refine Runs.arrlen i16_11 X0 ?_
    refine Runs.icN i16_12 (tlt (own_lt (by omega) (by omega))).2.1 ?_
    refine Runs.aloadN i16_15 rfl rfl ?_
    refine Runs.iloadN i16_16 rfl ?_
    refine Runs.baload (v := .int (xs.getD i 0)) i16_17 X0 ⟨own_nn (by omega), own_lt (by omega) (by omega)⟩ (by rw [own_cl (by omega)]; exact own_getb _ _) ?_
    refine Runs.aloadN i16_18 rfl rfl ?_
    refine Runs.iloadN i16_19 rfl ?_
    refine Runs.baload (v := .int (ys.getD i 0)) i16_20 Y0 ⟨own_nn (by omega), own_lt (by omega) (by omega)⟩ (by rw [own_cl (by omega)]; exact own_getb _ _) ?_
    by_cases hc21 : (xs.getD i 0) = (ys.getD i 0)
    · refine Runs.icY (t := 26) i16_21 (by decide) (teq hc21).1 ?_
      refine Runs.iinc (z := Int32.ofNat (i + 1)) (ls' := #[vr t, vr u, vi (Int32.ofNat (i + 1))]) i16_26 rfl (own_add (b := 1) (by omega)) rfl ?_
      refine Runs.goto (t := 9) i16_29 (by decide) ?_
      exact ih (i + 1) (by omega) (own_take hp hc21 (by omega) (by omega))
    · refine Runs.icN i16_21 (feq hc21).1 ?_
      refine Runs.iconst (v := (0 : Int32)) i16_24 (by decide) ?_
      exact Runs.retI (z := (0 : Int32)) i16_25 rfl (Or.inr (Or.inl rfl)) (by decide) (by decide) (by decide) ⟨by rw [if_neg (own_drop hc21)], rfl, rfl⟩
theorem own_eqB (l : Launch) (Z : State) (a0 : Array Value) (hw : Wds Z a0) (n0 : Nat) (xs ys : List Int32) (hx : xs.length < 2147483647) (hy : ys.length < 2147483647) (t u : Addr) (k k2 : ClassId) (h0 : Heap) (X0 : Arv Z h0 t k .byte (Int32.ofNat xs.length) (xs.map Value.int) (.int 0)) (Y0 : Arv Z h0 u k2 .byte (Int32.ofNat ys.length) (ys.map Value.int) (.int 0)) : Con 1 l Z [("java/lang/String", 7)] n0 (⟨"java/lang/StringLatin1", "equals", "([B[B)Z"⟩ : MethodName) c16_ 3 (some .boolean) ({ frames := 0, cells := 0, slots := 0, locals := 0 } : Room) #[(.ref t), (.ref u)] [] h0 (fun v h D' => v = some (.int (if xs = ys then 1 else 0)) ∧ h0 = h ∧ D' = []) := by
  refine Con.of_runs (ls := #[vr t, vr u, .unset]) (by decide +kernel) (fun m => rfl) ?_
  refine Runs.aloadN i16_0 rfl rfl ?_
  refine Runs.arrlen i16_1 X0 ?_
  refine Runs.aloadN i16_2 rfl rfl ?_
  refine Runs.arrlen i16_3 Y0 ?_
  by_cases hc4 : (Int32.ofNat xs.length) = (Int32.ofNat ys.length)
  · refine Runs.icN i16_4 (teq hc4).2 ?_
    have hl : xs.length = ys.length := (own_inj (by omega) (by omega)).mp hc4
    refine Runs.iconst (v := (0 : Int32)) i16_7 (by decide) ?_
    refine Runs.istoreN (ls' := #[vr t, vr u, vi 0]) i16_8 rfl ?_
    exact own_eql l Z a0 hw n0 xs ys hx hy t u k k2 h0 X0 Y0 hl ys.length 0 (by omega) rfl
  · refine Runs.icY (t := 34) i16_4 (by decide) (feq hc4).2 ?_
    refine Runs.iconst (v := (0 : Int32)) i16_34 (by decide) ?_
    exact Runs.retI (z := (0 : Int32)) i16_35 rfl (Or.inr (Or.inl rfl)) (by decide) (by decide) (by decide) ⟨by rw [if_neg (fun q => hc4 (by rw [q]))], rfl, rfl⟩
theorem own_eqS (l : Launch) (Z : State) (a0 : Array Value) (hw : Wds Z a0) (n0 : Nat) (a b t u : Addr) (k k2 : ClassId) (cs ds : List Int32) (cpt : Int32) (h0 : Heap) (hab : ¬ a = b) (S1 : Str Z h0 a t k cs) (S2 : Str Z h0 b u k2 ds) (S_C : SC Z cpt) (hcpt : ¬ cpt = 0) : Con 1 l Z [("java/lang/String", 7)] n0 (⟨"java/lang/String", "equals", "(Ljava/lang/Object;)Z"⟩ : MethodName) c15_ 3 (some .boolean) ({ frames := 1, cells := 0, slots := 0, locals := 14 } : Room) #[(.ref a), (.ref b)] [] h0 (fun v h D' => v = some (.int (if cs = ds then 1 else 0)) ∧ h0 = h ∧ D' = []) := by
  refine Con.of_runs (ls := #[vr a, vr b, .unset]) (by decide +kernel) (fun m => rfl) ?_
  refine Runs.aloadN i15_0 rfl rfl ?_
  refine Runs.aloadN i15_1 rfl rfl ?_
  refine Runs.acY (t := 7) i15_2 (by decide) rfl rfl (Jvm.Free.XT.aa_ne_t (fun q => hab (Value.ref.inj q))) ?_
  refine Runs.aloadN i15_7 rfl rfl ?_
  refine Runs.instY i15_8 (w95 hw) (Jvm.RoadKit.Ins.self S2.1.1) ?_
  refine Runs.ifN i15_11 (feq (by decide : ¬ ((1 : Int32) = (0 : Int32)))).1 ?_
  refine Runs.aloadN i15_14 rfl rfl ?_
  refine Runs.castY i15_15 (w95 hw) (Jvm.RoadKit.Ins.self S2.1.1) ?_
  refine Runs.astoreN (ls' := #[vr a, vr b, vr b]) i15_18 rfl rfl ?_
  refine Runs.getS i15_19 (w51 hw) Via.refl S_C ?_
  refine Runs.ifN i15_22 (feq hcpt).1 ?_
  refine Runs.aloadN i15_25 rfl rfl ?_
  refine Runs.getF i15_26 (host := "") (Or.inl (w71 hw)) Via.refl (S1.1.fld (i := 1) rfl) ?_
  refine Runs.aloadN i15_29 rfl rfl ?_
  refine Runs.getF i15_30 (host := "") (Or.inl (w71 hw)) Via.refl (S2.1.fld (i := 1) rfl) ?_
  refine Runs.icN i15_33 (teq (by decide : (0 : Int32) = (0 : Int32))).2 ?_
  refine Runs.aloadN i15_36 rfl rfl ?_
  refine Runs.getF i15_37 (host := "") (Or.inl (w69 hw)) Via.refl (S1.1.fld (i := 0) rfl) ?_
  refine Runs.aloadN i15_40 rfl rfl ?_
  refine Runs.getF i15_41 (host := "") (Or.inl (w69 hw)) Via.refl (S2.1.fld (i := 0) rfl) ?_
  refine Runs.callSW (argsL := [(.ref t), (.ref u)]) (rest := []) (W := 0) i15_44 (w96 hw) (w97 hw) (w98 hw) (w99 hw) (by decide) pd_25 rfl rfl rfl rfl (by decide) (by decide) (by decide) (by decide) all0 (by decide) (own_eqB l Z a0 hw n0 (cs.map fun c => (Int32.toInt8 c).toInt32) (ds.map fun c => (Int32.toInt8 c).toInt32) (by rw [List.length_map]; have := S1.2.2.2; omega) (by rw [List.length_map]; have := S2.2.2.2; omega) t u k k2 _ (by rw [List.length_map, ← own_mapb]; exact S1.2.1) (by rw [List.length_map, ← own_mapb]; exact S2.2.1)) ?_
  simp only [own_bmap S1.2.2.1 S2.2.2.1]
  intro v h1 D1 q hsz
  obtain ⟨rfl, rfl, rfl⟩ := q
  show Runs _ _ _ _ _ _ _ _ _ _ _ _ [] h0 0 0 47 #[vr a, vr b, vr b] [(.int (if cs = ds then 1 else 0))]
  by_cases hq : cs = ds
  · rw [if_pos hq]
    refine Runs.ifN i15_47 (by decide) ?_
    refine Runs.iconst (v := (1 : Int32)) i15_50 (by decide) ?_
    refine Runs.goto (t := 55) i15_51 (by decide) ?_
    exact Runs.retI (z := (1 : Int32)) i15_55 rfl (Or.inr (Or.inl rfl)) (by decide) (by decide) (by decide) ⟨by simp [hq], rfl, rfl⟩
  · rw [if_neg hq]
    refine Runs.ifY (t := 54) i15_47 (by decide) (by decide) ?_
    refine Runs.iconst (v := (0 : Int32)) i15_54 (by decide) ?_
    exact Runs.retI (z := (0 : Int32)) i15_55 rfl (Or.inr (Or.inl rfl)) (by decide) (by decide) (by decide) ⟨by simp [hq], rfl, rfl⟩
theorem own_rnn (l : Launch) (Z : State) (a0 : Array Value) (hw : Wds Z a0) (n0 : Nat) (a : Addr) (h0 : Heap) : Con 1 l Z [("java/lang/String", 7)] n0 (⟨"java/util/Objects", "requireNonNull", "(Ljava/lang/Object;)Ljava/lang/Object;"⟩ : MethodName) c6_ 1 (some (.object "java/lang/Object")) ({ frames := 0, cells := 0, slots := 0, locals := 0 } : Room) #[(.ref a)] [] h0 (fun v h D' => v = some (.ref a) ∧ h0 = h ∧ D' = []) := by
  refine Con.of_runs (ls := #[vr a]) (by decide +kernel) (fun m => rfl) ?_
  refine Runs.aloadN i6_0 rfl rfl ?_
  refine Runs.nnullY (t := 12) i6_1 (by decide) ?_
  refine Runs.aloadN i6_12 rfl rfl ?_
  exact Runs.retA i6_13 rfl rfl rfl (by decide) (by decide) ⟨rfl, rfl, rfl⟩
theorem own_sbc (l : Launch) (Z : State) (a0 : Array Value) (hw : Wds Z a0) (n0 : Nat) (a u u8 : Addr) (ku : ClassId) (n : Nat) (vs : List Value) (cs : List Int32) (h0 : Heap) (U0 : Arv Z h0 u ku .byte (Int32.ofNat n) vs (.int 0)) (E8 : Exa Z Z.heap u8 "sun/nio/cs/UTF_8") (H : ConH 1 l Z [("java/lang/String", 7)] n0 (⟨"java/lang/String", "<init>", "(Ljava/nio/charset/Charset;[BII)V"⟩ : MethodName) c7_ 11 none [((800 : Nat), (813 : Nat), (816 : Nat), (202 : Nat))] ({ frames := 5, cells := 4, slots := 48, locals := 83 } : Room) #[.ref a, .ref u8, .ref u, .int 0, .int (Int32.ofNat n)] [a] h0 (fun v h D' => v = none ∧ ∃ t k, Keep h0 h [a] ∧ Sx Z h a t k cs ∧ D' = [])) : Con 1 l Z [("java/lang/String", 7)] n0 (⟨"java/lang/String", "<init>", "([BLjava/nio/charset/Charset;)V"⟩ : MethodName) c5_ 3 none ({ frames := 6, cells := 4, slots := 48, locals := 105 } : Room) #[(.ref a), (.ref u), (.ref u8)] [a] h0 (fun v h D' => v = none ∧ ∃ t k, Keep h0 h [a] ∧ Sx Z h a t k cs ∧ D' = []) := by
  refine Con.of_runs (ls := #[vr a, vr u, vr u8]) (by decide +kernel) (fun m => rfl) ?_
  refine Runs.aloadN i5_0 rfl rfl ?_
  refine Runs.aloadN i5_1 rfl rfl ?_
  refine Runs.callSW (argsL := [(.ref u8)]) (rest := [(.ref a)]) (W := 1) i5_2 (w38 hw) (w39 hw) (w40 hw) (w41 hw) (by decide) pd_26 rfl rfl rfl rfl (by first | decide | (dsimp only; first | decide | omega)) (by first | decide | (dsimp only; first | decide | omega)) (by first | decide | (dsimp only; first | decide | omega)) (by first | decide | (dsimp only; first | decide | omega)) all0 (by decide) (own_rnn l Z a0 hw n0 u8 _) ?_
  intro v h1 D1 q hsz
  obtain ⟨rfl, rfl, rfl⟩ := q
  show Runs _ _ _ _ _ _ _ _ _ _ _ _ [a] h0 0 0 5 #[vr a, vr u, vr u8] [(.ref u8), (.ref a)]
  refine Runs.old fun O => ?_
  refine Runs.castY i5_5 (w42 hw) (Jvm.RoadKit.Ins.of_exa (Exa.ext O.2 E8) (w43 hw)) ?_
  refine Runs.aloadN i5_8 rfl rfl ?_
  refine Runs.iconst (v := (0 : Int32)) i5_9 (by decide) ?_
  refine Runs.aloadN i5_10 rfl rfl ?_
  refine Runs.arrlen i5_11 U0 ?_
  refine Runs.callCH (argsL := [(.ref u8), (.ref u), (.int 0), (.int (Int32.ofNat n))]) (rest := []) (W := 0) i5_12 rfl (w44 hw) (w45 hw) (w47 hw) (w32 hw) (by decide) pd_27 rfl rfl rfl rfl (by first | decide | (dsimp only; first | decide | omega)) (by first | decide | (dsimp only; first | decide | omega)) (by first | decide | (dsimp only; first | decide | omega)) (by first | decide | (dsimp only; first | decide | omega)) (allS (mi 0 rfl) all0) (by decide) H ?_
  intro v h1 D1 q hsz
  obtain ⟨rfl, t1, k1, K1, S1, rfl⟩ := q
  show Runs _ _ _ _ _ _ _ _ _ _ _ _ [a] h1 4 48 15 #[vr a, vr u, vr u8] []
  refine Runs.weak (D1 := []) (fun _ q => nomatch q) ?_
  exact Runs.retV i5_15 rfl (by first | decide | (dsimp only; first | decide | omega)) (by first | decide | (dsimp only; first | decide | omega)) ⟨rfl, t1, k1, K1, S1, rfl⟩
theorem own_cR (l : Launch) (Z : State) (a0 : Array Value) (hw : Wds Z a0) (n0 : Nat) (a : Addr) (h0 : Heap) : Con 1 l Z [("java/lang/String", 7)] n0 (⟨"java/lang/Record", "<init>", "()V"⟩ : MethodName) c2_ 1 none ({ frames := 1, cells := 0, slots := 0, locals := 12 } : Room) #[(.ref a)] [] h0 (fun v h D' => v = none ∧ h0 = h ∧ D' = []) := by
  refine Con.of_runs (ls := #[vr a]) (by decide +kernel) (fun m => rfl) ?_
  refine Runs.aloadN i2_0 rfl rfl ?_
  refine Runs.initO (W := 0) i2_1 (w16 hw) (w17 hw) (w18 hw) rfl (by decide) rfl (by decide) ?_
  exact Runs.retV i2_4 rfl (by decide) (by decide) ⟨rfl, rfl, rfl⟩
theorem own_cI (l : Launch) (Z : State) (a0 : Array Value) (hw : Wds Z a0) (n0 : Nat) (a u : Addr) (h0 : Heap) (ga : n0 ≤ a) (O0 : Obj Z h0 a "com/example/gatewarden/gatewarden/bench/HttpConnections$Response" [("com/example/gatewarden/gatewarden/bench/HttpConnections$Response", "status", "I", (.int 0)), ("com/example/gatewarden/gatewarden/bench/HttpConnections$Response", "headers", "Ljava/util/Map;", .null), ("com/example/gatewarden/gatewarden/bench/HttpConnections$Response", "body", "[B", .null)]) : Con 1 l Z [("java/lang/String", 7)] n0 (⟨"com/example/gatewarden/gatewarden/bench/HttpConnections$Response", "<init>", "(ILjava/util/Map;[B)V"⟩ : MethodName) c1_ 4 none ({ frames := 2, cells := 0, slots := 0, locals := 24 } : Room) #[(.ref a), (.int 200), .null, (.ref u)] [] h0 (fun v h D' => v = none ∧ Keep h0 h [a] ∧ Obj Z h a "com/example/gatewarden/gatewarden/bench/HttpConnections$Response" [("com/example/gatewarden/gatewarden/bench/HttpConnections$Response", "status", "I", (.int 200)), ("com/example/gatewarden/gatewarden/bench/HttpConnections$Response", "headers", "Ljava/util/Map;", .null), ("com/example/gatewarden/gatewarden/bench/HttpConnections$Response", "body", "[B", (.ref u))] ∧ D' = []) := by
  refine Con.of_runs (ls := #[vr a, vi 200, .val .null, vr u]) (by decide +kernel) (fun m => rfl) ?_
  refine Runs.aloadN i1_0 rfl rfl ?_
  refine Runs.callCW (argsL := []) (rest := []) (W := 0) i1_1 rfl (w11 hw) (w12 hw) (w15 hw) (w14 hw) (by decide) pd_28 rfl rfl rfl rfl (by decide) (by decide) (by decide) (by decide) all0 (by decide) (own_cR l Z a0 hw n0 a _) ?_
  intro v h1 D1 q hsz
  obtain ⟨rfl, rfl, rfl⟩ := q
  show Runs _ _ _ _ _ _ _ _ _ _ _ _ [] h0 0 0 4 #[vr a, vi 200, .val .null, vr u] []
  refine Runs.aloadN i1_4 rfl rfl ?_
  refine Runs.iloadN i1_5 rfl ?_
  refine Runs.putF (i := 0) (ty := .int) i1_6 (host := "") (Or.inl (w19 hw)) Via.refl O0 rfl (lay_1 hw) rfl (Or.inr ⟨(w20 hw), rfl, rfl⟩) (w6 hw) (by decide) rfl rfl ga (Or.inr ⟨by decide, by decide⟩) ?_
  intro h_1 K_2 (O_3 : Obj Z h_1 a "com/example/gatewarden/gatewarden/bench/HttpConnections$Response" [("com/example/gatewarden/gatewarden/bench/HttpConnections$Response", "status", "I", (.int 200)), ("com/example/gatewarden/gatewarden/bench/HttpConnections$Response", "headers", "Ljava/util/Map;", .null), ("com/example/gatewarden/gatewarden/bench/HttpConnections$Response", "body", "[B", .null)])
  refine Runs.aloadN i1_9 rfl rfl ?_
  refine Runs.aloadN i1_10 rfl rfl ?_
  refine Runs.putF (i := 1) (ty := (.object "java/util/Map")) i1_11 (host := "") (Or.inl (w21 hw)) Via.refl O_3 rfl (lay_1 hw) rfl (Or.inr ⟨(w22 hw), rfl, rfl⟩) (w6 hw) (by decide) rfl rfl ga (Or.inr ⟨by decide, by decide⟩) ?_
  intro h_4 K_5 (O_6 : Obj Z h_4 a "com/example/gatewarden/gatewarden/bench/HttpConnections$Response" [("com/example/gatewarden/gatewarden/bench/HttpConnections$Response", "status", "I", (.int 200)), ("com/example/gatewarden/gatewarden/bench/HttpConnections$Response", "headers", "Ljava/util/Map;", .null), ("com/example/gatewarden/gatewarden/bench/HttpConnections$Response", "body", "[B", .null)])
  refine Runs.aloadN i1_14 rfl rfl ?_
  refine Runs.aloadN i1_15 rfl rfl ?_
  refine Runs.putF (i := 2) (ty := (.array .byte)) i1_16 (host := "") (Or.inl (w23 hw)) Via.refl O_6 rfl (lay_1 hw) rfl (Or.inr ⟨(w24 hw), rfl, rfl⟩) (w6 hw) (by decide) rfl rfl ga (Or.inr ⟨by decide, by decide⟩) ?_
  intro h_7 K_8 (O_9 : Obj Z h_7 a "com/example/gatewarden/gatewarden/bench/HttpConnections$Response" [("com/example/gatewarden/gatewarden/bench/HttpConnections$Response", "status", "I", (.int 200)), ("com/example/gatewarden/gatewarden/bench/HttpConnections$Response", "headers", "Ljava/util/Map;", .null), ("com/example/gatewarden/gatewarden/bench/HttpConnections$Response", "body", "[B", (.ref u))])
  exact Runs.retV i1_19 rfl (by decide) (by decide) ⟨rfl, ((((Keep.refl _ _).trans K_2 (allS (Or.inl (mi 0 rfl)) all0)).trans K_5 (allS (Or.inl (mi 0 rfl)) all0)).trans K_8 (allS (Or.inl (mi 0 rfl)) all0)), O_9, rfl⟩
theorem own_txt (l : Launch) (Z : State) (a0 : Array Value) (hw : Wds Z a0) (n0 : Nat) (r u u8 : Addr) (ku : ClassId) (n : Nat) (vs : List Value) (cs : List Int32) (h0 : Heap) (R0 : Obj Z h0 r "com/example/gatewarden/gatewarden/bench/HttpConnections$Response" [("com/example/gatewarden/gatewarden/bench/HttpConnections$Response", "status", "I", (.int 200)), ("com/example/gatewarden/gatewarden/bench/HttpConnections$Response", "headers", "Ljava/util/Map;", .null), ("com/example/gatewarden/gatewarden/bench/HttpConnections$Response", "body", "[B", (.ref u))]) (U0 : Arv Z h0 u ku .byte (Int32.ofNat n) vs (.int 0)) (E0 : Exa Z h0 u "[B") (E8 : Exa Z Z.heap u8 "sun/nio/cs/UTF_8") (S_8 : Sta Z Z.heap "java/nio/charset/StandardCharsets" "UTF_8" "Ljava/nio/charset/Charset;" (.ref u8)) (HC : ∀ (a : Addr) (h1 : Heap), n0 ≤ a → u ≠ a → Obj Z h1 a "java/lang/String" [("java/lang/String", "value", "[B", .null), ("java/lang/String", "coder", "B", (.int 0))] → Arv Z h1 u ku .byte (Int32.ofNat n) vs (.int 0) → Exa Z h1 u "[B" → n0 ≤ h1.size → ConH 1 l Z [("java/lang/String", 7)] n0 (⟨"java/lang/String", "<init>", "(Ljava/nio/charset/Charset;[BII)V"⟩ : MethodName) c7_ 11 none [((800 : Nat), (813 : Nat), (816 : Nat), (202 : Nat))] ({ frames := 5, cells := 4, slots := 48, locals := 83 } : Room) #[.ref a, .ref u8, .ref u, .int 0, .int (Int32.ofNat n)] [a] h1 (fun v h D' => v = none ∧ ∃ t k, Keep h1 h [a] ∧ Sx Z h a t k cs ∧ D' = [])) : Con 1 l Z [("java/lang/String", 7)] n0 (⟨"com/example/gatewarden/gatewarden/bench/HttpConnections$Response", "text", "()Ljava/lang/String;"⟩ : MethodName) c4_ 1 (some (.object "java/lang/String")) ({ frames := 7, cells := 5, slots := 52, locals := 120 } : Room) #[(.ref r)] [] h0 (fun v h D' => ∃ b t k, v = some (.ref b) ∧ h0.size ≤ b ∧ Keep h0 h [] ∧ Sx Z h b t k cs ∧ D' = []) := by
  refine Con.of_runs (ls := #[vr r]) (by decide +kernel) (fun m => rfl) ?_
  refine Runs.newO i4_0 (w30 hw) (w31 hw) (w32 hw) (lay_0 hw) (by first | decide | (dsimp only; first | decide | omega)) (by first | decide | (dsimp only; first | decide | omega)) ?_
  intro h_1 b_2 g_5 ge_6 K_3 (O_4 : Obj Z h_1 b_2 "java/lang/String" [("java/lang/String", "value", "[B", .null), ("java/lang/String", "coder", "B", (.int 0))]) U_7
  refine Runs.dup i4_3 rfl ?_
  refine Runs.aloadN i4_4 rfl rfl ?_
  have O_8 := (R0.keep K_3 nin0)
  refine Runs.getF i4_5 (host := "") (Or.inl (w23 hw)) Via.refl (O_8.fld (i := 2) rfl) ?_
  refine Runs.getS i4_8 (w33 hw) Via.refl S_8 ?_
  have A_9 := (U0.keep K_3 nin0)
  have Hc := own_sbc l Z a0 hw n0 b_2 u u8 ku n vs cs _ A_9 E8 (HC b_2 _ ge_6 (Nat.ne_of_lt (Nat.lt_of_lt_of_le (Nat.lt_of_lt_of_le U0.lt (Nat.le_refl _)) g_5)) O_4 A_9 (E0.keep K_3) (Nat.le_trans ge_6 (Nat.le_of_lt O_4.lt)))
  refine Runs.callCW (argsL := [(.ref u), (.ref u8)]) (rest := [(.ref b_2)]) (W := 1) i4_11 rfl (w35 hw) (w36 hw) (w37 hw) (w32 hw) (by decide) pd_29 rfl rfl rfl rfl (by first | decide | (dsimp only; first | decide | omega)) (by first | decide | (dsimp only; first | decide | omega)) (by first | decide | (dsimp only; first | decide | omega)) (by first | decide | (dsimp only; first | decide | omega)) (allS (mi 0 rfl) all0) (by decide) Hc ?_
  intro v h1 D1 q hsz
  obtain ⟨rfl, t1, k1, K1, S1, rfl⟩ := q
  show Runs _ _ _ _ _ _ _ _ _ _ _ _ [b_2] h1 5 52 14 #[vr r] [(.ref b_2)]
  refine Runs.weak (D1 := []) (fun _ q => nomatch q) ?_
  exact Runs.retA i4_14 rfl rfl rfl (by first | decide | (dsimp only; first | decide | omega)) (by first | decide | (dsimp only; first | decide | omega)) ⟨b_2, t1, k1, rfl, g_5, (((Keep.refl _ _).trans K_3 all0).trans K1 (allS (Or.inr (Nat.le_trans (Nat.le_refl _) g_5)) all0)), S1, rfl⟩
def own_wl (cs : List Int32) : List Int32 := cs.flatMap fun c => [own_lo c, own_hi c]
theorem own_wlw (cs : List Int32) : own_ws cs = (own_wl cs).map Value.int := by unfold own_ws own_wl own_w; rw [List.map_flatMap]; rfl
theorem own_wll (cs : List Int32) : (own_wl cs).length = 2 * cs.length := by rw [← own_wsl, own_wlw, List.length_map]
theorem own_eqw (l : Launch) (Z : State) (a0 : Array Value) (hw : Wds Z a0) (n0 : Nat) (a b t u : Addr) (k k2 : ClassId) (cs : List Int32) (cpt : Int32) (h0 : Heap) (hab : ¬ a = b) (S1 : Stw Z h0 a t k cs) (S2 : Stw Z h0 b u k2 cs) (S_C : SC Z cpt) (hcpt : ¬ cpt = 0) : Con 1 l Z [("java/lang/String", 7)] n0 (⟨"java/lang/String", "equals", "(Ljava/lang/Object;)Z"⟩ : MethodName) c15_ 3 (some .boolean) ({ frames := 1, cells := 0, slots := 0, locals := 14 } : Room) #[(.ref a), (.ref b)] [] h0 (fun v h D' => v = some (.int 1) ∧ h0 = h ∧ D' = []) := by
  refine Con.of_runs (ls := #[vr a, vr b, .unset]) (by decide +kernel) (fun m => rfl) ?_
  refine Runs.aloadN i15_0 rfl rfl ?_
  refine Runs.aloadN i15_1 rfl rfl ?_
  refine Runs.acY (t := 7) i15_2 (by decide) rfl rfl (Jvm.Free.XT.aa_ne_t (fun q => hab (Value.ref.inj q))) ?_
  refine Runs.aloadN i15_7 rfl rfl ?_
  refine Runs.instY i15_8 (w95 hw) (Jvm.RoadKit.Ins.self S2.1.1) ?_
  refine Runs.ifN i15_11 (feq (by decide : ¬ ((1 : Int32) = (0 : Int32)))).1 ?_
  refine Runs.aloadN i15_14 rfl rfl ?_
  refine Runs.castY i15_15 (w95 hw) (Jvm.RoadKit.Ins.self S2.1.1) ?_
  refine Runs.astoreN (ls' := #[vr a, vr b, vr b]) i15_18 rfl rfl ?_
  refine Runs.getS i15_19 (w51 hw) Via.refl S_C ?_
  refine Runs.ifN i15_22 (feq hcpt).1 ?_
  refine Runs.aloadN i15_25 rfl rfl ?_
  refine Runs.getF i15_26 (host := "") (Or.inl (w71 hw)) Via.refl (S1.1.fld (i := 1) rfl) ?_
  refine Runs.aloadN i15_29 rfl rfl ?_
  refine Runs.getF i15_30 (host := "") (Or.inl (w71 hw)) Via.refl (S2.1.fld (i := 1) rfl) ?_
  refine Runs.icN i15_33 (teq (by decide : (1 : Int32) = (1 : Int32))).2 ?_
  refine Runs.aloadN i15_36 rfl rfl ?_
  refine Runs.getF i15_37 (host := "") (Or.inl (w69 hw)) Via.refl (S1.1.fld (i := 0) rfl) ?_
  refine Runs.aloadN i15_40 rfl rfl ?_
  refine Runs.getF i15_41 (host := "") (Or.inl (w69 hw)) Via.refl (S2.1.fld (i := 0) rfl) ?_
  refine Runs.callSW (argsL := [(.ref t), (.ref u)]) (rest := []) (W := 0) i15_44 (w96 hw) (w97 hw) (w98 hw) (w99 hw) (by decide) pd_25 rfl rfl rfl rfl (by decide) (by decide) (by decide) (by decide) all0 (by decide) (own_eqB l Z a0 hw n0 (own_wl cs) (own_wl cs) (by rw [own_wll]; have := S1.2.2.2; omega) (by rw [own_wll]; have := S1.2.2.2; omega) t u k k2 _ (by rw [own_wll, ← own_wlw]; exact S1.2.1) (by rw [own_wll, ← own_wlw]; exact S2.2.1)) ?_
  rw [if_pos (rfl : own_wl cs = own_wl cs)]
  intro v h1 D1 q hsz
  obtain ⟨rfl, rfl, rfl⟩ := q
  show Runs _ _ _ _ _ _ _ _ _ _ _ _ [] h0 0 0 47 #[vr a, vr b, vr b] [(.int 1)]
  refine Runs.ifN i15_47 (feq (by decide : ¬ ((1 : Int32) = (0 : Int32)))).1 ?_
  refine Runs.iconst (v := (1 : Int32)) i15_50 (by decide) ?_
  refine Runs.goto (t := 55) i15_51 (by decide) ?_
  exact Runs.retI (z := (1 : Int32)) i15_55 rfl (Or.inr (Or.inl rfl)) (by decide) (by decide) (by decide) ⟨rfl, rfl, rfl⟩
theorem own_eqx (l : Launch) (Z : State) (a0 : Array Value) (hw : Wds Z a0) (n0 : Nat) (a b t u : Addr) (k k2 : ClassId) (cs : List Int32) (cpt : Int32) (h0 : Heap) (hab : ¬ a = b) (S1 : Sx Z h0 a t k cs) (S2 : Sx Z h0 b u k2 cs) (S_C : SC Z cpt) (hcpt : ¬ cpt = 0) : Con 1 l Z [("java/lang/String", 7)] n0 (⟨"java/lang/String", "equals", "(Ljava/lang/Object;)Z"⟩ : MethodName) c15_ 3 (some .boolean) ({ frames := 1, cells := 0, slots := 0, locals := 14 } : Room) #[(.ref a), (.ref b)] [] h0 (fun v h D' => v = some (.int 1) ∧ h0 = h ∧ D' = []) := by
  rcases S1 with S1 | ⟨q1, S1⟩
  · rcases S2 with S2 | ⟨q2, S2⟩
    · have H := own_eqS l Z a0 hw n0 a b t u k k2 cs cs cpt h0 hab S1 S2 S_C hcpt
      rw [if_pos (rfl : cs = cs)] at H
      exact H
    · exact absurd S1.2.2.1 q2
  · rcases S2 with S2 | ⟨q2, S2⟩
    · exact absurd S2.2.2.1 q1
    · exact own_eqw l Z a0 hw n0 a b t u k k2 cs cpt h0 hab S1 S2 S_C hcpt
theorem own_sxl {Z : State} {h : Heap} {b t : Addr} {k : ClassId} {cs : List Int32} (S : Sx Z h b t k cs) : b < h.size ∧ t < h.size := by
  rcases S with S | S
  · exact ⟨S.1.lt, S.2.1.lt⟩
  · exact ⟨S.2.1.lt, S.2.2.1.lt⟩
theorem own_sxe {Z : State} {h : Heap} {b t : Addr} {k : ClassId} {cs : List Int32} (S : Sx Z h b t k cs) : Exa Z h b "java/lang/String" := by
  rcases S with S | S
  · exact S.1.1
  · exact S.2.1.1
theorem own_nat {x : Int32} (h : ¬ x < 0) : ∃ N : Nat, x = Int32.ofNat N ∧ (N : Int) = x.toInt := by
  have e : (0 : Int32).toInt = 0 := rfl
  rw [Int32.lt_iff_toInt_lt, e] at h
  have h1 := Int32.toInt_lt x
  refine ⟨x.toInt.toNat, Int32.toInt_inj.mp ?_, by omega⟩
  rw [own_n0 _ (by omega)]; omega
theorem own_l419 (l : Launch) (Z : State) (a0 : Array Value) (hw : Wds Z a0) (n0 : Nat) (s0 s1 s2 s3 s4 s5 s6 s7 s8 s10 s12 : Slot) (hs : s12 = .unset ∨ ∃ x : Int32, s12 = (vi x)) (u c : Addr) (ku kc : ClassId) (n : Nat) (vs : List Value) (cs : List Int32) (h0 : Heap) (hc : 0 < cs.length ∧ cs.length ≤ 4) (hC : Chs cs) (U0 : Arv Z h0 u ku .byte (Int32.ofNat n) vs (.int 0)) (E0 : Exa Z h0 u "[B") (C0 : Arv Z h0 c kc .char (Int32.ofNat cs.length) (cs.map Value.int) (.int 0)) (cpt : Int32) (S_C : SC Z cpt) (hcpt : ¬ cpt = 0) (S_A : SA Z) (S_H : SH Z) (S_L : SL Z) (fm : Value) (hfm : fm.isRef = true) (S_F : SF Z fm) (u8 : Addr) (S_I : Sta Z Z.heap "sun/nio/cs/UTF_8" "INSTANCE" "Lsun/nio/cs/UTF_8;" (.ref u8)) (S_8 : Sta Z Z.heap "java/nio/charset/StandardCharsets" "UTF_8" "Ljava/nio/charset/Charset;" (.ref u8)) (E8 : Exa Z Z.heap u8 "sun/nio/cs/UTF_8") (HC : ∀ (a : Addr) (h1 : Heap), n0 ≤ a → u ≠ a → Obj Z h1 a "java/lang/String" [("java/lang/String", "value", "[B", .null), ("java/lang/String", "coder", "B", (.int 0))] → Arv Z h1 u ku .byte (Int32.ofNat n) vs (.int 0) → Exa Z h1 u "[B" → n0 ≤ h1.size → ConH 1 l Z [("java/lang/String", 7)] n0 (⟨"java/lang/String", "<init>", "(Ljava/nio/charset/Charset;[BII)V"⟩ : MethodName) c7_ 11 none [((800 : Nat), (813 : Nat), (816 : Nat), (202 : Nat))] ({ frames := 5, cells := 4, slots := 48, locals := 83 } : Room) #[.ref a, .ref u8, .ref u, .int 0, .int (Int32.ofNat n)] [a] h1 (fun v h D' => v = none ∧ ∃ t k, Keep h1 h [a] ∧ Sx Z h a t k cs ∧ D' = [])) : Runs 1 l Z [("java/lang/String", 7)] n0 x.cls x.name code maxLocals ret room_1 (fun v h D' => v = some (.int 1)) [] h0 2 16 419 #[s0, s1, s2, s3, s4, s5, s6, s7, s8, vr u, s10, vr c, s12] [] := by
  refine Runs.newO i0_419 (w5 hw) (w6 hw) (w7 hw) (lay_1 hw) (by decide) (by decide) ?_
  intro h_1 b_2 g_5 ge_6 K_3 (O_4 : Obj Z h_1 b_2 "com/example/gatewarden/gatewarden/bench/HttpConnections$Response" [("com/example/gatewarden/gatewarden/bench/HttpConnections$Response", "status", "I", (.int 0)), ("com/example/gatewarden/gatewarden/bench/HttpConnections$Response", "headers", "Ljava/util/Map;", .null), ("com/example/gatewarden/gatewarden/bench/HttpConnections$Response", "body", "[B", .null)]) U_7
  refine Runs.dup i0_422 rfl ?_
  refine Runs.sipush (v := (200 : Int32)) i0_423 (by decide) ?_
  refine Runs.aconstNull i0_426 ?_
  refine Runs.aload i0_427 rfl rfl ?_
  refine Runs.callCW (argsL := [(.int 200), .null, (.ref u)]) (rest := [(.ref b_2)]) (W := 1) i0_429 rfl (w8 hw) (w9 hw) (w10 hw) (w7 hw) (by decide) pd_30 rfl rfl rfl rfl (by decide) (by decide) (by decide) (by decide) all0 (by decide) (own_cI l Z a0 hw n0 b_2 u _ ge_6 O_4) ?_
  intro v h_8 D1 q hsz
  obtain ⟨rfl, K_9, O_10, rfl⟩ := q
  show Runs _ _ _ _ _ _ _ _ _ _ _ _ [b_2] h_8 3 19 432 #[s0, s1, s2, s3, s4, s5, s6, s7, s8, vr u, s10, vr c, s12] [(.ref b_2)]
  refine Runs.astore (ls' := #[s0, s1, s2, s3, s4, s5, s6, s7, s8, vr u, s10, vr c, vr b_2]) i0_432 rfl (by rcases hs with rfl | ⟨_, rfl⟩ <;> rfl) ?_
  refine Runs.aload i0_434 rfl rfl ?_
  have A_11 := ((U0.keep K_3 nin0).keep K_9 (ninS (Nat.ne_of_lt (Nat.lt_of_lt_of_le (Nat.lt_of_lt_of_le U0.lt (Nat.le_refl _)) g_5)) nin0))
  refine Runs.callVW (argsL := []) (rest := []) (W := 0) i0_436 (w25 hw) (w26 hw) (fun s hZ => notFace_of_selects (args := #[]) (mvT hZ (w28 hw))) (w28 hw) (w27 hw) (w29 hw) (w7 hw) (by decide) O_10.1 pd_31 rfl rfl rfl rfl (by decide) (by decide) (by decide) (by decide) all0 (by decide) (own_txt l Z a0 hw n0 b_2 u u8 ku n vs cs _ O_10 A_11 ((E0.keep K_3).keep K_9) E8 S_8 HC) ?_
  intro v h_18 D1 q hsz
  obtain ⟨b_12, t_13, k_14, rfl, g_15, K_16, S_17, rfl⟩ := q
  show Runs _ _ _ _ _ _ _ _ _ _ _ _ [b_2] h_18 8 71 439 #[s0, s1, s2, s3, s4, s5, s6, s7, s8, vr u, s10, vr c, vr b_2] [(.ref b_12)]
  have ls_b_12 := own_sxl S_17
  refine Runs.newO i0_439 (w73 hw) (w31 hw) (w32 hw) (lay_0 hw) (by decide) (by decide) ?_
  intro h_19 b_20 g_23 ge_24 K_21 (O_22 : Obj Z h_19 b_20 "java/lang/String" [("java/lang/String", "value", "[B", .null), ("java/lang/String", "coder", "B", (.int 0))]) U_25
  refine Runs.dup i0_442 rfl ?_
  refine Runs.aload i0_443 rfl rfl ?_
  have A_26 := ((((C0.keep K_3 nin0).keep K_9 (ninS (Nat.ne_of_lt (Nat.lt_of_lt_of_le (Nat.lt_of_lt_of_le C0.lt (Nat.le_refl _)) g_5)) nin0)).keep K_16 nin0).keep K_21 nin0)
  refine Runs.callCW (argsL := [(.ref c)]) (rest := [(.ref b_20), (.ref b_12)]) (W := 2) i0_445 rfl (w74 hw) (w75 hw) (w76 hw) (w32 hw) (by decide) pd_32 rfl rfl rfl rfl (by decide) (by decide) (by decide) (by decide) (allS (mi 0 rfl) all0) (by decide) (own_sw l Z a0 hw n0 b_20 c kc (Nat.ne_of_lt (Nat.lt_of_lt_of_le (Nat.lt_of_lt_of_le C0.lt (Nat.le_trans (Nat.le_trans K_3.1 K_9.1) K_16.1)) g_23)) cs 8 (by omega) (by omega) hC cpt _ ge_24 O_22 A_26 (Nat.le_trans ge_24 (Nat.le_of_lt O_22.lt)) S_C hcpt S_A S_H S_L) ?_
  intro v h_33 D1 q hsz
  obtain ⟨rfl, t_27, k_28, g_29, K_30, S_31, E_32, rfl⟩ := q
  show Runs _ _ _ _ _ _ _ _ _ _ _ _ [b_20, b_2] h_33 11 91 448 #[s0, s1, s2, s3, s4, s5, s6, s7, s8, vr u, s10, vr c, vr b_2] [(.ref b_20), (.ref b_12)]
  have S_34 := ((S_17.keep K_21 nin0 nin0).keep K_30 (ninS (Nat.ne_of_lt (Nat.lt_of_lt_of_le (Nat.lt_of_lt_of_le ls_b_12.1 (Nat.le_refl _)) g_23)) nin0) (ninS (Nat.ne_of_lt (Nat.lt_of_lt_of_le (Nat.lt_of_lt_of_le ls_b_12.2 (Nat.le_refl _)) g_23)) nin0))
  have hE1 := own_sxe S_34
  refine Runs.callVW (argsL := [(.ref b_20)]) (rest := []) (W := 0) i0_448 (w90 hw) (w91 hw) (fun s hZ => notFace_of_selects (args := #[]) (mvT hZ (w93 hw))) (w93 hw) (w92 hw) (w94 hw) (w32 hw) (by decide) hE1 pd_33 rfl rfl rfl rfl (by decide) (by decide) (by decide) (by decide) all0 (by decide) (own_eqx l Z a0 hw n0 b_12 b_20 t_13 t_27 k_14 k_28 cs cpt _ (Nat.ne_of_lt (Nat.lt_of_lt_of_le (Nat.lt_of_lt_of_le ls_b_12.1 (Nat.le_refl _)) g_23)) S_34 S_31 S_C hcpt) ?_
  intro v h1 D1 q hsz
  obtain ⟨rfl, rfl, rfl⟩ := q
  show Runs _ _ _ _ _ _ _ _ _ _ _ _ [b_20, b_2] h_33 11 91 451 #[s0, s1, s2, s3, s4, s5, s6, s7, s8, vr u, s10, vr c, vr b_2] [(.int 1)]
  exact Runs.retI (z := (1 : Int32)) i0_451 rfl (Or.inr (Or.inl rfl)) (by decide) (by decide) (by decide) rfl
theorem own_lf0n (l : Launch) (Z : State) (a0 : Array Value) (hw : Wds Z a0) (n0 : Nat) (p0 p1 p2 : Int32) (cp k7 : Int32) (bb : Int32)   (cpt : Int32) (S_C : SC Z cpt) (hcpt : ¬ cpt = 0) (S_A : SA Z) (S_H : SH Z) (S_L : SL Z) (fm : Value) (hfm : fm.isRef = true) (S_F : SF Z fm) (u8 : Addr) (S_I : Sta Z Z.heap "sun/nio/cs/UTF_8" "INSTANCE" "Lsun/nio/cs/UTF_8;" (.ref u8)) (S_8 : Sta Z Z.heap "java/nio/charset/StandardCharsets" "UTF_8" "Ljava/nio/charset/Charset;" (.ref u8)) (E8 : Exa Z Z.heap u8 "sun/nio/cs/UTF_8") : Runs 1 l Z [("java/lang/String", 7)] n0 x.cls x.name code maxLocals ret room_1 (fun v h D' => v = some (.int 1)) [] Z.heap 0 0 94 #[vi p0, vi p1, vi p2, vi cp, vi bb, vi 0, vi 0, vi k7, .unset, .unset, .unset, .unset, .unset] [] := by
  refine Runs.iload i0_94 rfl ?_
  refine Runs.ifY (t := 104) i0_96 (by decide) (teq (by decide : (0 : Int32) = (0 : Int32))).1 ?_
  refine Runs.iconst (v := (0 : Int32)) i0_104 (by decide) ?_
  refine Runs.istore (ls' := #[vi p0, vi p1, vi p2, vi cp, vi bb, vi 0, vi 0, vi k7, vi 0, .unset, .unset, .unset, .unset]) i0_105 rfl ?_
  refine Runs.iload i0_107 rfl ?_
  refine Runs.iload i0_109 rfl ?_
  refine Runs.ifY (t := 118) i0_111 (by decide) (teq (by decide : (0 : Int32) = (0 : Int32))).1 ?_
  refine Runs.iconst (v := (0 : Int32)) i0_118 (by decide) ?_
  refine Runs.iadd (z := (0 : Int32)) i0_119 (by decide) ?_
  refine Runs.newP (cap := 0) (ad := "[B") i0_120 (w3 hw) (by decide) (by decide) (by decide) (by decide) (by decide) rfl ?_
  intro h_1 b_2 k_3 g_6 ge_7 K_4 (A_5 : Arv Z h_1 b_2 k_3 .byte (0 : Int32) [] (.int 0)) E_8
  refine Runs.astore (ls' := #[vi p0, vi p1, vi p2, vi cp, vi bb, vi 0, vi 0, vi k7, vi 0, vr b_2, .unset, .unset, .unset]) i0_122 rfl rfl ?_
  refine Runs.iload i0_124 rfl ?_
  refine Runs.ifY (t := 288) i0_126 (by decide) (teq (by decide : (0 : Int32) = (0 : Int32))).1 ?_
  refine Runs.iload i0_288 rfl ?_
  refine Runs.ifY (t := 301) i0_290 (by decide) (teq (by decide : (0 : Int32) = (0 : Int32))).1 ?_
  refine Runs.iload i0_301 rfl ?_
  refine Runs.ifY (t := 320) i0_303 (by decide) (teq (by decide : (0 : Int32) = (0 : Int32))).1 ?_
  refine Runs.iconst (v := (0 : Int32)) i0_320 (by decide) ?_
  refine Runs.istore (ls' := #[vi p0, vi p1, vi p2, vi cp, vi bb, vi 0, vi 0, vi k7, vi 0, vr b_2, vi 0, .unset, .unset]) i0_321 rfl ?_
  refine Runs.iload i0_323 rfl ?_
  refine Runs.iload i0_325 rfl ?_
  refine Runs.ifY (t := 334) i0_327 (by decide) (teq (by decide : (0 : Int32) = (0 : Int32))).1 ?_
  refine Runs.iconst (v := (0 : Int32)) i0_334 (by decide) ?_
  refine Runs.iadd (z := (0 : Int32)) i0_335 (by decide) ?_
  refine Runs.newP (cap := 0) (ad := "[C") i0_336 (w4 hw) (by decide) (by decide) (by decide) (by decide) (by decide) rfl ?_
  intro h_9 b_10 k_11 g_14 ge_15 K_12 (A_13 : Arv Z h_9 b_10 k_11 .char (0 : Int32) [] (.int 0)) E_16
  refine Runs.astore (ls' := #[vi p0, vi p1, vi p2, vi cp, vi bb, vi 0, vi 0, vi k7, vi 0, vr b_2, vi 0, vr b_10, .unset]) i0_338 rfl rfl ?_
  refine Runs.iload i0_340 rfl ?_
  refine Runs.ifY (t := 393) i0_342 (by decide) (teq (by decide : (0 : Int32) = (0 : Int32))).1 ?_
  refine Runs.iload i0_393 rfl ?_
  refine Runs.ifY (t := 419) i0_395 (by decide) (teq (by decide : (0 : Int32) = (0 : Int32))).1 ?_
  refine Runs.newO i0_419 (w5 hw) (w6 hw) (w7 hw) (lay_1 hw) (by decide) (by decide) ?_
  intro h_17 b_18 g_21 ge_22 K_19 (O_20 : Obj Z h_17 b_18 "com/example/gatewarden/gatewarden/bench/HttpConnections$Response" [("com/example/gatewarden/gatewarden/bench/HttpConnections$Response", "status", "I", (.int 0)), ("com/example/gatewarden/gatewarden/bench/HttpConnections$Response", "headers", "Ljava/util/Map;", .null), ("com/example/gatewarden/gatewarden/bench/HttpConnections$Response", "body", "[B", .null)]) U_23
  refine Runs.dup i0_422 rfl ?_
  refine Runs.sipush (v := (200 : Int32)) i0_423 (by decide) ?_
  refine Runs.aconstNull i0_426 ?_
  refine Runs.aload i0_427 rfl rfl ?_
  refine Runs.callCW (argsL := [(.int 200), .null, (.ref b_2)]) (rest := [(.ref b_18)]) (W := 1) i0_429 rfl (w8 hw) (w9 hw) (w10 hw) (w7 hw) (by decide) pd_30 rfl rfl rfl rfl (by decide) (by decide) (by decide) (by decide) all0 (by decide) (own_cI l Z a0 hw n0 b_18 b_2 _ ge_22 O_20) ?_
  intro v h_24 D1 q hsz
  obtain ⟨rfl, K_25, O_26, rfl⟩ := q
  show Runs _ _ _ _ _ _ _ _ _ _ _ _ [b_18, b_10, b_2] h_24 3 3 432 #[vi p0, vi p1, vi p2, vi cp, vi bb, vi 0, vi 0, vi k7, vi 0, vr b_2, vi 0, vr b_10, .unset] [(.ref b_18)]
  refine Runs.astore (ls' := #[vi p0, vi p1, vi p2, vi cp, vi bb, vi 0, vi 0, vi k7, vi 0, vr b_2, vi 0, vr b_10, vr b_18]) i0_432 rfl rfl ?_
  refine Runs.aload i0_434 rfl rfl ?_
  have A_27 := (((A_5.keep K_12 nin0).keep K_19 nin0).keep K_25 (ninS (Nat.ne_of_lt (Nat.lt_of_lt_of_le (Nat.lt_of_lt_of_le A_5.lt K_12.1) g_21)) nin0))
  have U_28 : Arv Z h_24 b_2 k_3 .byte (Int32.ofNat 0) [] (.int 0) := A_27
  have HC := fun (a : Addr) (h1 : Heap) (ga : n0 ≤ a) (hua : b_2 ≠ a) (O0 : Obj Z h1 a "java/lang/String" [("java/lang/String", "value", "[B", .null), ("java/lang/String", "coder", "B", (.int 0))]) (U0 : Arv Z h1 b_2 k_3 .byte (Int32.ofNat 0) [] (.int 0)) (E0 : Exa Z h1 b_2 "[B") (hn0 : n0 ≤ h1.size) => own_ct0n l Z a0 hw n0  a b_2 u8 k_3 hua cpt h1 ga O0 U0 E0 hn0 S_C hcpt S_A S_H S_L fm hfm S_F S_I
  refine Runs.callVW (argsL := []) (rest := []) (W := 0) i0_436 (w25 hw) (w26 hw) (fun s hZ => notFace_of_selects (args := #[]) (mvT hZ (w28 hw))) (w28 hw) (w27 hw) (w29 hw) (w7 hw) (by decide) O_26.1 pd_31 rfl rfl rfl rfl (by decide) (by decide) (by decide) (by decide) all0 (by decide) (own_txt l Z a0 hw n0 b_18 b_2 u8 k_3 0 [] ([] : List Int32) _ O_26 U_28 (((E_8.keep K_12).keep K_19).keep K_25) E8 S_8 HC) ?_
  intro v h_35 D1 q hsz
  obtain ⟨b_29, t_30, k_31, rfl, g_32, K_33, S_34, rfl⟩ := q
  show Runs _ _ _ _ _ _ _ _ _ _ _ _ [b_18, b_10, b_2] h_35 8 55 439 #[vi p0, vi p1, vi p2, vi cp, vi bb, vi 0, vi 0, vi k7, vi 0, vr b_2, vi 0, vr b_10, vr b_18] [(.ref b_29)]
  have ls_b_29 := own_sxl S_34
  refine Runs.newO i0_439 (w73 hw) (w31 hw) (w32 hw) (lay_0 hw) (by decide) (by decide) ?_
  intro h_36 b_37 g_40 ge_41 K_38 (O_39 : Obj Z h_36 b_37 "java/lang/String" [("java/lang/String", "value", "[B", .null), ("java/lang/String", "coder", "B", (.int 0))]) U_42
  refine Runs.dup i0_442 rfl ?_
  refine Runs.aload i0_443 rfl rfl ?_
  have A_43 := ((((A_13.keep K_19 nin0).keep K_25 (ninS (Nat.ne_of_lt (Nat.lt_of_lt_of_le (Nat.lt_of_lt_of_le A_13.lt (Nat.le_refl _)) g_21)) nin0)).keep K_33 nin0).keep K_38 nin0)
  refine Runs.callCW (argsL := [(.ref b_10)]) (rest := [(.ref b_37), (.ref b_29)]) (W := 2) i0_445 rfl (w74 hw) (w75 hw) (w76 hw) (w32 hw) (by decide) pd_32 rfl rfl rfl rfl (by decide) (by decide) (by decide) (by decide) (allS (mi 0 rfl) all0) (by decide) (own_si_0 l Z a0 hw n0 b_37 b_10 k_11 _ ge_41 O_39 A_43) ?_
  intro v h_49 D1 q hsz
  obtain ⟨rfl, t_44, k_45, K_46, O_47, A_48, rfl⟩ := q
  show Runs _ _ _ _ _ _ _ _ _ _ _ _ [b_37, b_18, b_10, b_2] h_49 13 67 448 #[vi p0, vi p1, vi p2, vi cp, vi bb, vi 0, vi 0, vi k7, vi 0, vr b_2, vi 0, vr b_10, vr b_18] [(.ref b_37), (.ref b_29)]
  have S_50 : Sx Z h_49 b_37 t_44 k_45 [] := Or.inl ⟨O_47, A_48, own_lat0, by decide⟩
  have S_51 := ((S_34.keep K_38 nin0 nin0).keep K_46 (ninS (Nat.ne_of_lt (Nat.lt_of_lt_of_le (Nat.lt_of_lt_of_le ls_b_29.1 (Nat.le_refl _)) g_40)) nin0) (ninS (Nat.ne_of_lt (Nat.lt_of_lt_of_le (Nat.lt_of_lt_of_le ls_b_29.2 (Nat.le_refl _)) g_40)) nin0))
  have hE1 := own_sxe S_51
  refine Runs.callVW (argsL := [(.ref b_37)]) (rest := []) (W := 0) i0_448 (w90 hw) (w91 hw) (fun s hZ => notFace_of_selects (args := #[]) (mvT hZ (w93 hw))) (w93 hw) (w92 hw) (w94 hw) (w32 hw) (by decide) hE1 pd_33 rfl rfl rfl rfl (by decide) (by decide) (by decide) (by decide) all0 (by decide) (own_eqx l Z a0 hw n0 b_29 b_37 t_30 t_44 k_31 k_45 ([] : List Int32) cpt _ (Nat.ne_of_lt (Nat.lt_of_lt_of_le (Nat.lt_of_lt_of_le ls_b_29.1 (Nat.le_refl _)) g_40)) S_51 S_50 S_C hcpt) ?_
  intro v h1 D1 q hsz
  obtain ⟨rfl, rfl, rfl⟩ := q
  show Runs _ _ _ _ _ _ _ _ _ _ _ _ [b_37, b_18, b_10, b_2] h_49 13 67 451 #[vi p0, vi p1, vi p2, vi cp, vi bb, vi 0, vi 0, vi k7, vi 0, vr b_2, vi 0, vr b_10, vr b_18] [(.int 1)]
  exact Runs.retI (z := (1 : Int32)) i0_451 rfl (Or.inr (Or.inl rfl)) (by decide) (by decide) (by decide) rfl
theorem own_lf0p (l : Launch) (Z : State) (a0 : Array Value) (hw : Wds Z a0) (n0 : Nat) (p0 p1 p2 : Int32) (cp k7 : Int32)   (B : Nat) (hB : B < 128) (cpt : Int32) (S_C : SC Z cpt) (hcpt : ¬ cpt = 0) (S_A : SA Z) (S_H : SH Z) (S_L : SL Z) (fm : Value) (hfm : fm.isRef = true) (S_F : SF Z fm) (u8 : Addr) (S_I : Sta Z Z.heap "sun/nio/cs/UTF_8" "INSTANCE" "Lsun/nio/cs/UTF_8;" (.ref u8)) (S_8 : Sta Z Z.heap "java/nio/charset/StandardCharsets" "UTF_8" "Ljava/nio/charset/Charset;" (.ref u8)) (E8 : Exa Z Z.heap u8 "sun/nio/cs/UTF_8") : Runs 1 l Z [("java/lang/String", 7)] n0 x.cls x.name code maxLocals ret room_1 (fun v h D' => v = some (.int 1)) [] Z.heap 0 0 94 #[vi p0, vi p1, vi p2, vi cp, vi (Int32.ofNat B), vi 0, vi 1, vi k7, .unset, .unset, .unset, .unset, .unset] [] := by
  refine Runs.iload i0_94 rfl ?_
  refine Runs.ifY (t := 104) i0_96 (by decide) (teq (by decide : (0 : Int32) = (0 : Int32))).1 ?_
  refine Runs.iconst (v := (0 : Int32)) i0_104 (by decide) ?_
  refine Runs.istore (ls' := #[vi p0, vi p1, vi p2, vi cp, vi (Int32.ofNat B), vi 0, vi 1, vi k7, vi 0, .unset, .unset, .unset, .unset]) i0_105 rfl ?_
  refine Runs.iload i0_107 rfl ?_
  refine Runs.iload i0_109 rfl ?_
  refine Runs.ifN i0_111 (feq (by decide : ¬ ((1 : Int32) = (0 : Int32)))).1 ?_
  refine Runs.iconst (v := (1 : Int32)) i0_114 (by decide) ?_
  refine Runs.goto (t := 119) i0_115 (by decide) ?_
  refine Runs.iadd (z := (1 : Int32)) i0_119 (by decide) ?_
  refine Runs.newP (cap := 1) (ad := "[B") i0_120 (w3 hw) (by decide) (by decide) (by decide) (by decide) (by decide) rfl ?_
  intro h_1 b_2 k_3 g_6 ge_7 K_4 (A_5 : Arv Z h_1 b_2 k_3 .byte (1 : Int32) [] (.int 0)) E_8
  have A_9 : Arv Z h_1 b_2 k_3 .byte (1 : Int32) [(.int 0)] (.int 0) := A_5.pad (pad_rep [] (.int 0) 1)
  refine Runs.astore (ls' := #[vi p0, vi p1, vi p2, vi cp, vi (Int32.ofNat B), vi 0, vi 1, vi k7, vi 0, vr b_2, .unset, .unset, .unset]) i0_122 rfl rfl ?_
  refine Runs.iload i0_124 rfl ?_
  refine Runs.ifY (t := 288) i0_126 (by decide) (teq (by decide : (0 : Int32) = (0 : Int32))).1 ?_
  refine Runs.iload i0_288 rfl ?_
  refine Runs.ifN i0_290 (feq (by decide : ¬ ((1 : Int32) = (0 : Int32)))).1 ?_
  refine Runs.aload i0_293 rfl rfl ?_
  refine Runs.iload i0_295 rfl ?_
  refine Runs.iload i0_297 rfl ?_
  refine Runs.i2b (z := (own_8 (Int32.ofNat B))) i0_299 rfl ?_
  refine Runs.bastore (i := 0) (y := (own_8 (Int32.ofNat B))) i0_300 A_9 ⟨by decide, by decide⟩ (by decide) (Nat.le_of_ble_eq_true rfl) (own_88 _) ge_7 (Or.inl (mi 0 rfl)) ?_
  intro h_10 K_11 (A_12 : Arv Z h_10 b_2 k_3 .byte (1 : Int32) [(.int (own_8 (Int32.ofNat B)))] (.int 0))
  refine Runs.iload i0_301 rfl ?_
  refine Runs.ifY (t := 320) i0_303 (by decide) (teq (by decide : (0 : Int32) = (0 : Int32))).1 ?_
  refine Runs.iconst (v := (0 : Int32)) i0_320 (by decide) ?_
  refine Runs.istore (ls' := #[vi p0, vi p1, vi p2, vi cp, vi (Int32.ofNat B), vi 0, vi 1, vi k7, vi 0, vr b_2, vi 0, .unset, .unset]) i0_321 rfl ?_
  refine Runs.iload i0_323 rfl ?_
  refine Runs.iload i0_325 rfl ?_
  refine Runs.ifN i0_327 (feq (by decide : ¬ ((1 : Int32) = (0 : Int32)))).1 ?_
  refine Runs.iconst (v := (1 : Int32)) i0_330 (by decide) ?_
  refine Runs.goto (t := 335) i0_331 (by decide) ?_
  refine Runs.iadd (z := (1 : Int32)) i0_335 (by decide) ?_
  refine Runs.newP (cap := 1) (ad := "[C") i0_336 (w4 hw) (by decide) (by decide) (by decide) (by decide) (by decide) rfl ?_
  intro h_13 b_14 k_15 g_18 ge_19 K_16 (A_17 : Arv Z h_13 b_14 k_15 .char (1 : Int32) [] (.int 0)) E_20
  have A_21 : Arv Z h_13 b_14 k_15 .char (1 : Int32) [(.int 0)] (.int 0) := A_17.pad (pad_rep [] (.int 0) 1)
  refine Runs.astore (ls' := #[vi p0, vi p1, vi p2, vi cp, vi (Int32.ofNat B), vi 0, vi 1, vi k7, vi 0, vr b_2, vi 0, vr b_14, .unset]) i0_338 rfl rfl ?_
  refine Runs.iload i0_340 rfl ?_
  refine Runs.ifY (t := 393) i0_342 (by decide) (teq (by decide : (0 : Int32) = (0 : Int32))).1 ?_
  refine Runs.iload i0_393 rfl ?_
  refine Runs.ifN i0_395 (feq (by decide : ¬ ((1 : Int32) = (0 : Int32)))).1 ?_
  refine Runs.aload i0_398 rfl rfl ?_
  refine Runs.iload i0_400 rfl ?_
  refine Runs.iload i0_402 rfl ?_
  refine Runs.sipush (v := (128 : Int32)) i0_404 (by decide) ?_
  refine Runs.icN i0_407 (tlt (own_lt (b := 128) hB (by omega))).2.1 ?_
  refine Runs.iload i0_410 rfl ?_
  refine Runs.i2c (z := (Int32.ofNat B)) i0_412 (own_ccN (by omega)) ?_
  refine Runs.goto (t := 418) i0_413 (by decide) ?_
  refine Runs.castore (i := 0) (y := (Int32.ofNat B)) i0_418 A_21 ⟨by decide, by decide⟩ (by decide) (Nat.le_of_ble_eq_true rfl) (own_ccN (by omega)) ge_19 (Or.inr (by decide)) ?_
  intro h_22 K_23 (A_24 : Arv Z h_22 b_14 k_15 .char (1 : Int32) [(.int (Int32.ofNat B))] (.int 0))
  have A_25 := ((A_12.keep K_16 nin0).keep K_23 (ninS (Nat.ne_of_lt (Nat.lt_of_lt_of_le (Nat.lt_of_lt_of_le A_9.lt K_11.1) g_18)) nin0))
  refine Runs.weak (D1 := []) (fun _ q => nomatch q) ?_
  refine Runs.mono (kc' := 2) (ks' := 16) (by decide) (by decide) ?_
  exact own_l419 l Z a0 hw n0 _ _ _ _ _ _ _ _ _ _ _ (Or.inl rfl) b_2 b_14 _ _ 1 [(.int (own_8 (Int32.ofNat B)))] ([(Int32.ofNat B)] : List Int32) _ (by simp) (own_aS (own_chN (by omega)) own_a0) A_25 (((E_8.keep K_11).keep K_16).keep K_23) A_24 cpt S_C hcpt S_A S_H S_L fm hfm S_F u8 S_I S_8 E8 (fun a h1 ga hua O0 U0 E0 hn0 => own_ct0p l Z a0 hw n0 B hB a _ u8 _ hua cpt h1 ga O0 U0 E0 hn0 S_C hcpt S_A S_H S_L fm hfm S_F S_I)
theorem own_lf0g (l : Launch) (Z : State) (a0 : Array Value) (hw : Wds Z a0) (n0 : Nat) (p0 p1 p2 : Int32) (cp k7 : Int32)   (B : Nat) (hB : 128 ≤ B ∧ B < 256) (cpt : Int32) (S_C : SC Z cpt) (hcpt : ¬ cpt = 0) (S_A : SA Z) (S_H : SH Z) (S_L : SL Z) (fm : Value) (hfm : fm.isRef = true) (S_F : SF Z fm) (u8 : Addr) (S_I : Sta Z Z.heap "sun/nio/cs/UTF_8" "INSTANCE" "Lsun/nio/cs/UTF_8;" (.ref u8)) (S_8 : Sta Z Z.heap "java/nio/charset/StandardCharsets" "UTF_8" "Ljava/nio/charset/Charset;" (.ref u8)) (E8 : Exa Z Z.heap u8 "sun/nio/cs/UTF_8") : Runs 1 l Z [("java/lang/String", 7)] n0 x.cls x.name code maxLocals ret room_1 (fun v h D' => v = some (.int 1)) [] Z.heap 0 0 94 #[vi p0, vi p1, vi p2, vi cp, vi (Int32.ofNat B), vi 0, vi 1, vi k7, .unset, .unset, .unset, .unset, .unset] [] := by
  refine Runs.iload i0_94 rfl ?_
  refine Runs.ifY (t := 104) i0_96 (by decide) (teq (by decide : (0 : Int32) = (0 : Int32))).1 ?_
  refine Runs.iconst (v := (0 : Int32)) i0_104 (by decide) ?_
  refine Runs.istore (ls' := #[vi p0, vi p1, vi p2, vi cp, vi (Int32.ofNat B), vi 0, vi 1, vi k7, vi 0, .unset, .unset, .unset, .unset]) i0_105 rfl ?_
  refine Runs.iload i0_107 rfl ?_
  refine Runs.iload i0_109 rfl ?_
  refine Runs.ifN i0_111 (feq (by decide : ¬ ((1 : Int32) = (0 : Int32)))).1 ?_
  refine Runs.iconst (v := (1 : Int32)) i0_114 (by decide) ?_
  refine Runs.goto (t := 119) i0_115 (by decide) ?_
  refine Runs.iadd (z := (1 : Int32)) i0_119 (by decide) ?_
  refine Runs.newP (cap := 1) (ad := "[B") i0_120 (w3 hw) (by decide) (by decide) (by decide) (by decide) (by decide) rfl ?_
  intro h_1 b_2 k_3 g_6 ge_7 K_4 (A_5 : Arv Z h_1 b_2 k_3 .byte (1 : Int32) [] (.int 0)) E_8
  have A_9 : Arv Z h_1 b_2 k_3 .byte (1 : Int32) [(.int 0)] (.int 0) := A_5.pad (pad_rep [] (.int 0) 1)
  refine Runs.astore (ls' := #[vi p0, vi p1, vi p2, vi cp, vi (Int32.ofNat B), vi 0, vi 1, vi k7, vi 0, vr b_2, .unset, .unset, .unset]) i0_122 rfl rfl ?_
  refine Runs.iload i0_124 rfl ?_
  refine Runs.ifY (t := 288) i0_126 (by decide) (teq (by decide : (0 : Int32) = (0 : Int32))).1 ?_
  refine Runs.iload i0_288 rfl ?_
  refine Runs.ifN i0_290 (feq (by decide : ¬ ((1 : Int32) = (0 : Int32)))).1 ?_
  refine Runs.aload i0_293 rfl rfl ?_
  refine Runs.iload i0_295 rfl ?_
  refine Runs.iload i0_297 rfl ?_
  refine Runs.i2b (z := (own_8 (Int32.ofNat B))) i0_299 rfl ?_
  refine Runs.bastore (i := 0) (y := (own_8 (Int32.ofNat B))) i0_300 A_9 ⟨by decide, by decide⟩ (by decide) (Nat.le_of_ble_eq_true rfl) (own_88 _) ge_7 (Or.inl (mi 0 rfl)) ?_
  intro h_10 K_11 (A_12 : Arv Z h_10 b_2 k_3 .byte (1 : Int32) [(.int (own_8 (Int32.ofNat B)))] (.int 0))
  refine Runs.iload i0_301 rfl ?_
  refine Runs.ifY (t := 320) i0_303 (by decide) (teq (by decide : (0 : Int32) = (0 : Int32))).1 ?_
  refine Runs.iconst (v := (0 : Int32)) i0_320 (by decide) ?_
  refine Runs.istore (ls' := #[vi p0, vi p1, vi p2, vi cp, vi (Int32.ofNat B), vi 0, vi 1, vi k7, vi 0, vr b_2, vi 0, .unset, .unset]) i0_321 rfl ?_
  refine Runs.iload i0_323 rfl ?_
  refine Runs.iload i0_325 rfl ?_
  refine Runs.ifN i0_327 (feq (by decide : ¬ ((1 : Int32) = (0 : Int32)))).1 ?_
  refine Runs.iconst (v := (1 : Int32)) i0_330 (by decide) ?_
  refine Runs.goto (t := 335) i0_331 (by decide) ?_
  refine Runs.iadd (z := (1 : Int32)) i0_335 (by decide) ?_
  refine Runs.newP (cap := 1) (ad := "[C") i0_336 (w4 hw) (by decide) (by decide) (by decide) (by decide) (by decide) rfl ?_
  intro h_13 b_14 k_15 g_18 ge_19 K_16 (A_17 : Arv Z h_13 b_14 k_15 .char (1 : Int32) [] (.int 0)) E_20
  have A_21 : Arv Z h_13 b_14 k_15 .char (1 : Int32) [(.int 0)] (.int 0) := A_17.pad (pad_rep [] (.int 0) 1)
  refine Runs.astore (ls' := #[vi p0, vi p1, vi p2, vi cp, vi (Int32.ofNat B), vi 0, vi 1, vi k7, vi 0, vr b_2, vi 0, vr b_14, .unset]) i0_338 rfl rfl ?_
  refine Runs.iload i0_340 rfl ?_
  refine Runs.ifY (t := 393) i0_342 (by decide) (teq (by decide : (0 : Int32) = (0 : Int32))).1 ?_
  refine Runs.iload i0_393 rfl ?_
  refine Runs.ifN i0_395 (feq (by decide : ¬ ((1 : Int32) = (0 : Int32)))).1 ?_
  refine Runs.aload i0_398 rfl rfl ?_
  refine Runs.iload i0_400 rfl ?_
  refine Runs.iload i0_402 rfl ?_
  refine Runs.sipush (v := (128 : Int32)) i0_404 (by decide) ?_
  refine Runs.icY (t := 416) i0_407 (by decide) (flt (own_nlt (b := 128) hB.1 (by omega))).2.1 ?_
  refine Runs.ldcI i0_416 (w185 hw) ?_
  refine Runs.castore (i := 0) (y := (65533 : Int32)) i0_418 A_21 ⟨by decide, by decide⟩ (by decide) (Nat.le_of_ble_eq_true rfl) (by decide) ge_19 (Or.inr (by decide)) ?_
  intro h_22 K_23 (A_24 : Arv Z h_22 b_14 k_15 .char (1 : Int32) [(.int 65533)] (.int 0))
  have A_25 := ((A_12.keep K_16 nin0).keep K_23 (ninS (Nat.ne_of_lt (Nat.lt_of_lt_of_le (Nat.lt_of_lt_of_le A_9.lt K_11.1) g_18)) nin0))
  refine Runs.weak (D1 := []) (fun _ q => nomatch q) ?_
  refine Runs.mono (kc' := 2) (ks' := 16) (by decide) (by decide) ?_
  exact own_l419 l Z a0 hw n0 _ _ _ _ _ _ _ _ _ _ _ (Or.inl rfl) b_2 b_14 _ _ 1 [(.int (own_8 (Int32.ofNat B)))] ([(65533 : Int32)] : List Int32) _ (by simp) (own_aS ⟨by decide, by decide⟩ own_a0) A_25 (((E_8.keep K_11).keep K_16).keep K_23) A_24 cpt S_C hcpt S_A S_H S_L fm hfm S_F u8 S_I S_8 E8 (fun a h1 ga hua O0 U0 E0 hn0 => own_ct0g l Z a0 hw n0 B hB a _ u8 _ hua cpt h1 ga O0 U0 E0 hn0 S_C hcpt S_A S_H S_L fm hfm S_F S_I)
theorem own_lf1n (l : Launch) (Z : State) (a0 : Array Value) (hw : Wds Z a0) (n0 : Nat) (p0 p1 p2 : Int32) (bb : Int32)  (N : Nat) (hN : N < 128) (cpt : Int32) (S_C : SC Z cpt) (hcpt : ¬ cpt = 0) (S_A : SA Z) (S_H : SH Z) (S_L : SL Z) (fm : Value) (hfm : fm.isRef = true) (S_F : SF Z fm) (u8 : Addr) (S_I : Sta Z Z.heap "sun/nio/cs/UTF_8" "INSTANCE" "Lsun/nio/cs/UTF_8;" (.ref u8)) (S_8 : Sta Z Z.heap "java/nio/charset/StandardCharsets" "UTF_8" "Ljava/nio/charset/Charset;" (.ref u8)) (E8 : Exa Z Z.heap u8 "sun/nio/cs/UTF_8") : Runs 1 l Z [("java/lang/String", 7)] n0 x.cls x.name code maxLocals ret room_1 (fun v h D' => v = some (.int 1)) [] Z.heap 0 0 94 #[vi p0, vi p1, vi p2, vi (Int32.ofNat N), vi bb, vi 1, vi 0, vi 1, .unset, .unset, .unset, .unset, .unset] [] := by
  refine Runs.iload i0_94 rfl ?_
  refine Runs.ifN i0_96 (feq (by decide : ¬ ((1 : Int32) = (0 : Int32)))).1 ?_
  refine Runs.iload i0_99 rfl ?_
  refine Runs.goto (t := 105) i0_101 (by decide) ?_
  refine Runs.istore (ls' := #[vi p0, vi p1, vi p2, vi (Int32.ofNat N), vi bb, vi 1, vi 0, vi 1, vi 1, .unset, .unset, .unset, .unset]) i0_105 rfl ?_
  refine Runs.iload i0_107 rfl ?_
  refine Runs.iload i0_109 rfl ?_
  refine Runs.ifY (t := 118) i0_111 (by decide) (teq (by decide : (0 : Int32) = (0 : Int32))).1 ?_
  refine Runs.iconst (v := (0 : Int32)) i0_118 (by decide) ?_
  refine Runs.iadd (z := (1 : Int32)) i0_119 (by decide) ?_
  refine Runs.newP (cap := 1) (ad := "[B") i0_120 (w3 hw) (by decide) (by decide) (by decide) (by decide) (by decide) rfl ?_
  intro h_1 b_2 k_3 g_6 ge_7 K_4 (A_5 : Arv Z h_1 b_2 k_3 .byte (1 : Int32) [] (.int 0)) E_8
  have A_9 : Arv Z h_1 b_2 k_3 .byte (1 : Int32) [(.int 0)] (.int 0) := A_5.pad (pad_rep [] (.int 0) 1)
  refine Runs.astore (ls' := #[vi p0, vi p1, vi p2, vi (Int32.ofNat N), vi bb, vi 1, vi 0, vi 1, vi 1, vr b_2, .unset, .unset, .unset]) i0_122 rfl rfl ?_
  refine Runs.iload i0_124 rfl ?_
  refine Runs.ifN i0_126 (feq (by decide : ¬ ((1 : Int32) = (0 : Int32)))).1 ?_
  refine Runs.iload i0_129 rfl ?_
  refine Runs.iconst (v := (1 : Int32)) i0_131 (by decide) ?_
  refine Runs.icN i0_132 (teq (by decide : (1 : Int32) = (1 : Int32))).2 ?_
  refine Runs.aload i0_135 rfl rfl ?_
  refine Runs.iconst (v := (0 : Int32)) i0_137 (by decide) ?_
  refine Runs.iloadN i0_138 rfl ?_
  refine Runs.i2b (z := (own_8 (Int32.ofNat N))) i0_139 rfl ?_
  refine Runs.bastore (i := 0) (y := (own_8 (Int32.ofNat N))) i0_140 A_9 ⟨by decide, by decide⟩ (by decide) (Nat.le_of_ble_eq_true rfl) (own_88 _) ge_7 (Or.inl (mi 0 rfl)) ?_
  intro h_10 K_11 (A_12 : Arv Z h_10 b_2 k_3 .byte (1 : Int32) [(.int (own_8 (Int32.ofNat N)))] (.int 0))
  refine Runs.goto (t := 288) i0_141 (by decide) ?_
  refine Runs.iload i0_288 rfl ?_
  refine Runs.ifY (t := 301) i0_290 (by decide) (teq (by decide : (0 : Int32) = (0 : Int32))).1 ?_
  refine Runs.iload i0_301 rfl ?_
  refine Runs.ifN i0_303 (feq (by decide : ¬ ((1 : Int32) = (0 : Int32)))).1 ?_
  refine Runs.iloadN i0_306 rfl ?_
  refine Runs.ldcI i0_307 (w100 hw) ?_
  refine Runs.icN i0_309 (tlt (own_lt (b := 65536) (by omega) (by omega))).2.1 ?_
  refine Runs.iconst (v := (1 : Int32)) i0_312 (by decide) ?_
  refine Runs.goto (t := 321) i0_313 (by decide) ?_
  refine Runs.istore (ls' := #[vi p0, vi p1, vi p2, vi (Int32.ofNat N), vi bb, vi 1, vi 0, vi 1, vi 1, vr b_2, vi 1, .unset, .unset]) i0_321 rfl ?_
  refine Runs.iload i0_323 rfl ?_
  refine Runs.iload i0_325 rfl ?_
  refine Runs.ifY (t := 334) i0_327 (by decide) (teq (by decide : (0 : Int32) = (0 : Int32))).1 ?_
  refine Runs.iconst (v := (0 : Int32)) i0_334 (by decide) ?_
  refine Runs.iadd (z := (1 : Int32)) i0_335 (by decide) ?_
  refine Runs.newP (cap := 1) (ad := "[C") i0_336 (w4 hw) (by decide) (by decide) (by decide) (by decide) (by decide) rfl ?_
  intro h_13 b_14 k_15 g_18 ge_19 K_16 (A_17 : Arv Z h_13 b_14 k_15 .char (1 : Int32) [] (.int 0)) E_20
  have A_21 : Arv Z h_13 b_14 k_15 .char (1 : Int32) [(.int 0)] (.int 0) := A_17.pad (pad_rep [] (.int 0) 1)
  refine Runs.astore (ls' := #[vi p0, vi p1, vi p2, vi (Int32.ofNat N), vi bb, vi 1, vi 0, vi 1, vi 1, vr b_2, vi 1, vr b_14, .unset]) i0_338 rfl rfl ?_
  refine Runs.iload i0_340 rfl ?_
  refine Runs.ifN i0_342 (feq (by decide : ¬ ((1 : Int32) = (0 : Int32)))).1 ?_
  refine Runs.iloadN i0_345 rfl ?_
  refine Runs.ldcI i0_346 (w100 hw) ?_
  refine Runs.icN i0_348 (tlt (own_lt (b := 65536) (by omega) (by omega))).2.1 ?_
  refine Runs.aload i0_351 rfl rfl ?_
  refine Runs.iconst (v := (0 : Int32)) i0_353 (by decide) ?_
  refine Runs.iloadN i0_354 rfl ?_
  refine Runs.i2c (z := (Int32.ofNat N)) i0_355 (own_ccN (by omega)) ?_
  refine Runs.castore (i := 0) (y := (Int32.ofNat N)) i0_356 A_21 ⟨by decide, by decide⟩ (by decide) (Nat.le_of_ble_eq_true rfl) (own_ccN (by omega)) ge_19 (Or.inr (by decide)) ?_
  intro h_22 K_23 (A_24 : Arv Z h_22 b_14 k_15 .char (1 : Int32) [(.int (Int32.ofNat N))] (.int 0))
  refine Runs.goto (t := 393) i0_357 (by decide) ?_
  refine Runs.iload i0_393 rfl ?_
  refine Runs.ifY (t := 419) i0_395 (by decide) (teq (by decide : (0 : Int32) = (0 : Int32))).1 ?_
  have A_25 := ((A_12.keep K_16 nin0).keep K_23 (ninS (Nat.ne_of_lt (Nat.lt_of_lt_of_le (Nat.lt_of_lt_of_le A_9.lt K_11.1) g_18)) nin0))
  refine Runs.weak (D1 := []) (fun _ q => nomatch q) ?_
  refine Runs.mono (kc' := 2) (ks' := 16) (by decide) (by decide) ?_
  exact own_l419 l Z a0 hw n0 _ _ _ _ _ _ _ _ _ _ _ (Or.inl rfl) b_2 b_14 _ _ 1 [(.int (own_8 (Int32.ofNat N)))] ([(Int32.ofNat N)] : List Int32) _ (by simp) (own_aS (own_chN (by omega)) own_a0) A_25 (((E_8.keep K_11).keep K_16).keep K_23) A_24 cpt S_C hcpt S_A S_H S_L fm hfm S_F u8 S_I S_8 E8 (fun a h1 ga hua O0 U0 E0 hn0 => own_ct1n l Z a0 hw n0 N hN a _ u8 _ hua cpt h1 ga O0 U0 E0 hn0 S_C hcpt S_A S_H S_L fm hfm S_F S_I)
theorem own_lf1p (l : Launch) (Z : State) (a0 : Array Value) (hw : Wds Z a0) (n0 : Nat) (p0 p1 p2 : Int32)  (N : Nat) (hN : N < 128) (B : Nat) (hB : B < 128) (cpt : Int32) (S_C : SC Z cpt) (hcpt : ¬ cpt = 0) (S_A : SA Z) (S_H : SH Z) (S_L : SL Z) (fm : Value) (hfm : fm.isRef = true) (S_F : SF Z fm) (u8 : Addr) (S_I : Sta Z Z.heap "sun/nio/cs/UTF_8" "INSTANCE" "Lsun/nio/cs/UTF_8;" (.ref u8)) (S_8 : Sta Z Z.heap "java/nio/charset/StandardCharsets" "UTF_8" "Ljava/nio/charset/Charset;" (.ref u8)) (E8 : Exa Z Z.heap u8 "sun/nio/cs/UTF_8") : Runs 1 l Z [("java/lang/String", 7)] n0 x.cls x.name code maxLocals ret room_1 (fun v h D' => v = some (.int 1)) [] Z.heap 0 0 94 #[vi p0, vi p1, vi p2, vi (Int32.ofNat N), vi (Int32.ofNat B), vi 1, vi 1, vi 1, .unset, .unset, .unset, .unset, .unset] [] := by
  refine Runs.iload i0_94 rfl ?_
  refine Runs.ifN i0_96 (feq (by decide : ¬ ((1 : Int32) = (0 : Int32)))).1 ?_
  refine Runs.iload i0_99 rfl ?_
  refine Runs.goto (t := 105) i0_101 (by decide) ?_
  refine Runs.istore (ls' := #[vi p0, vi p1, vi p2, vi (Int32.ofNat N), vi (Int32.ofNat B), vi 1, vi 1, vi 1, vi 1, .unset, .unset, .unset, .unset]) i0_105 rfl ?_
  refine Runs.iload i0_107 rfl ?_
  refine Runs.iload i0_109 rfl ?_
  refine Runs.ifN i0_111 (feq (by decide : ¬ ((1 : Int32) = (0 : Int32)))).1 ?_
  refine Runs.iconst (v := (1 : Int32)) i0_114 (by decide) ?_
  refine Runs.goto (t := 119) i0_115 (by decide) ?_
  refine Runs.iadd (z := (2 : Int32)) i0_119 (by decide) ?_
  refine Runs.newP (cap := 2) (ad := "[B") i0_120 (w3 hw) (by decide) (by decide) (by decide) (by decide) (by decide) rfl ?_
  intro h_1 b_2 k_3 g_6 ge_7 K_4 (A_5 : Arv Z h_1 b_2 k_3 .byte (2 : Int32) [] (.int 0)) E_8
  have A_9 : Arv Z h_1 b_2 k_3 .byte (2 : Int32) [(.int 0), (.int 0)] (.int 0) := A_5.pad (pad_rep [] (.int 0) 2)
  refine Runs.astore (ls' := #[vi p0, vi p1, vi p2, vi (Int32.ofNat N), vi (Int32.ofNat B), vi 1, vi 1, vi 1, vi 1, vr b_2, .unset, .unset, .unset]) i0_122 rfl rfl ?_
  refine Runs.iload i0_124 rfl ?_
  refine Runs.ifN i0_126 (feq (by decide : ¬ ((1 : Int32) = (0 : Int32)))).1 ?_
  refine Runs.iload i0_129 rfl ?_
  refine Runs.iconst (v := (1 : Int32)) i0_131 (by decide) ?_
  refine Runs.icN i0_132 (teq (by decide : (1 : Int32) = (1 : Int32))).2 ?_
  refine Runs.aload i0_135 rfl rfl ?_
  refine Runs.iconst (v := (0 : Int32)) i0_137 (by decide) ?_
  refine Runs.iloadN i0_138 rfl ?_
  refine Runs.i2b (z := (own_8 (Int32.ofNat N))) i0_139 rfl ?_
  refine Runs.bastore (i := 0) (y := (own_8 (Int32.ofNat N))) i0_140 A_9 ⟨by decide, by decide⟩ (by decide) (Nat.le_of_ble_eq_true rfl) (own_88 _) ge_7 (Or.inl (mi 0 rfl)) ?_
  intro h_10 K_11 (A_12 : Arv Z h_10 b_2 k_3 .byte (2 : Int32) [(.int (own_8 (Int32.ofNat N))), (.int 0)] (.int 0))
  refine Runs.goto (t := 288) i0_141 (by decide) ?_
  refine Runs.iload i0_288 rfl ?_
  refine Runs.ifN i0_290 (feq (by decide : ¬ ((1 : Int32) = (0 : Int32)))).1 ?_
  refine Runs.aload i0_293 rfl rfl ?_
  refine Runs.iload i0_295 rfl ?_
  refine Runs.iload i0_297 rfl ?_
  refine Runs.i2b (z := (own_8 (Int32.ofNat B))) i0_299 rfl ?_
  refine Runs.bastore (i := 1) (y := (own_8 (Int32.ofNat B))) i0_300 A_12 ⟨by decide, by decide⟩ (by decide) (Nat.le_of_ble_eq_true rfl) (own_88 _) ge_7 (Or.inl (mi 0 rfl)) ?_
  intro h_13 K_14 (A_15 : Arv Z h_13 b_2 k_3 .byte (2 : Int32) [(.int (own_8 (Int32.ofNat N))), (.int (own_8 (Int32.ofNat B)))] (.int 0))
  refine Runs.iload i0_301 rfl ?_
  refine Runs.ifN i0_303 (feq (by decide : ¬ ((1 : Int32) = (0 : Int32)))).1 ?_
  refine Runs.iloadN i0_306 rfl ?_
  refine Runs.ldcI i0_307 (w100 hw) ?_
  refine Runs.icN i0_309 (tlt (own_lt (b := 65536) (by omega) (by omega))).2.1 ?_
  refine Runs.iconst (v := (1 : Int32)) i0_312 (by decide) ?_
  refine Runs.goto (t := 321) i0_313 (by decide) ?_
  refine Runs.istore (ls' := #[vi p0, vi p1, vi p2, vi (Int32.ofNat N), vi (Int32.ofNat B), vi 1, vi 1, vi 1, vi 1, vr b_2, vi 1, .unset, .unset]) i0_321 rfl ?_
  refine Runs.iload i0_323 rfl ?_
  refine Runs.iload i0_325 rfl ?_
  refine Runs.ifN i0_327 (feq (by decide : ¬ ((1 : Int32) = (0 : Int32)))).1 ?_
  refine Runs.iconst (v := (1 : Int32)) i0_330 (by decide) ?_
  refine Runs.goto (t := 335) i0_331 (by decide) ?_
  refine Runs.iadd (z := (2 : Int32)) i0_335 (by decide) ?_
  refine Runs.newP (cap := 2) (ad := "[C") i0_336 (w4 hw) (by decide) (by decide) (by decide) (by decide) (by decide) rfl ?_
  intro h_16 b_17 k_18 g_21 ge_22 K_19 (A_20 : Arv Z h_16 b_17 k_18 .char (2 : Int32) [] (.int 0)) E_23
  have A_24 : Arv Z h_16 b_17 k_18 .char (2 : Int32) [(.int 0), (.int 0)] (.int 0) := A_20.pad (pad_rep [] (.int 0) 2)
  refine Runs.astore (ls' := #[vi p0, vi p1, vi p2, vi (Int32.ofNat N), vi (Int32.ofNat B), vi 1, vi 1, vi 1, vi 1, vr b_2, vi 1, vr b_17, .unset]) i0_338 rfl rfl ?_
  refine Runs.iload i0_340 rfl ?_
  refine Runs.ifN i0_342 (feq (by decide : ¬ ((1 : Int32) = (0 : Int32)))).1 ?_
  refine Runs.iloadN i0_345 rfl ?_
  refine Runs.ldcI i0_346 (w100 hw) ?_
  refine Runs.icN i0_348 (tlt (own_lt (b := 65536) (by omega) (by omega))).2.1 ?_
  refine Runs.aload i0_351 rfl rfl ?_
  refine Runs.iconst (v := (0 : Int32)) i0_353 (by decide) ?_
  refine Runs.iloadN i0_354 rfl ?_
  refine Runs.i2c (z := (Int32.ofNat N)) i0_355 (own_ccN (by omega)) ?_
  refine Runs.castore (i := 0) (y := (Int32.ofNat N)) i0_356 A_24 ⟨by decide, by decide⟩ (by decide) (Nat.le_of_ble_eq_true rfl) (own_ccN (by omega)) ge_22 (Or.inr (by decide)) ?_
  intro h_25 K_26 (A_27 : Arv Z h_25 b_17 k_18 .char (2 : Int32) [(.int (Int32.ofNat N)), (.int 0)] (.int 0))
  refine Runs.goto (t := 393) i0_357 (by decide) ?_
  refine Runs.iload i0_393 rfl ?_
  refine Runs.ifN i0_395 (feq (by decide : ¬ ((1 : Int32) = (0 : Int32)))).1 ?_
  refine Runs.aload i0_398 rfl rfl ?_
  refine Runs.iload i0_400 rfl ?_
  refine Runs.iload i0_402 rfl ?_
  refine Runs.sipush (v := (128 : Int32)) i0_404 (by decide) ?_
  refine Runs.icN i0_407 (tlt (own_lt (b := 128) hB (by omega))).2.1 ?_
  refine Runs.iload i0_410 rfl ?_
  refine Runs.i2c (z := (Int32.ofNat B)) i0_412 (own_ccN (by omega)) ?_
  refine Runs.goto (t := 418) i0_413 (by decide) ?_
  refine Runs.castore (i := 1) (y := (Int32.ofNat B)) i0_418 A_27 ⟨by decide, by decide⟩ (by decide) (Nat.le_of_ble_eq_true rfl) (own_ccN (by omega)) ge_22 (Or.inr (by decide)) ?_
  intro h_28 K_29 (A_30 : Arv Z h_28 b_17 k_18 .char (2 : Int32) [(.int (Int32.ofNat N)), (.int (Int32.ofNat B))] (.int 0))
  have A_31 := (((A_15.keep K_19 nin0).keep K_26 (ninS (Nat.ne_of_lt (Nat.lt_of_lt_of_le (Nat.lt_of_lt_of_le A_9.lt (Nat.le_trans K_11.1 K_14.1)) g_21)) nin0)).keep K_29 (ninS (Nat.ne_of_lt (Nat.lt_of_lt_of_le (Nat.lt_of_lt_of_le A_9.lt (Nat.le_trans K_11.1 K_14.1)) g_21)) nin0))
  refine Runs.weak (D1 := []) (fun _ q => nomatch q) ?_
  refine Runs.mono (kc' := 2) (ks' := 16) (by decide) (by decide) ?_
  exact own_l419 l Z a0 hw n0 _ _ _ _ _ _ _ _ _ _ _ (Or.inl rfl) b_2 b_17 _ _ 2 [(.int (own_8 (Int32.ofNat N))), (.int (own_8 (Int32.ofNat B)))] ([(Int32.ofNat N), (Int32.ofNat B)] : List Int32) _ (by simp) (own_aS (own_chN (by omega)) (own_aS (own_chN (by omega)) own_a0)) A_31 (((((E_8.keep K_11).keep K_14).keep K_19).keep K_26).keep K_29) A_30 cpt S_C hcpt S_A S_H S_L fm hfm S_F u8 S_I S_8 E8 (fun a h1 ga hua O0 U0 E0 hn0 => own_ct1p l Z a0 hw n0 N hN B hB a _ u8 _ hua cpt h1 ga O0 U0 E0 hn0 S_C hcpt S_A S_H S_L fm hfm S_F S_I)
theorem own_lf1g (l : Launch) (Z : State) (a0 : Array Value) (hw : Wds Z a0) (n0 : Nat) (p0 p1 p2 : Int32)  (N : Nat) (hN : N < 128) (B : Nat) (hB : 128 ≤ B ∧ B < 256) (cpt : Int32) (S_C : SC Z cpt) (hcpt : ¬ cpt = 0) (S_A : SA Z) (S_H : SH Z) (S_L : SL Z) (fm : Value) (hfm : fm.isRef = true) (S_F : SF Z fm) (u8 : Addr) (S_I : Sta Z Z.heap "sun/nio/cs/UTF_8" "INSTANCE" "Lsun/nio/cs/UTF_8;" (.ref u8)) (S_8 : Sta Z Z.heap "java/nio/charset/StandardCharsets" "UTF_8" "Ljava/nio/charset/Charset;" (.ref u8)) (E8 : Exa Z Z.heap u8 "sun/nio/cs/UTF_8") : Runs 1 l Z [("java/lang/String", 7)] n0 x.cls x.name code maxLocals ret room_1 (fun v h D' => v = some (.int 1)) [] Z.heap 0 0 94 #[vi p0, vi p1, vi p2, vi (Int32.ofNat N), vi (Int32.ofNat B), vi 1, vi 1, vi 1, .unset, .unset, .unset, .unset, .unset] [] := by
  refine Runs.iload i0_94 rfl ?_
  refine Runs.ifN i0_96 (feq (by decide : ¬ ((1 : Int32) = (0 : Int32)))).1 ?_
  refine Runs.iload i0_99 rfl ?_
  refine Runs.goto (t := 105) i0_101 (by decide) ?_
  refine Runs.istore (ls' := #[vi p0, vi p1, vi p2, vi (Int32.ofNat N), vi (Int32.ofNat B), vi 1, vi 1, vi 1, vi 1, .unset, .unset, .unset, .unset]) i0_105 rfl ?_
  refine Runs.iload i0_107 rfl ?_
  refine Runs.iload i0_109 rfl ?_
  refine Runs.ifN i0_111 (feq (by decide : ¬ ((1 : Int32) = (0 : Int32)))).1 ?_
  refine Runs.iconst (v := (1 : Int32)) i0_114 (by decide) ?_
  refine Runs.goto (t := 119) i0_115 (by decide) ?_
  refine Runs.iadd (z := (2 : Int32)) i0_119 (by decide) ?_
  refine Runs.newP (cap := 2) (ad := "[B") i0_120 (w3 hw) (by decide) (by decide) (by decide) (by decide) (by decide) rfl ?_
  intro h_1 b_2 k_3 g_6 ge_7 K_4 (A_5 : Arv Z h_1 b_2 k_3 .byte (2 : Int32) [] (.int 0)) E_8
  have A_9 : Arv Z h_1 b_2 k_3 .byte (2 : Int32) [(.int 0), (.int 0)] (.int 0) := A_5.pad (pad_rep [] (.int 0) 2)
  refine Runs.astore (ls' := #[vi p0, vi p1, vi p2, vi (Int32.ofNat N), vi (Int32.ofNat B), vi 1, vi 1, vi 1, vi 1, vr b_2, .unset, .unset, .unset]) i0_122 rfl rfl ?_
  refine Runs.iload i0_124 rfl ?_
  refine Runs.ifN i0_126 (feq (by decide : ¬ ((1 : Int32) = (0 : Int32)))).1 ?_
  refine Runs.iload i0_129 rfl ?_
  refine Runs.iconst (v := (1 : Int32)) i0_131 (by decide) ?_
  refine Runs.icN i0_132 (teq (by decide : (1 : Int32) = (1 : Int32))).2 ?_
  refine Runs.aload i0_135 rfl rfl ?_
  refine Runs.iconst (v := (0 : Int32)) i0_137 (by decide) ?_
  refine Runs.iloadN i0_138 rfl ?_
  refine Runs.i2b (z := (own_8 (Int32.ofNat N))) i0_139 rfl ?_
  refine Runs.bastore (i := 0) (y := (own_8 (Int32.ofNat N))) i0_140 A_9 ⟨by decide, by decide⟩ (by decide) (Nat.le_of_ble_eq_true rfl) (own_88 _) ge_7 (Or.inl (mi 0 rfl)) ?_
  intro h_10 K_11 (A_12 : Arv Z h_10 b_2 k_3 .byte (2 : Int32) [(.int (own_8 (Int32.ofNat N))), (.int 0)] (.int 0))
  refine Runs.goto (t := 288) i0_141 (by decide) ?_
  refine Runs.iload i0_288 rfl ?_
  refine Runs.ifN i0_290 (feq (by decide : ¬ ((1 : Int32) = (0 : Int32)))).1 ?_
  refine Runs.aload i0_293 rfl rfl ?_
  refine Runs.iload i0_295 rfl ?_
  refine Runs.iload i0_297 rfl ?_
  refine Runs.i2b (z := (own_8 (Int32.ofNat B))) i0_299 rfl ?_
  refine Runs.bastore (i := 1) (y := (own_8 (Int32.ofNat B))) i0_300 A_12 ⟨by decide, by decide⟩ (by decide) (Nat.le_of_ble_eq_true rfl) (own_88 _) ge_7 (Or.inl (mi 0 rfl)) ?_
  intro h_13 K_14 (A_15 : Arv Z h_13 b_2 k_3 .byte (2 : Int32) [(.int (own_8 (Int32.ofNat N))), (.int (own_8 (Int32.ofNat B)))] (.int 0))
  refine Runs.iload i0_301 rfl ?_
  refine Runs.ifN i0_303 (feq (by decide : ¬ ((1 : Int32) = (0 : Int32)))).1 ?_
  refine Runs.iloadN i0_306 rfl ?_
  refine Runs.ldcI i0_307 (w100 hw) ?_
  refine Runs.icN i0_309 (tlt (own_lt (b := 65536) (by omega) (by omega))).2.1 ?_
  refine Runs.iconst (v := (1 : Int32)) i0_312 (by decide) ?_
  refine Runs.goto (t := 321) i0_313 (by decide) ?_
  refine Runs.istore (ls' := #[vi p0, vi p1, vi p2, vi (Int32.ofNat N), vi (Int32.ofNat B), vi 1, vi 1, vi 1, vi 1, vr b_2, vi 1, .unset, .unset]) i0_321 rfl ?_
  refine Runs.iload i0_323 rfl ?_
  refine Runs.iload i0_325 rfl ?_
  refine Runs.ifN i0_327 (feq (by decide : ¬ ((1 : Int32) = (0 : Int32)))).1 ?_
  refine Runs.iconst (v := (1 : Int32)) i0_330 (by decide) ?_
  refine Runs.goto (t := 335) i0_331 (by decide) ?_
  refine Runs.iadd (z := (2 : Int32)) i0_335 (by decide) ?_
  refine Runs.newP (cap := 2) (ad := "[C") i0_336 (w4 hw) (by decide) (by decide) (by decide) (by decide) (by decide) rfl ?_
  intro h_16 b_17 k_18 g_21 ge_22 K_19 (A_20 : Arv Z h_16 b_17 k_18 .char (2 : Int32) [] (.int 0)) E_23
  have A_24 : Arv Z h_16 b_17 k_18 .char (2 : Int32) [(.int 0), (.int 0)] (.int 0) := A_20.pad (pad_rep [] (.int 0) 2)
  refine Runs.astore (ls' := #[vi p0, vi p1, vi p2, vi (Int32.ofNat N), vi (Int32.ofNat B), vi 1, vi 1, vi 1, vi 1, vr b_2, vi 1, vr b_17, .unset]) i0_338 rfl rfl ?_
  refine Runs.iload i0_340 rfl ?_
  refine Runs.ifN i0_342 (feq (by decide : ¬ ((1 : Int32) = (0 : Int32)))).1 ?_
  refine Runs.iloadN i0_345 rfl ?_
  refine Runs.ldcI i0_346 (w100 hw) ?_
  refine Runs.icN i0_348 (tlt (own_lt (b := 65536) (by omega) (by omega))).2.1 ?_
  refine Runs.aload i0_351 rfl rfl ?_
  refine Runs.iconst (v := (0 : Int32)) i0_353 (by decide) ?_
  refine Runs.iloadN i0_354 rfl ?_
  refine Runs.i2c (z := (Int32.ofNat N)) i0_355 (own_ccN (by omega)) ?_
  refine Runs.castore (i := 0) (y := (Int32.ofNat N)) i0_356 A_24 ⟨by decide, by decide⟩ (by decide) (Nat.le_of_ble_eq_true rfl) (own_ccN (by omega)) ge_22 (Or.inr (by decide)) ?_
  intro h_25 K_26 (A_27 : Arv Z h_25 b_17 k_18 .char (2 : Int32) [(.int (Int32.ofNat N)), (.int 0)] (.int 0))
  refine Runs.goto (t := 393) i0_357 (by decide) ?_
  refine Runs.iload i0_393 rfl ?_
  refine Runs.ifN i0_395 (feq (by decide : ¬ ((1 : Int32) = (0 : Int32)))).1 ?_
  refine Runs.aload i0_398 rfl rfl ?_
  refine Runs.iload i0_400 rfl ?_
  refine Runs.iload i0_402 rfl ?_
  refine Runs.sipush (v := (128 : Int32)) i0_404 (by decide) ?_
  refine Runs.icY (t := 416) i0_407 (by decide) (flt (own_nlt (b := 128) hB.1 (by omega))).2.1 ?_
  refine Runs.ldcI i0_416 (w185 hw) ?_
  refine Runs.castore (i := 1) (y := (65533 : Int32)) i0_418 A_27 ⟨by decide, by decide⟩ (by decide) (Nat.le_of_ble_eq_true rfl) (by decide) ge_22 (Or.inr (by decide)) ?_
  intro h_28 K_29 (A_30 : Arv Z h_28 b_17 k_18 .char (2 : Int32) [(.int (Int32.ofNat N)), (.int 65533)] (.int 0))
  have A_31 := (((A_15.keep K_19 nin0).keep K_26 (ninS (Nat.ne_of_lt (Nat.lt_of_lt_of_le (Nat.lt_of_lt_of_le A_9.lt (Nat.le_trans K_11.1 K_14.1)) g_21)) nin0)).keep K_29 (ninS (Nat.ne_of_lt (Nat.lt_of_lt_of_le (Nat.lt_of_lt_of_le A_9.lt (Nat.le_trans K_11.1 K_14.1)) g_21)) nin0))
  refine Runs.weak (D1 := []) (fun _ q => nomatch q) ?_
  refine Runs.mono (kc' := 2) (ks' := 16) (by decide) (by decide) ?_
  exact own_l419 l Z a0 hw n0 _ _ _ _ _ _ _ _ _ _ _ (Or.inl rfl) b_2 b_17 _ _ 2 [(.int (own_8 (Int32.ofNat N))), (.int (own_8 (Int32.ofNat B)))] ([(Int32.ofNat N), (65533 : Int32)] : List Int32) _ (by simp) (own_aS (own_chN (by omega)) (own_aS ⟨by decide, by decide⟩ own_a0)) A_31 (((((E_8.keep K_11).keep K_14).keep K_19).keep K_26).keep K_29) A_30 cpt S_C hcpt S_A S_H S_L fm hfm S_F u8 S_I S_8 E8 (fun a h1 ga hua O0 U0 E0 hn0 => own_ct1g l Z a0 hw n0 N hN B hB a _ u8 _ hua cpt h1 ga O0 U0 E0 hn0 S_C hcpt S_A S_H S_L fm hfm S_F S_I)
theorem own_lf2Ln (l : Launch) (Z : State) (a0 : Array Value) (hw : Wds Z a0) (n0 : Nat) (p0 p1 p2 : Int32) (bb : Int32)  (N : Nat) (hN : 128 ≤ N ∧ N < 256) (cpt : Int32) (S_C : SC Z cpt) (hcpt : ¬ cpt = 0) (S_A : SA Z) (S_H : SH Z) (S_L : SL Z) (fm : Value) (hfm : fm.isRef = true) (S_F : SF Z fm) (u8 : Addr) (S_I : Sta Z Z.heap "sun/nio/cs/UTF_8" "INSTANCE" "Lsun/nio/cs/UTF_8;" (.ref u8)) (S_8 : Sta Z Z.heap "java/nio/charset/StandardCharsets" "UTF_8" "Ljava/nio/charset/Charset;" (.ref u8)) (E8 : Exa Z Z.heap u8 "sun/nio/cs/UTF_8") : Runs 1 l Z [("java/lang/String", 7)] n0 x.cls x.name code maxLocals ret room_1 (fun v h D' => v = some (.int 1)) [] Z.heap 0 0 94 #[vi p0, vi p1, vi p2, vi (Int32.ofNat N), vi bb, vi 1, vi 0, vi 2, .unset, .unset, .unset, .unset, .unset] [] := by
  refine Runs.iload i0_94 rfl ?_
  refine Runs.ifN i0_96 (feq (by decide : ¬ ((1 : Int32) = (0 : Int32)))).1 ?_
  refine Runs.iload i0_99 rfl ?_
  refine Runs.goto (t := 105) i0_101 (by decide) ?_
  refine Runs.istore (ls' := #[vi p0, vi p1, vi p2, vi (Int32.ofNat N), vi bb, vi 1, vi 0, vi 2, vi 2, .unset, .unset, .unset, .unset]) i0_105 rfl ?_
  refine Runs.iload i0_107 rfl ?_
  refine Runs.iload i0_109 rfl ?_
  refine Runs.ifY (t := 118) i0_111 (by decide) (teq (by decide : (0 : Int32) = (0 : Int32))).1 ?_
  refine Runs.iconst (v := (0 : Int32)) i0_118 (by decide) ?_
  refine Runs.iadd (z := (2 : Int32)) i0_119 (by decide) ?_
  refine Runs.newP (cap := 2) (ad := "[B") i0_120 (w3 hw) (by decide) (by decide) (by decide) (by decide) (by decide) rfl ?_
  intro h_1 b_2 k_3 g_6 ge_7 K_4 (A_5 : Arv Z h_1 b_2 k_3 .byte (2 : Int32) [] (.int 0)) E_8
  have A_9 : Arv Z h_1 b_2 k_3 .byte (2 : Int32) [(.int 0), (.int 0)] (.int 0) := A_5.pad (pad_rep [] (.int 0) 2)
  refine Runs.astore (ls' := #[vi p0, vi p1, vi p2, vi (Int32.ofNat N), vi bb, vi 1, vi 0, vi 2, vi 2, vr b_2, .unset, .unset, .unset]) i0_122 rfl rfl ?_
  refine Runs.iload i0_124 rfl ?_
  refine Runs.ifN i0_126 (feq (by decide : ¬ ((1 : Int32) = (0 : Int32)))).1 ?_
  refine Runs.iload i0_129 rfl ?_
  refine Runs.iconst (v := (1 : Int32)) i0_131 (by decide) ?_
  refine Runs.icY (t := 144) i0_132 (by decide) (feq (by decide : ¬ ((2 : Int32) = (1 : Int32)))).2 ?_
  refine Runs.iload i0_144 rfl ?_
  refine Runs.iconst (v := (2 : Int32)) i0_146 (by decide) ?_
  refine Runs.icN i0_147 (teq (by decide : (2 : Int32) = (2 : Int32))).2 ?_
  refine Runs.aload i0_150 rfl rfl ?_
  refine Runs.iconst (v := (0 : Int32)) i0_152 (by decide) ?_
  refine Runs.sipush (v := (192 : Int32)) i0_153 (by decide) ?_
  refine Runs.iloadN i0_156 rfl ?_
  refine Runs.bipush (v := (6 : Int32)) i0_157 (by decide) ?_
  refine Runs.ishr (z := (Int32.ofNat (N / 64))) i0_159 (own_shrN (k := 6) (by omega) (by decide)) ?_
  refine Runs.ior (z := ((192 : Int32) ||| (Int32.ofNat (N / 64)))) i0_160 rfl ?_
  refine Runs.i2b (z := (own_8 ((192 : Int32) ||| (Int32.ofNat (N / 64))))) i0_161 rfl ?_
  refine Runs.bastore (i := 0) (y := (own_8 ((192 : Int32) ||| (Int32.ofNat (N / 64))))) i0_162 A_9 ⟨by decide, by decide⟩ (by decide) (Nat.le_of_ble_eq_true rfl) (own_88 _) ge_7 (Or.inl (mi 0 rfl)) ?_
  intro h_10 K_11 (A_12 : Arv Z h_10 b_2 k_3 .byte (2 : Int32) [(.int (own_8 ((192 : Int32) ||| (Int32.ofNat (N / 64))))), (.int 0)] (.int 0))
  refine Runs.aload i0_163 rfl rfl ?_
  refine Runs.iconst (v := (1 : Int32)) i0_165 (by decide) ?_
  refine Runs.sipush (v := (128 : Int32)) i0_166 (by decide) ?_
  refine Runs.iloadN i0_169 rfl ?_
  refine Runs.bipush (v := (63 : Int32)) i0_170 (by decide) ?_
  refine Runs.iand (z := (Int32.ofNat (N % 64))) i0_172 (own_andN (k := 6) (by omega) (by decide) (by decide)) ?_
  refine Runs.ior (z := ((128 : Int32) ||| (Int32.ofNat (N % 64)))) i0_173 rfl ?_
  refine Runs.i2b (z := (own_8 ((128 : Int32) ||| (Int32.ofNat (N % 64))))) i0_174 rfl ?_
  refine Runs.bastore (i := 1) (y := (own_8 ((128 : Int32) ||| (Int32.ofNat (N % 64))))) i0_175 A_12 ⟨by decide, by decide⟩ (by decide) (Nat.le_of_ble_eq_true rfl) (own_88 _) ge_7 (Or.inl (mi 0 rfl)) ?_
  intro h_13 K_14 (A_15 : Arv Z h_13 b_2 k_3 .byte (2 : Int32) [(.int (own_8 ((192 : Int32) ||| (Int32.ofNat (N / 64))))), (.int (own_8 ((128 : Int32) ||| (Int32.ofNat (N % 64)))))] (.int 0))
  refine Runs.goto (t := 288) i0_176 (by decide) ?_
  refine Runs.iload i0_288 rfl ?_
  refine Runs.ifY (t := 301) i0_290 (by decide) (teq (by decide : (0 : Int32) = (0 : Int32))).1 ?_
  refine Runs.iload i0_301 rfl ?_
  refine Runs.ifN i0_303 (feq (by decide : ¬ ((1 : Int32) = (0 : Int32)))).1 ?_
  refine Runs.iloadN i0_306 rfl ?_
  refine Runs.ldcI i0_307 (w100 hw) ?_
  refine Runs.icN i0_309 (tlt (own_lt (b := 65536) (by omega) (by omega))).2.1 ?_
  refine Runs.iconst (v := (1 : Int32)) i0_312 (by decide) ?_
  refine Runs.goto (t := 321) i0_313 (by decide) ?_
  refine Runs.istore (ls' := #[vi p0, vi p1, vi p2, vi (Int32.ofNat N), vi bb, vi 1, vi 0, vi 2, vi 2, vr b_2, vi 1, .unset, .unset]) i0_321 rfl ?_
  refine Runs.iload i0_323 rfl ?_
  refine Runs.iload i0_325 rfl ?_
  refine Runs.ifY (t := 334) i0_327 (by decide) (teq (by decide : (0 : Int32) = (0 : Int32))).1 ?_
  refine Runs.iconst (v := (0 : Int32)) i0_334 (by decide) ?_
  refine Runs.iadd (z := (1 : Int32)) i0_335 (by decide) ?_
  refine Runs.newP (cap := 1) (ad := "[C") i0_336 (w4 hw) (by decide) (by decide) (by decide) (by decide) (by decide) rfl ?_
  intro h_16 b_17 k_18 g_21 ge_22 K_19 (A_20 : Arv Z h_16 b_17 k_18 .char (1 : Int32) [] (.int 0)) E_23
  have A_24 : Arv Z h_16 b_17 k_18 .char (1 : Int32) [(.int 0)] (.int 0) := A_20.pad (pad_rep [] (.int 0) 1)
  refine Runs.astore (ls' := #[vi p0, vi p1, vi p2, vi (Int32.ofNat N), vi bb, vi 1, vi 0, vi 2, vi 2, vr b_2, vi 1, vr b_17, .unset]) i0_338 rfl rfl ?_
  refine Runs.iload i0_340 rfl ?_
  refine Runs.ifN i0_342 (feq (by decide : ¬ ((1 : Int32) = (0 : Int32)))).1 ?_
  refine Runs.iloadN i0_345 rfl ?_
  refine Runs.ldcI i0_346 (w100 hw) ?_
  refine Runs.icN i0_348 (tlt (own_lt (b := 65536) (by omega) (by omega))).2.1 ?_
  refine Runs.aload i0_351 rfl rfl ?_
  refine Runs.iconst (v := (0 : Int32)) i0_353 (by decide) ?_
  refine Runs.iloadN i0_354 rfl ?_
  refine Runs.i2c (z := (Int32.ofNat N)) i0_355 (own_ccN (by omega)) ?_
  refine Runs.castore (i := 0) (y := (Int32.ofNat N)) i0_356 A_24 ⟨by decide, by decide⟩ (by decide) (Nat.le_of_ble_eq_true rfl) (own_ccN (by omega)) ge_22 (Or.inr (by decide)) ?_
  intro h_25 K_26 (A_27 : Arv Z h_25 b_17 k_18 .char (1 : Int32) [(.int (Int32.ofNat N))] (.int 0))
  refine Runs.goto (t := 393) i0_357 (by decide) ?_
  refine Runs.iload i0_393 rfl ?_
  refine Runs.ifY (t := 419) i0_395 (by decide) (teq (by decide : (0 : Int32) = (0 : Int32))).1 ?_
  have A_28 := ((A_15.keep K_19 nin0).keep K_26 (ninS (Nat.ne_of_lt (Nat.lt_of_lt_of_le (Nat.lt_of_lt_of_le A_9.lt (Nat.le_trans K_11.1 K_14.1)) g_21)) nin0))
  refine Runs.weak (D1 := []) (fun _ q => nomatch q) ?_
  refine Runs.mono (kc' := 2) (ks' := 16) (by decide) (by decide) ?_
  exact own_l419 l Z a0 hw n0 _ _ _ _ _ _ _ _ _ _ _ (Or.inl rfl) b_2 b_17 _ _ 2 [(.int (own_8 ((192 : Int32) ||| (Int32.ofNat (N / 64))))), (.int (own_8 ((128 : Int32) ||| (Int32.ofNat (N % 64)))))] ([(Int32.ofNat N)] : List Int32) _ (by simp) (own_aS (own_chN (by omega)) own_a0) A_28 ((((E_8.keep K_11).keep K_14).keep K_19).keep K_26) A_27 cpt S_C hcpt S_A S_H S_L fm hfm S_F u8 S_I S_8 E8 (fun a h1 ga hua O0 U0 E0 hn0 => own_ct2Ln l Z a0 hw n0 N hN a _ u8 _ hua cpt h1 ga O0 U0 E0 hn0 S_C hcpt S_A S_H S_L fm hfm S_F S_I)
theorem own_lf2Lp (l : Launch) (Z : State) (a0 : Array Value) (hw : Wds Z a0) (n0 : Nat) (p0 p1 p2 : Int32)  (N : Nat) (hN : 128 ≤ N ∧ N < 256) (B : Nat) (hB : B < 128) (cpt : Int32) (S_C : SC Z cpt) (hcpt : ¬ cpt = 0) (S_A : SA Z) (S_H : SH Z) (S_L : SL Z) (fm : Value) (hfm : fm.isRef = true) (S_F : SF Z fm) (u8 : Addr) (S_I : Sta Z Z.heap "sun/nio/cs/UTF_8" "INSTANCE" "Lsun/nio/cs/UTF_8;" (.ref u8)) (S_8 : Sta Z Z.heap "java/nio/charset/StandardCharsets" "UTF_8" "Ljava/nio/charset/Charset;" (.ref u8)) (E8 : Exa Z Z.heap u8 "sun/nio/cs/UTF_8") : Runs 1 l Z [("java/lang/String", 7)] n0 x.cls x.name code maxLocals ret room_1 (fun v h D' => v = some (.int 1)) [] Z.heap 0 0 94 #[vi p0, vi p1, vi p2, vi (Int32.ofNat N), vi (Int32.ofNat B), vi 1, vi 1, vi 2, .unset, .unset, .unset, .unset, .unset] [] := by
  refine Runs.iload i0_94 rfl ?_
  refine Runs.ifN i0_96 (feq (by decide : ¬ ((1 : Int32) = (0 : Int32)))).1 ?_
  refine Runs.iload i0_99 rfl ?_
  refine Runs.goto (t := 105) i0_101 (by decide) ?_
  refine Runs.istore (ls' := #[vi p0, vi p1, vi p2, vi (Int32.ofNat N), vi (Int32.ofNat B), vi 1, vi 1, vi 2, vi 2, .unset, .unset, .unset, .unset]) i0_105 rfl ?_
  refine Runs.iload i0_107 rfl ?_
  refine Runs.iload i0_109 rfl ?_
  refine Runs.ifN i0_111 (feq (by decide : ¬ ((1 : Int32) = (0 : Int32)))).1 ?_
  refine Runs.iconst (v := (1 : Int32)) i0_114 (by decide) ?_
  refine Runs.goto (t := 119) i0_115 (by decide) ?_
  refine Runs.iadd (z := (3 : Int32)) i0_119 (by decide) ?_
  refine Runs.newP (cap := 3) (ad := "[B") i0_120 (w3 hw) (by decide) (by decide) (by decide) (by decide) (by decide) rfl ?_
  intro h_1 b_2 k_3 g_6 ge_7 K_4 (A_5 : Arv Z h_1 b_2 k_3 .byte (3 : Int32) [] (.int 0)) E_8
  have A_9 : Arv Z h_1 b_2 k_3 .byte (3 : Int32) [(.int 0), (.int 0), (.int 0)] (.int 0) := A_5.pad (pad_rep [] (.int 0) 3)
  refine Runs.astore (ls' := #[vi p0, vi p1, vi p2, vi (Int32.ofNat N), vi (Int32.ofNat B), vi 1, vi 1, vi 2, vi 2, vr b_2, .unset, .unset, .unset]) i0_122 rfl rfl ?_
  refine Runs.iload i0_124 rfl ?_
  refine Runs.ifN i0_126 (feq (by decide : ¬ ((1 : Int32) = (0 : Int32)))).1 ?_
  refine Runs.iload i0_129 rfl ?_
  refine Runs.iconst (v := (1 : Int32)) i0_131 (by decide) ?_
  refine Runs.icY (t := 144) i0_132 (by decide) (feq (by decide : ¬ ((2 : Int32) = (1 : Int32)))).2 ?_
  refine Runs.iload i0_144 rfl ?_
  refine Runs.iconst (v := (2 : Int32)) i0_146 (by decide) ?_
  refine Runs.icN i0_147 (teq (by decide : (2 : Int32) = (2 : Int32))).2 ?_
  refine Runs.aload i0_150 rfl rfl ?_
  refine Runs.iconst (v := (0 : Int32)) i0_152 (by decide) ?_
  refine Runs.sipush (v := (192 : Int32)) i0_153 (by decide) ?_
  refine Runs.iloadN i0_156 rfl ?_
  refine Runs.bipush (v := (6 : Int32)) i0_157 (by decide) ?_
  refine Runs.ishr (z := (Int32.ofNat (N / 64))) i0_159 (own_shrN (k := 6) (by omega) (by decide)) ?_
  refine Runs.ior (z := ((192 : Int32) ||| (Int32.ofNat (N / 64)))) i0_160 rfl ?_
  refine Runs.i2b (z := (own_8 ((192 : Int32) ||| (Int32.ofNat (N / 64))))) i0_161 rfl ?_
  refine Runs.bastore (i := 0) (y := (own_8 ((192 : Int32) ||| (Int32.ofNat (N / 64))))) i0_162 A_9 ⟨by decide, by decide⟩ (by decide) (Nat.le_of_ble_eq_true rfl) (own_88 _) ge_7 (Or.inl (mi 0 rfl)) ?_
  intro h_10 K_11 (A_12 : Arv Z h_10 b_2 k_3 .byte (3 : Int32) [(.int (own_8 ((192 : Int32) ||| (Int32.ofNat (N / 64))))), (.int 0), (.int 0)] (.int 0))
  refine Runs.aload i0_163 rfl rfl ?_
  refine Runs.iconst (v := (1 : Int32)) i0_165 (by decide) ?_
  refine Runs.sipush (v := (128 : Int32)) i0_166 (by decide) ?_
  refine Runs.iloadN i0_169 rfl ?_
  refine Runs.bipush (v := (63 : Int32)) i0_170 (by decide) ?_
  refine Runs.iand (z := (Int32.ofNat (N % 64))) i0_172 (own_andN (k := 6) (by omega) (by decide) (by decide)) ?_
  refine Runs.ior (z := ((128 : Int32) ||| (Int32.ofNat (N % 64)))) i0_173 rfl ?_
  refine Runs.i2b (z := (own_8 ((128 : Int32) ||| (Int32.ofNat (N % 64))))) i0_174 rfl ?_
  refine Runs.bastore (i := 1) (y := (own_8 ((128 : Int32) ||| (Int32.ofNat (N % 64))))) i0_175 A_12 ⟨by decide, by decide⟩ (by decide) (Nat.le_of_ble_eq_true rfl) (own_88 _) ge_7 (Or.inl (mi 0 rfl)) ?_
  intro h_13 K_14 (A_15 : Arv Z h_13 b_2 k_3 .byte (3 : Int32) [(.int (own_8 ((192 : Int32) ||| (Int32.ofNat (N / 64))))), (.int (own_8 ((128 : Int32) ||| (Int32.ofNat (N % 64))))), (.int 0)] (.int 0))
  refine Runs.goto (t := 288) i0_176 (by decide) ?_
  refine Runs.iload i0_288 rfl ?_
  refine Runs.ifN i0_290 (feq (by decide : ¬ ((1 : Int32) = (0 : Int32)))).1 ?_
  refine Runs.aload i0_293 rfl rfl ?_
  refine Runs.iload i0_295 rfl ?_
  refine Runs.iload i0_297 rfl ?_
  refine Runs.i2b (z := (own_8 (Int32.ofNat B))) i0_299 rfl ?_
  refine Runs.bastore (i := 2) (y := (own_8 (Int32.ofNat B))) i0_300 A_15 ⟨by decide, by decide⟩ (by decide) (Nat.le_of_ble_eq_true rfl) (own_88 _) ge_7 (Or.inl (mi 0 rfl)) ?_
  intro h_16 K_17 (A_18 : Arv Z h_16 b_2 k_3 .byte (3 : Int32) [(.int (own_8 ((192 : Int32) ||| (Int32.ofNat (N / 64))))), (.int (own_8 ((128 : Int32) ||| (Int32.ofNat (N % 64))))), (.int (own_8 (Int32.ofNat B)))] (.int 0))
  refine Runs.iload i0_301 rfl ?_
  refine Runs.ifN i0_303 (feq (by decide : ¬ ((1 : Int32) = (0 : Int32)))).1 ?_
  refine Runs.iloadN i0_306 rfl ?_
  refine Runs.ldcI i0_307 (w100 hw) ?_
  refine Runs.icN i0_309 (tlt (own_lt (b := 65536) (by omega) (by omega))).2.1 ?_
  refine Runs.iconst (v := (1 : Int32)) i0_312 (by decide) ?_
  refine Runs.goto (t := 321) i0_313 (by decide) ?_
  refine Runs.istore (ls' := #[vi p0, vi p1, vi p2, vi (Int32.ofNat N), vi (Int32.ofNat B), vi 1, vi 1, vi 2, vi 2, vr b_2, vi 1, .unset, .unset]) i0_321 rfl ?_
  refine Runs.iload i0_323 rfl ?_
  refine Runs.iload i0_325 rfl ?_
  refine Runs.ifN i0_327 (feq (by decide : ¬ ((1 : Int32) = (0 : Int32)))).1 ?_
  refine Runs.iconst (v := (1 : Int32)) i0_330 (by decide) ?_
  refine Runs.goto (t := 335) i0_331 (by decide) ?_
  refine Runs.iadd (z := (2 : Int32)) i0_335 (by decide) ?_
  refine Runs.newP (cap := 2) (ad := "[C") i0_336 (w4 hw) (by decide) (by decide) (by decide) (by decide) (by decide) rfl ?_
  intro h_19 b_20 k_21 g_24 ge_25 K_22 (A_23 : Arv Z h_19 b_20 k_21 .char (2 : Int32) [] (.int 0)) E_26
  have A_27 : Arv Z h_19 b_20 k_21 .char (2 : Int32) [(.int 0), (.int 0)] (.int 0) := A_23.pad (pad_rep [] (.int 0) 2)
  refine Runs.astore (ls' := #[vi p0, vi p1, vi p2, vi (Int32.ofNat N), vi (Int32.ofNat B), vi 1, vi 1, vi 2, vi 2, vr b_2, vi 1, vr b_20, .unset]) i0_338 rfl rfl ?_
  refine Runs.iload i0_340 rfl ?_
  refine Runs.ifN i0_342 (feq (by decide : ¬ ((1 : Int32) = (0 : Int32)))).1 ?_
  refine Runs.iloadN i0_345 rfl ?_
  refine Runs.ldcI i0_346 (w100 hw) ?_
  refine Runs.icN i0_348 (tlt (own_lt (b := 65536) (by omega) (by omega))).2.1 ?_
  refine Runs.aload i0_351 rfl rfl ?_
  refine Runs.iconst (v := (0 : Int32)) i0_353 (by decide) ?_
  refine Runs.iloadN i0_354 rfl ?_
  refine Runs.i2c (z := (Int32.ofNat N)) i0_355 (own_ccN (by omega)) ?_
  refine Runs.castore (i := 0) (y := (Int32.ofNat N)) i0_356 A_27 ⟨by decide, by decide⟩ (by decide) (Nat.le_of_ble_eq_true rfl) (own_ccN (by omega)) ge_25 (Or.inr (by decide)) ?_
  intro h_28 K_29 (A_30 : Arv Z h_28 b_20 k_21 .char (2 : Int32) [(.int (Int32.ofNat N)), (.int 0)] (.int 0))
  refine Runs.goto (t := 393) i0_357 (by decide) ?_
  refine Runs.iload i0_393 rfl ?_
  refine Runs.ifN i0_395 (feq (by decide : ¬ ((1 : Int32) = (0 : Int32)))).1 ?_
  refine Runs.aload i0_398 rfl rfl ?_
  refine Runs.iload i0_400 rfl ?_
  refine Runs.iload i0_402 rfl ?_
  refine Runs.sipush (v := (128 : Int32)) i0_404 (by decide) ?_
  refine Runs.icN i0_407 (tlt (own_lt (b := 128) hB (by omega))).2.1 ?_
  refine Runs.iload i0_410 rfl ?_
  refine Runs.i2c (z := (Int32.ofNat B)) i0_412 (own_ccN (by omega)) ?_
  refine Runs.goto (t := 418) i0_413 (by decide) ?_
  refine Runs.castore (i := 1) (y := (Int32.ofNat B)) i0_418 A_30 ⟨by decide, by decide⟩ (by decide) (Nat.le_of_ble_eq_true rfl) (own_ccN (by omega)) ge_25 (Or.inr (by decide)) ?_
  intro h_31 K_32 (A_33 : Arv Z h_31 b_20 k_21 .char (2 : Int32) [(.int (Int32.ofNat N)), (.int (Int32.ofNat B))] (.int 0))
  have A_34 := (((A_18.keep K_22 nin0).keep K_29 (ninS (Nat.ne_of_lt (Nat.lt_of_lt_of_le (Nat.lt_of_lt_of_le A_9.lt (Nat.le_trans (Nat.le_trans K_11.1 K_14.1) K_17.1)) g_24)) nin0)).keep K_32 (ninS (Nat.ne_of_lt (Nat.lt_of_lt_of_le (Nat.lt_of_lt_of_le A_9.lt (Nat.le_trans (Nat.le_trans K_11.1 K_14.1) K_17.1)) g_24)) nin0))
  refine Runs.weak (D1 := []) (fun _ q => nomatch q) ?_
  refine Runs.mono (kc' := 2) (ks' := 16) (by decide) (by decide) ?_
  exact own_l419 l Z a0 hw n0 _ _ _ _ _ _ _ _ _ _ _ (Or.inl rfl) b_2 b_20 _ _ 3 [(.int (own_8 ((192 : Int32) ||| (Int32.ofNat (N / 64))))), (.int (own_8 ((128 : Int32) ||| (Int32.ofNat (N % 64))))), (.int (own_8 (Int32.ofNat B)))] ([(Int32.ofNat N), (Int32.ofNat B)] : List Int32) _ (by simp) (own_aS (own_chN (by omega)) (own_aS (own_chN (by omega)) own_a0)) A_34 ((((((E_8.keep K_11).keep K_14).keep K_17).keep K_22).keep K_29).keep K_32) A_33 cpt S_C hcpt S_A S_H S_L fm hfm S_F u8 S_I S_8 E8 (fun a h1 ga hua O0 U0 E0 hn0 => own_ct2Lp l Z a0 hw n0 N hN B hB a _ u8 _ hua cpt h1 ga O0 U0 E0 hn0 S_C hcpt S_A S_H S_L fm hfm S_F S_I)
theorem own_lf2Lg (l : Launch) (Z : State) (a0 : Array Value) (hw : Wds Z a0) (n0 : Nat) (p0 p1 p2 : Int32)  (N : Nat) (hN : 128 ≤ N ∧ N < 256) (B : Nat) (hB : 128 ≤ B ∧ B < 256) (cpt : Int32) (S_C : SC Z cpt) (hcpt : ¬ cpt = 0) (S_A : SA Z) (S_H : SH Z) (S_L : SL Z) (fm : Value) (hfm : fm.isRef = true) (S_F : SF Z fm) (u8 : Addr) (S_I : Sta Z Z.heap "sun/nio/cs/UTF_8" "INSTANCE" "Lsun/nio/cs/UTF_8;" (.ref u8)) (S_8 : Sta Z Z.heap "java/nio/charset/StandardCharsets" "UTF_8" "Ljava/nio/charset/Charset;" (.ref u8)) (E8 : Exa Z Z.heap u8 "sun/nio/cs/UTF_8") : Runs 1 l Z [("java/lang/String", 7)] n0 x.cls x.name code maxLocals ret room_1 (fun v h D' => v = some (.int 1)) [] Z.heap 0 0 94 #[vi p0, vi p1, vi p2, vi (Int32.ofNat N), vi (Int32.ofNat B), vi 1, vi 1, vi 2, .unset, .unset, .unset, .unset, .unset] [] := by
  refine Runs.iload i0_94 rfl ?_
  refine Runs.ifN i0_96 (feq (by decide : ¬ ((1 : Int32) = (0 : Int32)))).1 ?_
  refine Runs.iload i0_99 rfl ?_
  refine Runs.goto (t := 105) i0_101 (by decide) ?_
  refine Runs.istore (ls' := #[vi p0, vi p1, vi p2, vi (Int32.ofNat N), vi (Int32.ofNat B), vi 1, vi 1, vi 2, vi 2, .unset, .unset, .unset, .unset]) i0_105 rfl ?_
  refine Runs.iload i0_107 rfl ?_
  refine Runs.iload i0_109 rfl ?_
  refine Runs.ifN i0_111 (feq (by decide : ¬ ((1 : Int32) = (0 : Int32)))).1 ?_
  refine Runs.iconst (v := (1 : Int32)) i0_114 (by decide) ?_
  refine Runs.goto (t := 119) i0_115 (by decide) ?_
  refine Runs.iadd (z := (3 : Int32)) i0_119 (by decide) ?_
  refine Runs.newP (cap := 3) (ad := "[B") i0_120 (w3 hw) (by decide) (by decide) (by decide) (by decide) (by decide) rfl ?_
  intro h_1 b_2 k_3 g_6 ge_7 K_4 (A_5 : Arv Z h_1 b_2 k_3 .byte (3 : Int32) [] (.int 0)) E_8
  have A_9 : Arv Z h_1 b_2 k_3 .byte (3 : Int32) [(.int 0), (.int 0), (.int 0)] (.int 0) := A_5.pad (pad_rep [] (.int 0) 3)
  refine Runs.astore (ls' := #[vi p0, vi p1, vi p2, vi (Int32.ofNat N), vi (Int32.ofNat B), vi 1, vi 1, vi 2, vi 2, vr b_2, .unset, .unset, .unset]) i0_122 rfl rfl ?_
  refine Runs.iload i0_124 rfl ?_
  refine Runs.ifN i0_126 (feq (by decide : ¬ ((1 : Int32) = (0 : Int32)))).1 ?_
  refine Runs.iload i0_129 rfl ?_
  refine Runs.iconst (v := (1 : Int32)) i0_131 (by decide) ?_
  refine Runs.icY (t := 144) i0_132 (by decide) (feq (by decide : ¬ ((2 : Int32) = (1 : Int32)))).2 ?_
  refine Runs.iload i0_144 rfl ?_
  refine Runs.iconst (v := (2 : Int32)) i0_146 (by decide) ?_
  refine Runs.icN i0_147 (teq (by decide : (2 : Int32) = (2 : Int32))).2 ?_
  refine Runs.aload i0_150 rfl rfl ?_
  refine Runs.iconst (v := (0 : Int32)) i0_152 (by decide) ?_
  refine Runs.sipush (v := (192 : Int32)) i0_153 (by decide) ?_
  refine Runs.iloadN i0_156 rfl ?_
  refine Runs.bipush (v := (6 : Int32)) i0_157 (by decide) ?_
  refine Runs.ishr (z := (Int32.ofNat (N / 64))) i0_159 (own_shrN (k := 6) (by omega) (by decide)) ?_
  refine Runs.ior (z := ((192 : Int32) ||| (Int32.ofNat (N / 64)))) i0_160 rfl ?_
  refine Runs.i2b (z := (own_8 ((192 : Int32) ||| (Int32.ofNat (N / 64))))) i0_161 rfl ?_
  refine Runs.bastore (i := 0) (y := (own_8 ((192 : Int32) ||| (Int32.ofNat (N / 64))))) i0_162 A_9 ⟨by decide, by decide⟩ (by decide) (Nat.le_of_ble_eq_true rfl) (own_88 _) ge_7 (Or.inl (mi 0 rfl)) ?_
  intro h_10 K_11 (A_12 : Arv Z h_10 b_2 k_3 .byte (3 : Int32) [(.int (own_8 ((192 : Int32) ||| (Int32.ofNat (N / 64))))), (.int 0), (.int 0)] (.int 0))
  refine Runs.aload i0_163 rfl rfl ?_
  refine Runs.iconst (v := (1 : Int32)) i0_165 (by decide) ?_
  refine Runs.sipush (v := (128 : Int32)) i0_166 (by decide) ?_
  refine Runs.iloadN i0_169 rfl ?_
  refine Runs.bipush (v := (63 : Int32)) i0_170 (by decide) ?_
  refine Runs.iand (z := (Int32.ofNat (N % 64))) i0_172 (own_andN (k := 6) (by omega) (by decide) (by decide)) ?_
  refine Runs.ior (z := ((128 : Int32) ||| (Int32.ofNat (N % 64)))) i0_173 rfl ?_
  refine Runs.i2b (z := (own_8 ((128 : Int32) ||| (Int32.ofNat (N % 64))))) i0_174 rfl ?_
  refine Runs.bastore (i := 1) (y := (own_8 ((128 : Int32) ||| (Int32.ofNat (N % 64))))) i0_175 A_12 ⟨by decide, by decide⟩ (by decide) (Nat.le_of_ble_eq_true rfl) (own_88 _) ge_7 (Or.inl (mi 0 rfl)) ?_
  intro h_13 K_14 (A_15 : Arv Z h_13 b_2 k_3 .byte (3 : Int32) [(.int (own_8 ((192 : Int32) ||| (Int32.ofNat (N / 64))))), (.int (own_8 ((128 : Int32) ||| (Int32.ofNat (N % 64))))), (.int 0)] (.int 0))
  refine Runs.goto (t := 288) i0_176 (by decide) ?_
  refine Runs.iload i0_288 rfl ?_
  refine Runs.ifN i0_290 (feq (by decide : ¬ ((1 : Int32) = (0 : Int32)))).1 ?_
  refine Runs.aload i0_293 rfl rfl ?_
  refine Runs.iload i0_295 rfl ?_
  refine Runs.iload i0_297 rfl ?_
  refine Runs.i2b (z := (own_8 (Int32.ofNat B))) i0_299 rfl ?_
  refine Runs.bastore (i := 2) (y := (own_8 (Int32.ofNat B))) i0_300 A_15 ⟨by decide, by decide⟩ (by decide) (Nat.le_of_ble_eq_true rfl) (own_88 _) ge_7 (Or.inl (mi 0 rfl)) ?_
  intro h_16 K_17 (A_18 : Arv Z h_16 b_2 k_3 .byte (3 : Int32) [(.int (own_8 ((192 : Int32) ||| (Int32.ofNat (N / 64))))), (.int (own_8 ((128 : Int32) ||| (Int32.ofNat (N % 64))))), (.int (own_8 (Int32.ofNat B)))] (.int 0))
  refine Runs.iload i0_301 rfl ?_
  refine Runs.ifN i0_303 (feq (by decide : ¬ ((1 : Int32) = (0 : Int32)))).1 ?_
  refine Runs.iloadN i0_306 rfl ?_
  refine Runs.ldcI i0_307 (w100 hw) ?_
  refine Runs.icN i0_309 (tlt (own_lt (b := 65536) (by omega) (by omega))).2.1 ?_
  refine Runs.iconst (v := (1 : Int32)) i0_312 (by decide) ?_
  refine Runs.goto (t := 321) i0_313 (by decide) ?_
  refine Runs.istore (ls' := #[vi p0, vi p1, vi p2, vi (Int32.ofNat N), vi (Int32.ofNat B), vi 1, vi 1, vi 2, vi 2, vr b_2, vi 1, .unset, .unset]) i0_321 rfl ?_
  refine Runs.iload i0_323 rfl ?_
  refine Runs.iload i0_325 rfl ?_
  refine Runs.ifN i0_327 (feq (by decide : ¬ ((1 : Int32) = (0 : Int32)))).1 ?_
  refine Runs.iconst (v := (1 : Int32)) i0_330 (by decide) ?_
  refine Runs.goto (t := 335) i0_331 (by decide) ?_
  refine Runs.iadd (z := (2 : Int32)) i0_335 (by decide) ?_
  refine Runs.newP (cap := 2) (ad := "[C") i0_336 (w4 hw) (by decide) (by decide) (by decide) (by decide) (by decide) rfl ?_
  intro h_19 b_20 k_21 g_24 ge_25 K_22 (A_23 : Arv Z h_19 b_20 k_21 .char (2 : Int32) [] (.int 0)) E_26
  have A_27 : Arv Z h_19 b_20 k_21 .char (2 : Int32) [(.int 0), (.int 0)] (.int 0) := A_23.pad (pad_rep [] (.int 0) 2)
  refine Runs.astore (ls' := #[vi p0, vi p1, vi p2, vi (Int32.ofNat N), vi (Int32.ofNat B), vi 1, vi 1, vi 2, vi 2, vr b_2, vi 1, vr b_20, .unset]) i0_338 rfl rfl ?_
  refine Runs.iload i0_340 rfl ?_
  refine Runs.ifN i0_342 (feq (by decide : ¬ ((1 : Int32) = (0 : Int32)))).1 ?_
  refine Runs.iloadN i0_345 rfl ?_
  refine Runs.ldcI i0_346 (w100 hw) ?_
  refine Runs.icN i0_348 (tlt (own_lt (b := 65536) (by omega) (by omega))).2.1 ?_
  refine Runs.aload i0_351 rfl rfl ?_
  refine Runs.iconst (v := (0 : Int32)) i0_353 (by decide) ?_
  refine Runs.iloadN i0_354 rfl ?_
  refine Runs.i2c (z := (Int32.ofNat N)) i0_355 (own_ccN (by omega)) ?_
  refine Runs.castore (i := 0) (y := (Int32.ofNat N)) i0_356 A_27 ⟨by decide, by decide⟩ (by decide) (Nat.le_of_ble_eq_true rfl) (own_ccN (by omega)) ge_25 (Or.inr (by decide)) ?_
  intro h_28 K_29 (A_30 : Arv Z h_28 b_20 k_21 .char (2 : Int32) [(.int (Int32.ofNat N)), (.int 0)] (.int 0))
  refine Runs.goto (t := 393) i0_357 (by decide) ?_
  refine Runs.iload i0_393 rfl ?_
  refine Runs.ifN i0_395 (feq (by decide : ¬ ((1 : Int32) = (0 : Int32)))).1 ?_
  refine Runs.aload i0_398 rfl rfl ?_
  refine Runs.iload i0_400 rfl ?_
  refine Runs.iload i0_402 rfl ?_
  refine Runs.sipush (v := (128 : Int32)) i0_404 (by decide) ?_
  refine Runs.icY (t := 416) i0_407 (by decide) (flt (own_nlt (b := 128) hB.1 (by omega))).2.1 ?_
  refine Runs.ldcI i0_416 (w185 hw) ?_
  refine Runs.castore (i := 1) (y := (65533 : Int32)) i0_418 A_30 ⟨by decide, by decide⟩ (by decide) (Nat.le_of_ble_eq_true rfl) (by decide) ge_25 (Or.inr (by decide)) ?_
  intro h_31 K_32 (A_33 : Arv Z h_31 b_20 k_21 .char (2 : Int32) [(.int (Int32.ofNat N)), (.int 65533)] (.int 0))
  have A_34 := (((A_18.keep K_22 nin0).keep K_29 (ninS (Nat.ne_of_lt (Nat.lt_of_lt_of_le (Nat.lt_of_lt_of_le A_9.lt (Nat.le_trans (Nat.le_trans K_11.1 K_14.1) K_17.1)) g_24)) nin0)).keep K_32 (ninS (Nat.ne_of_lt (Nat.lt_of_lt_of_le (Nat.lt_of_lt_of_le A_9.lt (Nat.le_trans (Nat.le_trans K_11.1 K_14.1) K_17.1)) g_24)) nin0))
  refine Runs.weak (D1 := []) (fun _ q => nomatch q) ?_
  refine Runs.mono (kc' := 2) (ks' := 16) (by decide) (by decide) ?_
  exact own_l419 l Z a0 hw n0 _ _ _ _ _ _ _ _ _ _ _ (Or.inl rfl) b_2 b_20 _ _ 3 [(.int (own_8 ((192 : Int32) ||| (Int32.ofNat (N / 64))))), (.int (own_8 ((128 : Int32) ||| (Int32.ofNat (N % 64))))), (.int (own_8 (Int32.ofNat B)))] ([(Int32.ofNat N), (65533 : Int32)] : List Int32) _ (by simp) (own_aS (own_chN (by omega)) (own_aS ⟨by decide, by decide⟩ own_a0)) A_34 ((((((E_8.keep K_11).keep K_14).keep K_17).keep K_22).keep K_29).keep K_32) A_33 cpt S_C hcpt S_A S_H S_L fm hfm S_F u8 S_I S_8 E8 (fun a h1 ga hua O0 U0 E0 hn0 => own_ct2Lg l Z a0 hw n0 N hN B hB a _ u8 _ hua cpt h1 ga O0 U0 E0 hn0 S_C hcpt S_A S_H S_L fm hfm S_F S_I)
theorem own_lf2Nn (l : Launch) (Z : State) (a0 : Array Value) (hw : Wds Z a0) (n0 : Nat) (p0 p1 p2 : Int32) (bb : Int32)  (N : Nat) (hN : 256 ≤ N ∧ N < 2048) (cpt : Int32) (S_C : SC Z cpt) (hcpt : ¬ cpt = 0) (S_A : SA Z) (S_H : SH Z) (S_L : SL Z) (fm : Value) (hfm : fm.isRef = true) (S_F : SF Z fm) (u8 : Addr) (S_I : Sta Z Z.heap "sun/nio/cs/UTF_8" "INSTANCE" "Lsun/nio/cs/UTF_8;" (.ref u8)) (S_8 : Sta Z Z.heap "java/nio/charset/StandardCharsets" "UTF_8" "Ljava/nio/charset/Charset;" (.ref u8)) (E8 : Exa Z Z.heap u8 "sun/nio/cs/UTF_8") : Runs 1 l Z [("java/lang/String", 7)] n0 x.cls x.name code maxLocals ret room_1 (fun v h D' => v = some (.int 1)) [] Z.heap 0 0 94 #[vi p0, vi p1, vi p2, vi (Int32.ofNat N), vi bb, vi 1, vi 0, vi 2, .unset, .unset, .unset, .unset, .unset] [] := by
  refine Runs.iload i0_94 rfl ?_
  refine Runs.ifN i0_96 (feq (by decide : ¬ ((1 : Int32) = (0 : Int32)))).1 ?_
  refine Runs.iload i0_99 rfl ?_
  refine Runs.goto (t := 105) i0_101 (by decide) ?_
  refine Runs.istore (ls' := #[vi p0, vi p1, vi p2, vi (Int32.ofNat N), vi bb, vi 1, vi 0, vi 2, vi 2, .unset, .unset, .unset, .unset]) i0_105 rfl ?_
  refine Runs.iload i0_107 rfl ?_
  refine Runs.iload i0_109 rfl ?_
  refine Runs.ifY (t := 118) i0_111 (by decide) (teq (by decide : (0 : Int32) = (0 : Int32))).1 ?_
  refine Runs.iconst (v := (0 : Int32)) i0_118 (by decide) ?_
  refine Runs.iadd (z := (2 : Int32)) i0_119 (by decide) ?_
  refine Runs.newP (cap := 2) (ad := "[B") i0_120 (w3 hw) (by decide) (by decide) (by decide) (by decide) (by decide) rfl ?_
  intro h_1 b_2 k_3 g_6 ge_7 K_4 (A_5 : Arv Z h_1 b_2 k_3 .byte (2 : Int32) [] (.int 0)) E_8
  have A_9 : Arv Z h_1 b_2 k_3 .byte (2 : Int32) [(.int 0), (.int 0)] (.int 0) := A_5.pad (pad_rep [] (.int 0) 2)
  refine Runs.astore (ls' := #[vi p0, vi p1, vi p2, vi (Int32.ofNat N), vi bb, vi 1, vi 0, vi 2, vi 2, vr b_2, .unset, .unset, .unset]) i0_122 rfl rfl ?_
  refine Runs.iload i0_124 rfl ?_
  refine Runs.ifN i0_126 (feq (by decide : ¬ ((1 : Int32) = (0 : Int32)))).1 ?_
  refine Runs.iload i0_129 rfl ?_
  refine Runs.iconst (v := (1 : Int32)) i0_131 (by decide) ?_
  refine Runs.icY (t := 144) i0_132 (by decide) (feq (by decide : ¬ ((2 : Int32) = (1 : Int32)))).2 ?_
  refine Runs.iload i0_144 rfl ?_
  refine Runs.iconst (v := (2 : Int32)) i0_146 (by decide) ?_
  refine Runs.icN i0_147 (teq (by decide : (2 : Int32) = (2 : Int32))).2 ?_
  refine Runs.aload i0_150 rfl rfl ?_
  refine Runs.iconst (v := (0 : Int32)) i0_152 (by decide) ?_
  refine Runs.sipush (v := (192 : Int32)) i0_153 (by decide) ?_
  refine Runs.iloadN i0_156 rfl ?_
  refine Runs.bipush (v := (6 : Int32)) i0_157 (by decide) ?_
  refine Runs.ishr (z := (Int32.ofNat (N / 64))) i0_159 (own_shrN (k := 6) (by omega) (by decide)) ?_
  refine Runs.ior (z := ((192 : Int32) ||| (Int32.ofNat (N / 64)))) i0_160 rfl ?_
  refine Runs.i2b (z := (own_8 ((192 : Int32) ||| (Int32.ofNat (N / 64))))) i0_161 rfl ?_
  refine Runs.bastore (i := 0) (y := (own_8 ((192 : Int32) ||| (Int32.ofNat (N / 64))))) i0_162 A_9 ⟨by decide, by decide⟩ (by decide) (Nat.le_of_ble_eq_true rfl) (own_88 _) ge_7 (Or.inl (mi 0 rfl)) ?_
  intro h_10 K_11 (A_12 : Arv Z h_10 b_2 k_3 .byte (2 : Int32) [(.int (own_8 ((192 : Int32) ||| (Int32.ofNat (N / 64))))), (.int 0)] (.int 0))
  refine Runs.aload i0_163 rfl rfl ?_
  refine Runs.iconst (v := (1 : Int32)) i0_165 (by decide) ?_
  refine Runs.sipush (v := (128 : Int32)) i0_166 (by decide) ?_
  refine Runs.iloadN i0_169 rfl ?_
  refine Runs.bipush (v := (63 : Int32)) i0_170 (by decide) ?_
  refine Runs.iand (z := (Int32.ofNat (N % 64))) i0_172 (own_andN (k := 6) (by omega) (by decide) (by decide)) ?_
  refine Runs.ior (z := ((128 : Int32) ||| (Int32.ofNat (N % 64)))) i0_173 rfl ?_
  refine Runs.i2b (z := (own_8 ((128 : Int32) ||| (Int32.ofNat (N % 64))))) i0_174 rfl ?_
  refine Runs.bastore (i := 1) (y := (own_8 ((128 : Int32) ||| (Int32.ofNat (N % 64))))) i0_175 A_12 ⟨by decide, by decide⟩ (by decide) (Nat.le_of_ble_eq_true rfl) (own_88 _) ge_7 (Or.inl (mi 0 rfl)) ?_
  intro h_13 K_14 (A_15 : Arv Z h_13 b_2 k_3 .byte (2 : Int32) [(.int (own_8 ((192 : Int32) ||| (Int32.ofNat (N / 64))))), (.int (own_8 ((128 : Int32) ||| (Int32.ofNat (N % 64)))))] (.int 0))
  refine Runs.goto (t := 288) i0_176 (by decide) ?_
  refine Runs.iload i0_288 rfl ?_
  refine Runs.ifY (t := 301) i0_290 (by decide) (teq (by decide : (0 : Int32) = (0 : Int32))).1 ?_
  refine Runs.iload i0_301 rfl ?_
  refine Runs.ifN i0_303 (feq (by decide : ¬ ((1 : Int32) = (0 : Int32)))).1 ?_
  refine Runs.iloadN i0_306 rfl ?_
  refine Runs.ldcI i0_307 (w100 hw) ?_
  refine Runs.icN i0_309 (tlt (own_lt (b := 65536) (by omega) (by omega))).2.1 ?_
  refine Runs.iconst (v := (1 : Int32)) i0_312 (by decide) ?_
  refine Runs.goto (t := 321) i0_313 (by decide) ?_
  refine Runs.istore (ls' := #[vi p0, vi p1, vi p2, vi (Int32.ofNat N), vi bb, vi 1, vi 0, vi 2, vi 2, vr b_2, vi 1, .unset, .unset]) i0_321 rfl ?_
  refine Runs.iload i0_323 rfl ?_
  refine Runs.iload i0_325 rfl ?_
  refine Runs.ifY (t := 334) i0_327 (by decide) (teq (by decide : (0 : Int32) = (0 : Int32))).1 ?_
  refine Runs.iconst (v := (0 : Int32)) i0_334 (by decide) ?_
  refine Runs.iadd (z := (1 : Int32)) i0_335 (by decide) ?_
  refine Runs.newP (cap := 1) (ad := "[C") i0_336 (w4 hw) (by decide) (by decide) (by decide) (by decide) (by decide) rfl ?_
  intro h_16 b_17 k_18 g_21 ge_22 K_19 (A_20 : Arv Z h_16 b_17 k_18 .char (1 : Int32) [] (.int 0)) E_23
  have A_24 : Arv Z h_16 b_17 k_18 .char (1 : Int32) [(.int 0)] (.int 0) := A_20.pad (pad_rep [] (.int 0) 1)
  refine Runs.astore (ls' := #[vi p0, vi p1, vi p2, vi (Int32.ofNat N), vi bb, vi 1, vi 0, vi 2, vi 2, vr b_2, vi 1, vr b_17, .unset]) i0_338 rfl rfl ?_
  refine Runs.iload i0_340 rfl ?_
  refine Runs.ifN i0_342 (feq (by decide : ¬ ((1 : Int32) = (0 : Int32)))).1 ?_
  refine Runs.iloadN i0_345 rfl ?_
  refine Runs.ldcI i0_346 (w100 hw) ?_
  refine Runs.icN i0_348 (tlt (own_lt (b := 65536) (by omega) (by omega))).2.1 ?_
  refine Runs.aload i0_351 rfl rfl ?_
  refine Runs.iconst (v := (0 : Int32)) i0_353 (by decide) ?_
  refine Runs.iloadN i0_354 rfl ?_
  refine Runs.i2c (z := (Int32.ofNat N)) i0_355 (own_ccN (by omega)) ?_
  refine Runs.castore (i := 0) (y := (Int32.ofNat N)) i0_356 A_24 ⟨by decide, by decide⟩ (by decide) (Nat.le_of_ble_eq_true rfl) (own_ccN (by omega)) ge_22 (Or.inr (by decide)) ?_
  intro h_25 K_26 (A_27 : Arv Z h_25 b_17 k_18 .char (1 : Int32) [(.int (Int32.ofNat N))] (.int 0))
  refine Runs.goto (t := 393) i0_357 (by decide) ?_
  refine Runs.iload i0_393 rfl ?_
  refine Runs.ifY (t := 419) i0_395 (by decide) (teq (by decide : (0 : Int32) = (0 : Int32))).1 ?_
  have A_28 := ((A_15.keep K_19 nin0).keep K_26 (ninS (Nat.ne_of_lt (Nat.lt_of_lt_of_le (Nat.lt_of_lt_of_le A_9.lt (Nat.le_trans K_11.1 K_14.1)) g_21)) nin0))
  refine Runs.weak (D1 := []) (fun _ q => nomatch q) ?_
  refine Runs.mono (kc' := 2) (ks' := 16) (by decide) (by decide) ?_
  exact own_l419 l Z a0 hw n0 _ _ _ _ _ _ _ _ _ _ _ (Or.inl rfl) b_2 b_17 _ _ 2 [(.int (own_8 ((192 : Int32) ||| (Int32.ofNat (N / 64))))), (.int (own_8 ((128 : Int32) ||| (Int32.ofNat (N % 64)))))] ([(Int32.ofNat N)] : List Int32) _ (by simp) (own_aS (own_chN (by omega)) own_a0) A_28 ((((E_8.keep K_11).keep K_14).keep K_19).keep K_26) A_27 cpt S_C hcpt S_A S_H S_L fm hfm S_F u8 S_I S_8 E8 (fun a h1 ga hua O0 U0 E0 hn0 => own_ct2Nn l Z a0 hw n0 N hN a _ u8 _ hua cpt h1 ga O0 U0 E0 hn0 S_C hcpt S_A S_H S_L fm hfm S_F S_I)
theorem own_lf2Np (l : Launch) (Z : State) (a0 : Array Value) (hw : Wds Z a0) (n0 : Nat) (p0 p1 p2 : Int32)  (N : Nat) (hN : 256 ≤ N ∧ N < 2048) (B : Nat) (hB : B < 128) (cpt : Int32) (S_C : SC Z cpt) (hcpt : ¬ cpt = 0) (S_A : SA Z) (S_H : SH Z) (S_L : SL Z) (fm : Value) (hfm : fm.isRef = true) (S_F : SF Z fm) (u8 : Addr) (S_I : Sta Z Z.heap "sun/nio/cs/UTF_8" "INSTANCE" "Lsun/nio/cs/UTF_8;" (.ref u8)) (S_8 : Sta Z Z.heap "java/nio/charset/StandardCharsets" "UTF_8" "Ljava/nio/charset/Charset;" (.ref u8)) (E8 : Exa Z Z.heap u8 "sun/nio/cs/UTF_8") : Runs 1 l Z [("java/lang/String", 7)] n0 x.cls x.name code maxLocals ret room_1 (fun v h D' => v = some (.int 1)) [] Z.heap 0 0 94 #[vi p0, vi p1, vi p2, vi (Int32.ofNat N), vi (Int32.ofNat B), vi 1, vi 1, vi 2, .unset, .unset, .unset, .unset, .unset] [] := by
  refine Runs.iload i0_94 rfl ?_
  refine Runs.ifN i0_96 (feq (by decide : ¬ ((1 : Int32) = (0 : Int32)))).1 ?_
  refine Runs.iload i0_99 rfl ?_
  refine Runs.goto (t := 105) i0_101 (by decide) ?_
  refine Runs.istore (ls' := #[vi p0, vi p1, vi p2, vi (Int32.ofNat N), vi (Int32.ofNat B), vi 1, vi 1, vi 2, vi 2, .unset, .unset, .unset, .unset]) i0_105 rfl ?_
  refine Runs.iload i0_107 rfl ?_
  refine Runs.iload i0_109 rfl ?_
  refine Runs.ifN i0_111 (feq (by decide : ¬ ((1 : Int32) = (0 : Int32)))).1 ?_
  refine Runs.iconst (v := (1 : Int32)) i0_114 (by decide) ?_
  refine Runs.goto (t := 119) i0_115 (by decide) ?_
  refine Runs.iadd (z := (3 : Int32)) i0_119 (by decide) ?_
  refine Runs.newP (cap := 3) (ad := "[B") i0_120 (w3 hw) (by decide) (by decide) (by decide) (by decide) (by decide) rfl ?_
  intro h_1 b_2 k_3 g_6 ge_7 K_4 (A_5 : Arv Z h_1 b_2 k_3 .byte (3 : Int32) [] (.int 0)) E_8
  have A_9 : Arv Z h_1 b_2 k_3 .byte (3 : Int32) [(.int 0), (.int 0), (.int 0)] (.int 0) := A_5.pad (pad_rep [] (.int 0) 3)
  refine Runs.astore (ls' := #[vi p0, vi p1, vi p2, vi (Int32.ofNat N), vi (Int32.ofNat B), vi 1, vi 1, vi 2, vi 2, vr b_2, .unset, .unset, .unset]) i0_122 rfl rfl ?_
  refine Runs.iload i0_124 rfl ?_
  refine Runs.ifN i0_126 (feq (by decide : ¬ ((1 : Int32) = (0 : Int32)))).1 ?_
  refine Runs.iload i0_129 rfl ?_
  refine Runs.iconst (v := (1 : Int32)) i0_131 (by decide) ?_
  refine Runs.icY (t := 144) i0_132 (by decide) (feq (by decide : ¬ ((2 : Int32) = (1 : Int32)))).2 ?_
  refine Runs.iload i0_144 rfl ?_
  refine Runs.iconst (v := (2 : Int32)) i0_146 (by decide) ?_
  refine Runs.icN i0_147 (teq (by decide : (2 : Int32) = (2 : Int32))).2 ?_
  refine Runs.aload i0_150 rfl rfl ?_
  refine Runs.iconst (v := (0 : Int32)) i0_152 (by decide) ?_
  refine Runs.sipush (v := (192 : Int32)) i0_153 (by decide) ?_
  refine Runs.iloadN i0_156 rfl ?_
  refine Runs.bipush (v := (6 : Int32)) i0_157 (by decide) ?_
  refine Runs.ishr (z := (Int32.ofNat (N / 64))) i0_159 (own_shrN (k := 6) (by omega) (by decide)) ?_
  refine Runs.ior (z := ((192 : Int32) ||| (Int32.ofNat (N / 64)))) i0_160 rfl ?_
  refine Runs.i2b (z := (own_8 ((192 : Int32) ||| (Int32.ofNat (N / 64))))) i0_161 rfl ?_
  refine Runs.bastore (i := 0) (y := (own_8 ((192 : Int32) ||| (Int32.ofNat (N / 64))))) i0_162 A_9 ⟨by decide, by decide⟩ (by decide) (Nat.le_of_ble_eq_true rfl) (own_88 _) ge_7 (Or.inl (mi 0 rfl)) ?_
  intro h_10 K_11 (A_12 : Arv Z h_10 b_2 k_3 .byte (3 : Int32) [(.int (own_8 ((192 : Int32) ||| (Int32.ofNat (N / 64))))), (.int 0), (.int 0)] (.int 0))
  refine Runs.aload i0_163 rfl rfl ?_
  refine Runs.iconst (v := (1 : Int32)) i0_165 (by decide) ?_
  refine Runs.sipush (v := (128 : Int32)) i0_166 (by decide) ?_
  refine Runs.iloadN i0_169 rfl ?_
  refine Runs.bipush (v := (63 : Int32)) i0_170 (by decide) ?_
  refine Runs.iand (z := (Int32.ofNat (N % 64))) i0_172 (own_andN (k := 6) (by omega) (by decide) (by decide)) ?_
  refine Runs.ior (z := ((128 : Int32) ||| (Int32.ofNat (N % 64)))) i0_173 rfl ?_
  refine Runs.i2b (z := (own_8 ((128 : Int32) ||| (Int32.ofNat (N % 64))))) i0_174 rfl ?_
  refine Runs.bastore (i := 1) (y := (own_8 ((128 : Int32) ||| (Int32.ofNat (N % 64))))) i0_175 A_12 ⟨by decide, by decide⟩ (by decide) (Nat.le_of_ble_eq_true rfl) (own_88 _) ge_7 (Or.inl (mi 0 rfl)) ?_
  intro h_13 K_14 (A_15 : Arv Z h_13 b_2 k_3 .byte (3 : Int32) [(.int (own_8 ((192 : Int32) ||| (Int32.ofNat (N / 64))))), (.int (own_8 ((128 : Int32) ||| (Int32.ofNat (N % 64))))), (.int 0)] (.int 0))
  refine Runs.goto (t := 288) i0_176 (by decide) ?_
  refine Runs.iload i0_288 rfl ?_
  refine Runs.ifN i0_290 (feq (by decide : ¬ ((1 : Int32) = (0 : Int32)))).1 ?_
  refine Runs.aload i0_293 rfl rfl ?_
  refine Runs.iload i0_295 rfl ?_
  refine Runs.iload i0_297 rfl ?_
  refine Runs.i2b (z := (own_8 (Int32.ofNat B))) i0_299 rfl ?_
  refine Runs.bastore (i := 2) (y := (own_8 (Int32.ofNat B))) i0_300 A_15 ⟨by decide, by decide⟩ (by decide) (Nat.le_of_ble_eq_true rfl) (own_88 _) ge_7 (Or.inl (mi 0 rfl)) ?_
  intro h_16 K_17 (A_18 : Arv Z h_16 b_2 k_3 .byte (3 : Int32) [(.int (own_8 ((192 : Int32) ||| (Int32.ofNat (N / 64))))), (.int (own_8 ((128 : Int32) ||| (Int32.ofNat (N % 64))))), (.int (own_8 (Int32.ofNat B)))] (.int 0))
  refine Runs.iload i0_301 rfl ?_
  refine Runs.ifN i0_303 (feq (by decide : ¬ ((1 : Int32) = (0 : Int32)))).1 ?_
  refine Runs.iloadN i0_306 rfl ?_
  refine Runs.ldcI i0_307 (w100 hw) ?_
  refine Runs.icN i0_309 (tlt (own_lt (b := 65536) (by omega) (by omega))).2.1 ?_
  refine Runs.iconst (v := (1 : Int32)) i0_312 (by decide) ?_
  refine Runs.goto (t := 321) i0_313 (by decide) ?_
  refine Runs.istore (ls' := #[vi p0, vi p1, vi p2, vi (Int32.ofNat N), vi (Int32.ofNat B), vi 1, vi 1, vi 2, vi 2, vr b_2, vi 1, .unset, .unset]) i0_321 rfl ?_
  refine Runs.iload i0_323 rfl ?_
  refine Runs.iload i0_325 rfl ?_
  refine Runs.ifN i0_327 (feq (by decide : ¬ ((1 : Int32) = (0 : Int32)))).1 ?_
  refine Runs.iconst (v := (1 : Int32)) i0_330 (by decide) ?_
  refine Runs.goto (t := 335) i0_331 (by decide) ?_
  refine Runs.iadd (z := (2 : Int32)) i0_335 (by decide) ?_
  refine Runs.newP (cap := 2) (ad := "[C") i0_336 (w4 hw) (by decide) (by decide) (by decide) (by decide) (by decide) rfl ?_
  intro h_19 b_20 k_21 g_24 ge_25 K_22 (A_23 : Arv Z h_19 b_20 k_21 .char (2 : Int32) [] (.int 0)) E_26
  have A_27 : Arv Z h_19 b_20 k_21 .char (2 : Int32) [(.int 0), (.int 0)] (.int 0) := A_23.pad (pad_rep [] (.int 0) 2)
  refine Runs.astore (ls' := #[vi p0, vi p1, vi p2, vi (Int32.ofNat N), vi (Int32.ofNat B), vi 1, vi 1, vi 2, vi 2, vr b_2, vi 1, vr b_20, .unset]) i0_338 rfl rfl ?_
  refine Runs.iload i0_340 rfl ?_
  refine Runs.ifN i0_342 (feq (by decide : ¬ ((1 : Int32) = (0 : Int32)))).1 ?_
  refine Runs.iloadN i0_345 rfl ?_
  refine Runs.ldcI i0_346 (w100 hw) ?_
  refine Runs.icN i0_348 (tlt (own_lt (b := 65536) (by omega) (by omega))).2.1 ?_
  refine Runs.aload i0_351 rfl rfl ?_
  refine Runs.iconst (v := (0 : Int32)) i0_353 (by decide) ?_
  refine Runs.iloadN i0_354 rfl ?_
  refine Runs.i2c (z := (Int32.ofNat N)) i0_355 (own_ccN (by omega)) ?_
  refine Runs.castore (i := 0) (y := (Int32.ofNat N)) i0_356 A_27 ⟨by decide, by decide⟩ (by decide) (Nat.le_of_ble_eq_true rfl) (own_ccN (by omega)) ge_25 (Or.inr (by decide)) ?_
  intro h_28 K_29 (A_30 : Arv Z h_28 b_20 k_21 .char (2 : Int32) [(.int (Int32.ofNat N)), (.int 0)] (.int 0))
  refine Runs.goto (t := 393) i0_357 (by decide) ?_
  refine Runs.iload i0_393 rfl ?_
  refine Runs.ifN i0_395 (feq (by decide : ¬ ((1 : Int32) = (0 : Int32)))).1 ?_
  refine Runs.aload i0_398 rfl rfl ?_
  refine Runs.iload i0_400 rfl ?_
  refine Runs.iload i0_402 rfl ?_
  refine Runs.sipush (v := (128 : Int32)) i0_404 (by decide) ?_
  refine Runs.icN i0_407 (tlt (own_lt (b := 128) hB (by omega))).2.1 ?_
  refine Runs.iload i0_410 rfl ?_
  refine Runs.i2c (z := (Int32.ofNat B)) i0_412 (own_ccN (by omega)) ?_
  refine Runs.goto (t := 418) i0_413 (by decide) ?_
  refine Runs.castore (i := 1) (y := (Int32.ofNat B)) i0_418 A_30 ⟨by decide, by decide⟩ (by decide) (Nat.le_of_ble_eq_true rfl) (own_ccN (by omega)) ge_25 (Or.inr (by decide)) ?_
  intro h_31 K_32 (A_33 : Arv Z h_31 b_20 k_21 .char (2 : Int32) [(.int (Int32.ofNat N)), (.int (Int32.ofNat B))] (.int 0))
  have A_34 := (((A_18.keep K_22 nin0).keep K_29 (ninS (Nat.ne_of_lt (Nat.lt_of_lt_of_le (Nat.lt_of_lt_of_le A_9.lt (Nat.le_trans (Nat.le_trans K_11.1 K_14.1) K_17.1)) g_24)) nin0)).keep K_32 (ninS (Nat.ne_of_lt (Nat.lt_of_lt_of_le (Nat.lt_of_lt_of_le A_9.lt (Nat.le_trans (Nat.le_trans K_11.1 K_14.1) K_17.1)) g_24)) nin0))
  refine Runs.weak (D1 := []) (fun _ q => nomatch q) ?_
  refine Runs.mono (kc' := 2) (ks' := 16) (by decide) (by decide) ?_
  exact own_l419 l Z a0 hw n0 _ _ _ _ _ _ _ _ _ _ _ (Or.inl rfl) b_2 b_20 _ _ 3 [(.int (own_8 ((192 : Int32) ||| (Int32.ofNat (N / 64))))), (.int (own_8 ((128 : Int32) ||| (Int32.ofNat (N % 64))))), (.int (own_8 (Int32.ofNat B)))] ([(Int32.ofNat N), (Int32.ofNat B)] : List Int32) _ (by simp) (own_aS (own_chN (by omega)) (own_aS (own_chN (by omega)) own_a0)) A_34 ((((((E_8.keep K_11).keep K_14).keep K_17).keep K_22).keep K_29).keep K_32) A_33 cpt S_C hcpt S_A S_H S_L fm hfm S_F u8 S_I S_8 E8 (fun a h1 ga hua O0 U0 E0 hn0 => own_ct2Np l Z a0 hw n0 N hN B hB a _ u8 _ hua cpt h1 ga O0 U0 E0 hn0 S_C hcpt S_A S_H S_L fm hfm S_F S_I)
theorem own_lf2Ng (l : Launch) (Z : State) (a0 : Array Value) (hw : Wds Z a0) (n0 : Nat) (p0 p1 p2 : Int32)  (N : Nat) (hN : 256 ≤ N ∧ N < 2048) (B : Nat) (hB : 128 ≤ B ∧ B < 256) (cpt : Int32) (S_C : SC Z cpt) (hcpt : ¬ cpt = 0) (S_A : SA Z) (S_H : SH Z) (S_L : SL Z) (fm : Value) (hfm : fm.isRef = true) (S_F : SF Z fm) (u8 : Addr) (S_I : Sta Z Z.heap "sun/nio/cs/UTF_8" "INSTANCE" "Lsun/nio/cs/UTF_8;" (.ref u8)) (S_8 : Sta Z Z.heap "java/nio/charset/StandardCharsets" "UTF_8" "Ljava/nio/charset/Charset;" (.ref u8)) (E8 : Exa Z Z.heap u8 "sun/nio/cs/UTF_8") : Runs 1 l Z [("java/lang/String", 7)] n0 x.cls x.name code maxLocals ret room_1 (fun v h D' => v = some (.int 1)) [] Z.heap 0 0 94 #[vi p0, vi p1, vi p2, vi (Int32.ofNat N), vi (Int32.ofNat B), vi 1, vi 1, vi 2, .unset, .unset, .unset, .unset, .unset] [] := by
  refine Runs.iload i0_94 rfl ?_
  refine Runs.ifN i0_96 (feq (by decide : ¬ ((1 : Int32) = (0 : Int32)))).1 ?_
  refine Runs.iload i0_99 rfl ?_
  refine Runs.goto (t := 105) i0_101 (by decide) ?_
  refine Runs.istore (ls' := #[vi p0, vi p1, vi p2, vi (Int32.ofNat N), vi (Int32.ofNat B), vi 1, vi 1, vi 2, vi 2, .unset, .unset, .unset, .unset]) i0_105 rfl ?_
  refine Runs.iload i0_107 rfl ?_
  refine Runs.iload i0_109 rfl ?_
  refine Runs.ifN i0_111 (feq (by decide : ¬ ((1 : Int32) = (0 : Int32)))).1 ?_
  refine Runs.iconst (v := (1 : Int32)) i0_114 (by decide) ?_
  refine Runs.goto (t := 119) i0_115 (by decide) ?_
  refine Runs.iadd (z := (3 : Int32)) i0_119 (by decide) ?_
  refine Runs.newP (cap := 3) (ad := "[B") i0_120 (w3 hw) (by decide) (by decide) (by decide) (by decide) (by decide) rfl ?_
  intro h_1 b_2 k_3 g_6 ge_7 K_4 (A_5 : Arv Z h_1 b_2 k_3 .byte (3 : Int32) [] (.int 0)) E_8
  have A_9 : Arv Z h_1 b_2 k_3 .byte (3 : Int32) [(.int 0), (.int 0), (.int 0)] (.int 0) := A_5.pad (pad_rep [] (.int 0) 3)
  refine Runs.astore (ls' := #[vi p0, vi p1, vi p2, vi (Int32.ofNat N), vi (Int32.ofNat B), vi 1, vi 1, vi 2, vi 2, vr b_2, .unset, .unset, .unset]) i0_122 rfl rfl ?_
  refine Runs.iload i0_124 rfl ?_
  refine Runs.ifN i0_126 (feq (by decide : ¬ ((1 : Int32) = (0 : Int32)))).1 ?_
  refine Runs.iload i0_129 rfl ?_
  refine Runs.iconst (v := (1 : Int32)) i0_131 (by decide) ?_
  refine Runs.icY (t := 144) i0_132 (by decide) (feq (by decide : ¬ ((2 : Int32) = (1 : Int32)))).2 ?_
  refine Runs.iload i0_144 rfl ?_
  refine Runs.iconst (v := (2 : Int32)) i0_146 (by decide) ?_
  refine Runs.icN i0_147 (teq (by decide : (2 : Int32) = (2 : Int32))).2 ?_
  refine Runs.aload i0_150 rfl rfl ?_
  refine Runs.iconst (v := (0 : Int32)) i0_152 (by decide) ?_
  refine Runs.sipush (v := (192 : Int32)) i0_153 (by decide) ?_
  refine Runs.iloadN i0_156 rfl ?_
  refine Runs.bipush (v := (6 : Int32)) i0_157 (by decide) ?_
  refine Runs.ishr (z := (Int32.ofNat (N / 64))) i0_159 (own_shrN (k := 6) (by omega) (by decide)) ?_
  refine Runs.ior (z := ((192 : Int32) ||| (Int32.ofNat (N / 64)))) i0_160 rfl ?_
  refine Runs.i2b (z := (own_8 ((192 : Int32) ||| (Int32.ofNat (N / 64))))) i0_161 rfl ?_
  refine Runs.bastore (i := 0) (y := (own_8 ((192 : Int32) ||| (Int32.ofNat (N / 64))))) i0_162 A_9 ⟨by decide, by decide⟩ (by decide) (Nat.le_of_ble_eq_true rfl) (own_88 _) ge_7 (Or.inl (mi 0 rfl)) ?_
  intro h_10 K_11 (A_12 : Arv Z h_10 b_2 k_3 .byte (3 : Int32) [(.int (own_8 ((192 : Int32) ||| (Int32.ofNat (N / 64))))), (.int 0), (.int 0)] (.int 0))
  refine Runs.aload i0_163 rfl rfl ?_
  refine Runs.iconst (v := (1 : Int32)) i0_165 (by decide) ?_
  refine Runs.sipush (v := (128 : Int32)) i0_166 (by decide) ?_
  refine Runs.iloadN i0_169 rfl ?_
  refine Runs.bipush (v := (63 : Int32)) i0_170 (by decide) ?_
  refine Runs.iand (z := (Int32.ofNat (N % 64))) i0_172 (own_andN (k := 6) (by omega) (by decide) (by decide)) ?_
  refine Runs.ior (z := ((128 : Int32) ||| (Int32.ofNat (N % 64)))) i0_173 rfl ?_
  refine Runs.i2b (z := (own_8 ((128 : Int32) ||| (Int32.ofNat (N % 64))))) i0_174 rfl ?_
  refine Runs.bastore (i := 1) (y := (own_8 ((128 : Int32) ||| (Int32.ofNat (N % 64))))) i0_175 A_12 ⟨by decide, by decide⟩ (by decide) (Nat.le_of_ble_eq_true rfl) (own_88 _) ge_7 (Or.inl (mi 0 rfl)) ?_
  intro h_13 K_14 (A_15 : Arv Z h_13 b_2 k_3 .byte (3 : Int32) [(.int (own_8 ((192 : Int32) ||| (Int32.ofNat (N / 64))))), (.int (own_8 ((128 : Int32) ||| (Int32.ofNat (N % 64))))), (.int 0)] (.int 0))
  refine Runs.goto (t := 288) i0_176 (by decide) ?_
  refine Runs.iload i0_288 rfl ?_
  refine Runs.ifN i0_290 (feq (by decide : ¬ ((1 : Int32) = (0 : Int32)))).1 ?_
  refine Runs.aload i0_293 rfl rfl ?_
  refine Runs.iload i0_295 rfl ?_
  refine Runs.iload i0_297 rfl ?_
  refine Runs.i2b (z := (own_8 (Int32.ofNat B))) i0_299 rfl ?_
  refine Runs.bastore (i := 2) (y := (own_8 (Int32.ofNat B))) i0_300 A_15 ⟨by decide, by decide⟩ (by decide) (Nat.le_of_ble_eq_true rfl) (own_88 _) ge_7 (Or.inl (mi 0 rfl)) ?_
  intro h_16 K_17 (A_18 : Arv Z h_16 b_2 k_3 .byte (3 : Int32) [(.int (own_8 ((192 : Int32) ||| (Int32.ofNat (N / 64))))), (.int (own_8 ((128 : Int32) ||| (Int32.ofNat (N % 64))))), (.int (own_8 (Int32.ofNat B)))] (.int 0))
  refine Runs.iload i0_301 rfl ?_
  refine Runs.ifN i0_303 (feq (by decide : ¬ ((1 : Int32) = (0 : Int32)))).1 ?_
  refine Runs.iloadN i0_306 rfl ?_
  refine Runs.ldcI i0_307 (w100 hw) ?_
  refine Runs.icN i0_309 (tlt (own_lt (b := 65536) (by omega) (by omega))).2.1 ?_
  refine Runs.iconst (v := (1 : Int32)) i0_312 (by decide) ?_
  refine Runs.goto (t := 321) i0_313 (by decide) ?_
  refine Runs.istore (ls' := #[vi p0, vi p1, vi p2, vi (Int32.ofNat N), vi (Int32.ofNat B), vi 1, vi 1, vi 2, vi 2, vr b_2, vi 1, .unset, .unset]) i0_321 rfl ?_
  refine Runs.iload i0_323 rfl ?_
  refine Runs.iload i0_325 rfl ?_
  refine Runs.ifN i0_327 (feq (by decide : ¬ ((1 : Int32) = (0 : Int32)))).1 ?_
  refine Runs.iconst (v := (1 : Int32)) i0_330 (by decide) ?_
  refine Runs.goto (t := 335) i0_331 (by decide) ?_
  refine Runs.iadd (z := (2 : Int32)) i0_335 (by decide) ?_
  refine Runs.newP (cap := 2) (ad := "[C") i0_336 (w4 hw) (by decide) (by decide) (by decide) (by decide) (by decide) rfl ?_
  intro h_19 b_20 k_21 g_24 ge_25 K_22 (A_23 : Arv Z h_19 b_20 k_21 .char (2 : Int32) [] (.int 0)) E_26
  have A_27 : Arv Z h_19 b_20 k_21 .char (2 : Int32) [(.int 0), (.int 0)] (.int 0) := A_23.pad (pad_rep [] (.int 0) 2)
  refine Runs.astore (ls' := #[vi p0, vi p1, vi p2, vi (Int32.ofNat N), vi (Int32.ofNat B), vi 1, vi 1, vi 2, vi 2, vr b_2, vi 1, vr b_20, .unset]) i0_338 rfl rfl ?_
  refine Runs.iload i0_340 rfl ?_
  refine Runs.ifN i0_342 (feq (by decide : ¬ ((1 : Int32) = (0 : Int32)))).1 ?_
  refine Runs.iloadN i0_345 rfl ?_
  refine Runs.ldcI i0_346 (w100 hw) ?_
  refine Runs.icN i0_348 (tlt (own_lt (b := 65536) (by omega) (by omega))).2.1 ?_
  refine Runs.aload i0_351 rfl rfl ?_
  refine Runs.iconst (v := (0 : Int32)) i0_353 (by decide) ?_
  refine Runs.iloadN i0_354 rfl ?_
  refine Runs.i2c (z := (Int32.ofNat N)) i0_355 (own_ccN (by omega)) ?_
  refine Runs.castore (i := 0) (y := (Int32.ofNat N)) i0_356 A_27 ⟨by decide, by decide⟩ (by decide) (Nat.le_of_ble_eq_true rfl) (own_ccN (by omega)) ge_25 (Or.inr (by decide)) ?_
  intro h_28 K_29 (A_30 : Arv Z h_28 b_20 k_21 .char (2 : Int32) [(.int (Int32.ofNat N)), (.int 0)] (.int 0))
  refine Runs.goto (t := 393) i0_357 (by decide) ?_
  refine Runs.iload i0_393 rfl ?_
  refine Runs.ifN i0_395 (feq (by decide : ¬ ((1 : Int32) = (0 : Int32)))).1 ?_
  refine Runs.aload i0_398 rfl rfl ?_
  refine Runs.iload i0_400 rfl ?_
  refine Runs.iload i0_402 rfl ?_
  refine Runs.sipush (v := (128 : Int32)) i0_404 (by decide) ?_
  refine Runs.icY (t := 416) i0_407 (by decide) (flt (own_nlt (b := 128) hB.1 (by omega))).2.1 ?_
  refine Runs.ldcI i0_416 (w185 hw) ?_
  refine Runs.castore (i := 1) (y := (65533 : Int32)) i0_418 A_30 ⟨by decide, by decide⟩ (by decide) (Nat.le_of_ble_eq_true rfl) (by decide) ge_25 (Or.inr (by decide)) ?_
  intro h_31 K_32 (A_33 : Arv Z h_31 b_20 k_21 .char (2 : Int32) [(.int (Int32.ofNat N)), (.int 65533)] (.int 0))
  have A_34 := (((A_18.keep K_22 nin0).keep K_29 (ninS (Nat.ne_of_lt (Nat.lt_of_lt_of_le (Nat.lt_of_lt_of_le A_9.lt (Nat.le_trans (Nat.le_trans K_11.1 K_14.1) K_17.1)) g_24)) nin0)).keep K_32 (ninS (Nat.ne_of_lt (Nat.lt_of_lt_of_le (Nat.lt_of_lt_of_le A_9.lt (Nat.le_trans (Nat.le_trans K_11.1 K_14.1) K_17.1)) g_24)) nin0))
  refine Runs.weak (D1 := []) (fun _ q => nomatch q) ?_
  refine Runs.mono (kc' := 2) (ks' := 16) (by decide) (by decide) ?_
  exact own_l419 l Z a0 hw n0 _ _ _ _ _ _ _ _ _ _ _ (Or.inl rfl) b_2 b_20 _ _ 3 [(.int (own_8 ((192 : Int32) ||| (Int32.ofNat (N / 64))))), (.int (own_8 ((128 : Int32) ||| (Int32.ofNat (N % 64))))), (.int (own_8 (Int32.ofNat B)))] ([(Int32.ofNat N), (65533 : Int32)] : List Int32) _ (by simp) (own_aS (own_chN (by omega)) (own_aS ⟨by decide, by decide⟩ own_a0)) A_34 ((((((E_8.keep K_11).keep K_14).keep K_17).keep K_22).keep K_29).keep K_32) A_33 cpt S_C hcpt S_A S_H S_L fm hfm S_F u8 S_I S_8 E8 (fun a h1 ga hua O0 U0 E0 hn0 => own_ct2Ng l Z a0 hw n0 N hN B hB a _ u8 _ hua cpt h1 ga O0 U0 E0 hn0 S_C hcpt S_A S_H S_L fm hfm S_F S_I)
theorem own_lf3n (l : Launch) (Z : State) (a0 : Array Value) (hw : Wds Z a0) (n0 : Nat) (p0 p1 p2 : Int32) (bb : Int32)  (N : Nat) (hN : 2048 ≤ N ∧ N < 65536) (hS : N < 55296 ∨ 57344 ≤ N) (cpt : Int32) (S_C : SC Z cpt) (hcpt : ¬ cpt = 0) (S_A : SA Z) (S_H : SH Z) (S_L : SL Z) (fm : Value) (hfm : fm.isRef = true) (S_F : SF Z fm) (u8 : Addr) (S_I : Sta Z Z.heap "sun/nio/cs/UTF_8" "INSTANCE" "Lsun/nio/cs/UTF_8;" (.ref u8)) (S_8 : Sta Z Z.heap "java/nio/charset/StandardCharsets" "UTF_8" "Ljava/nio/charset/Charset;" (.ref u8)) (E8 : Exa Z Z.heap u8 "sun/nio/cs/UTF_8") : Runs 1 l Z [("java/lang/String", 7)] n0 x.cls x.name code maxLocals ret room_1 (fun v h D' => v = some (.int 1)) [] Z.heap 0 0 94 #[vi p0, vi p1, vi p2, vi (Int32.ofNat N), vi bb, vi 1, vi 0, vi 3, .unset, .unset, .unset, .unset, .unset] [] := by
  refine Runs.iload i0_94 rfl ?_
  refine Runs.ifN i0_96 (feq (by decide : ¬ ((1 : Int32) = (0 : Int32)))).1 ?_
  refine Runs.iload i0_99 rfl ?_
  refine Runs.goto (t := 105) i0_101 (by decide) ?_
  refine Runs.istore (ls' := #[vi p0, vi p1, vi p2, vi (Int32.ofNat N), vi bb, vi 1, vi 0, vi 3, vi 3, .unset, .unset, .unset, .unset]) i0_105 rfl ?_
  refine Runs.iload i0_107 rfl ?_
  refine Runs.iload i0_109 rfl ?_
  refine Runs.ifY (t := 118) i0_111 (by decide) (teq (by decide : (0 : Int32) = (0 : Int32))).1 ?_
  refine Runs.iconst (v := (0 : Int32)) i0_118 (by decide) ?_
  refine Runs.iadd (z := (3 : Int32)) i0_119 (by decide) ?_
  refine Runs.newP (cap := 3) (ad := "[B") i0_120 (w3 hw) (by decide) (by decide) (by decide) (by decide) (by decide) rfl ?_
  intro h_1 b_2 k_3 g_6 ge_7 K_4 (A_5 : Arv Z h_1 b_2 k_3 .byte (3 : Int32) [] (.int 0)) E_8
  have A_9 : Arv Z h_1 b_2 k_3 .byte (3 : Int32) [(.int 0), (.int 0), (.int 0)] (.int 0) := A_5.pad (pad_rep [] (.int 0) 3)
  refine Runs.astore (ls' := #[vi p0, vi p1, vi p2, vi (Int32.ofNat N), vi bb, vi 1, vi 0, vi 3, vi 3, vr b_2, .unset, .unset, .unset]) i0_122 rfl rfl ?_
  refine Runs.iload i0_124 rfl ?_
  refine Runs.ifN i0_126 (feq (by decide : ¬ ((1 : Int32) = (0 : Int32)))).1 ?_
  refine Runs.iload i0_129 rfl ?_
  refine Runs.iconst (v := (1 : Int32)) i0_131 (by decide) ?_
  refine Runs.icY (t := 144) i0_132 (by decide) (feq (by decide : ¬ ((3 : Int32) = (1 : Int32)))).2 ?_
  refine Runs.iload i0_144 rfl ?_
  refine Runs.iconst (v := (2 : Int32)) i0_146 (by decide) ?_
  refine Runs.icY (t := 179) i0_147 (by decide) (feq (by decide : ¬ ((3 : Int32) = (2 : Int32)))).2 ?_
  refine Runs.iload i0_179 rfl ?_
  refine Runs.iconst (v := (3 : Int32)) i0_181 (by decide) ?_
  refine Runs.icN i0_182 (teq (by decide : (3 : Int32) = (3 : Int32))).2 ?_
  refine Runs.aload i0_185 rfl rfl ?_
  refine Runs.iconst (v := (0 : Int32)) i0_187 (by decide) ?_
  refine Runs.sipush (v := (224 : Int32)) i0_188 (by decide) ?_
  refine Runs.iloadN i0_191 rfl ?_
  refine Runs.bipush (v := (12 : Int32)) i0_192 (by decide) ?_
  refine Runs.ishr (z := (Int32.ofNat (N / 4096))) i0_194 (own_shrN (k := 12) (by omega) (by decide)) ?_
  refine Runs.ior (z := ((224 : Int32) ||| (Int32.ofNat (N / 4096)))) i0_195 rfl ?_
  refine Runs.i2b (z := (own_8 ((224 : Int32) ||| (Int32.ofNat (N / 4096))))) i0_196 rfl ?_
  refine Runs.bastore (i := 0) (y := (own_8 ((224 : Int32) ||| (Int32.ofNat (N / 4096))))) i0_197 A_9 ⟨by decide, by decide⟩ (by decide) (Nat.le_of_ble_eq_true rfl) (own_88 _) ge_7 (Or.inl (mi 0 rfl)) ?_
  intro h_10 K_11 (A_12 : Arv Z h_10 b_2 k_3 .byte (3 : Int32) [(.int (own_8 ((224 : Int32) ||| (Int32.ofNat (N / 4096))))), (.int 0), (.int 0)] (.int 0))
  refine Runs.aload i0_198 rfl rfl ?_
  refine Runs.iconst (v := (1 : Int32)) i0_200 (by decide) ?_
  refine Runs.sipush (v := (128 : Int32)) i0_201 (by decide) ?_
  refine Runs.iloadN i0_204 rfl ?_
  refine Runs.bipush (v := (6 : Int32)) i0_205 (by decide) ?_
  refine Runs.ishr (z := (Int32.ofNat (N / 64))) i0_207 (own_shrN (k := 6) (by omega) (by decide)) ?_
  refine Runs.bipush (v := (63 : Int32)) i0_208 (by decide) ?_
  refine Runs.iand (z := (Int32.ofNat (N / 64 % 64))) i0_210 (own_andN (k := 6) (by omega) (by decide) (by decide)) ?_
  refine Runs.ior (z := ((128 : Int32) ||| (Int32.ofNat (N / 64 % 64)))) i0_211 rfl ?_
  refine Runs.i2b (z := (own_8 ((128 : Int32) ||| (Int32.ofNat (N / 64 % 64))))) i0_212 rfl ?_
  refine Runs.bastore (i := 1) (y := (own_8 ((128 : Int32) ||| (Int32.ofNat (N / 64 % 64))))) i0_213 A_12 ⟨by decide, by decide⟩ (by decide) (Nat.le_of_ble_eq_true rfl) (own_88 _) ge_7 (Or.inl (mi 0 rfl)) ?_
  intro h_13 K_14 (A_15 : Arv Z h_13 b_2 k_3 .byte (3 : Int32) [(.int (own_8 ((224 : Int32) ||| (Int32.ofNat (N / 4096))))), (.int (own_8 ((128 : Int32) ||| (Int32.ofNat (N / 64 % 64))))), (.int 0)] (.int 0))
  refine Runs.aload i0_214 rfl rfl ?_
  refine Runs.iconst (v := (2 : Int32)) i0_216 (by decide) ?_
  refine Runs.sipush (v := (128 : Int32)) i0_217 (by decide) ?_
  refine Runs.iloadN i0_220 rfl ?_
  refine Runs.bipush (v := (63 : Int32)) i0_221 (by decide) ?_
  refine Runs.iand (z := (Int32.ofNat (N % 64))) i0_223 (own_andN (k := 6) (by omega) (by decide) (by decide)) ?_
  refine Runs.ior (z := ((128 : Int32) ||| (Int32.ofNat (N % 64)))) i0_224 rfl ?_
  refine Runs.i2b (z := (own_8 ((128 : Int32) ||| (Int32.ofNat (N % 64))))) i0_225 rfl ?_
  refine Runs.bastore (i := 2) (y := (own_8 ((128 : Int32) ||| (Int32.ofNat (N % 64))))) i0_226 A_15 ⟨by decide, by decide⟩ (by decide) (Nat.le_of_ble_eq_true rfl) (own_88 _) ge_7 (Or.inl (mi 0 rfl)) ?_
  intro h_16 K_17 (A_18 : Arv Z h_16 b_2 k_3 .byte (3 : Int32) [(.int (own_8 ((224 : Int32) ||| (Int32.ofNat (N / 4096))))), (.int (own_8 ((128 : Int32) ||| (Int32.ofNat (N / 64 % 64))))), (.int (own_8 ((128 : Int32) ||| (Int32.ofNat (N % 64)))))] (.int 0))
  refine Runs.goto (t := 288) i0_227 (by decide) ?_
  refine Runs.iload i0_288 rfl ?_
  refine Runs.ifY (t := 301) i0_290 (by decide) (teq (by decide : (0 : Int32) = (0 : Int32))).1 ?_
  refine Runs.iload i0_301 rfl ?_
  refine Runs.ifN i0_303 (feq (by decide : ¬ ((1 : Int32) = (0 : Int32)))).1 ?_
  refine Runs.iloadN i0_306 rfl ?_
  refine Runs.ldcI i0_307 (w100 hw) ?_
  refine Runs.icN i0_309 (tlt (own_lt (b := 65536) (by omega) (by omega))).2.1 ?_
  refine Runs.iconst (v := (1 : Int32)) i0_312 (by decide) ?_
  refine Runs.goto (t := 321) i0_313 (by decide) ?_
  refine Runs.istore (ls' := #[vi p0, vi p1, vi p2, vi (Int32.ofNat N), vi bb, vi 1, vi 0, vi 3, vi 3, vr b_2, vi 1, .unset, .unset]) i0_321 rfl ?_
  refine Runs.iload i0_323 rfl ?_
  refine Runs.iload i0_325 rfl ?_
  refine Runs.ifY (t := 334) i0_327 (by decide) (teq (by decide : (0 : Int32) = (0 : Int32))).1 ?_
  refine Runs.iconst (v := (0 : Int32)) i0_334 (by decide) ?_
  refine Runs.iadd (z := (1 : Int32)) i0_335 (by decide) ?_
  refine Runs.newP (cap := 1) (ad := "[C") i0_336 (w4 hw) (by decide) (by decide) (by decide) (by decide) (by decide) rfl ?_
  intro h_19 b_20 k_21 g_24 ge_25 K_22 (A_23 : Arv Z h_19 b_20 k_21 .char (1 : Int32) [] (.int 0)) E_26
  have A_27 : Arv Z h_19 b_20 k_21 .char (1 : Int32) [(.int 0)] (.int 0) := A_23.pad (pad_rep [] (.int 0) 1)
  refine Runs.astore (ls' := #[vi p0, vi p1, vi p2, vi (Int32.ofNat N), vi bb, vi 1, vi 0, vi 3, vi 3, vr b_2, vi 1, vr b_20, .unset]) i0_338 rfl rfl ?_
  refine Runs.iload i0_340 rfl ?_
  refine Runs.ifN i0_342 (feq (by decide : ¬ ((1 : Int32) = (0 : Int32)))).1 ?_
  refine Runs.iloadN i0_345 rfl ?_
  refine Runs.ldcI i0_346 (w100 hw) ?_
  refine Runs.icN i0_348 (tlt (own_lt (b := 65536) (by omega) (by omega))).2.1 ?_
  refine Runs.aload i0_351 rfl rfl ?_
  refine Runs.iconst (v := (0 : Int32)) i0_353 (by decide) ?_
  refine Runs.iloadN i0_354 rfl ?_
  refine Runs.i2c (z := (Int32.ofNat N)) i0_355 (own_ccN (by omega)) ?_
  refine Runs.castore (i := 0) (y := (Int32.ofNat N)) i0_356 A_27 ⟨by decide, by decide⟩ (by decide) (Nat.le_of_ble_eq_true rfl) (own_ccN (by omega)) ge_25 (Or.inr (by decide)) ?_
  intro h_28 K_29 (A_30 : Arv Z h_28 b_20 k_21 .char (1 : Int32) [(.int (Int32.ofNat N))] (.int 0))
  refine Runs.goto (t := 393) i0_357 (by decide) ?_
  refine Runs.iload i0_393 rfl ?_
  refine Runs.ifY (t := 419) i0_395 (by decide) (teq (by decide : (0 : Int32) = (0 : Int32))).1 ?_
  have A_31 := ((A_18.keep K_22 nin0).keep K_29 (ninS (Nat.ne_of_lt (Nat.lt_of_lt_of_le (Nat.lt_of_lt_of_le A_9.lt (Nat.le_trans (Nat.le_trans K_11.1 K_14.1) K_17.1)) g_24)) nin0))
  refine Runs.weak (D1 := []) (fun _ q => nomatch q) ?_
  refine Runs.mono (kc' := 2) (ks' := 16) (by decide) (by decide) ?_
  exact own_l419 l Z a0 hw n0 _ _ _ _ _ _ _ _ _ _ _ (Or.inl rfl) b_2 b_20 _ _ 3 [(.int (own_8 ((224 : Int32) ||| (Int32.ofNat (N / 4096))))), (.int (own_8 ((128 : Int32) ||| (Int32.ofNat (N / 64 % 64))))), (.int (own_8 ((128 : Int32) ||| (Int32.ofNat (N % 64)))))] ([(Int32.ofNat N)] : List Int32) _ (by simp) (own_aS (own_chN (by omega)) own_a0) A_31 (((((E_8.keep K_11).keep K_14).keep K_17).keep K_22).keep K_29) A_30 cpt S_C hcpt S_A S_H S_L fm hfm S_F u8 S_I S_8 E8 (fun a h1 ga hua O0 U0 E0 hn0 => own_ct3n l Z a0 hw n0 N hN hS a _ u8 _ hua cpt h1 ga O0 U0 E0 hn0 S_C hcpt S_A S_H S_L fm hfm S_F S_I)
theorem own_lf3p (l : Launch) (Z : State) (a0 : Array Value) (hw : Wds Z a0) (n0 : Nat) (p0 p1 p2 : Int32)  (N : Nat) (hN : 2048 ≤ N ∧ N < 65536) (hS : N < 55296 ∨ 57344 ≤ N) (B : Nat) (hB : B < 128) (cpt : Int32) (S_C : SC Z cpt) (hcpt : ¬ cpt = 0) (S_A : SA Z) (S_H : SH Z) (S_L : SL Z) (fm : Value) (hfm : fm.isRef = true) (S_F : SF Z fm) (u8 : Addr) (S_I : Sta Z Z.heap "sun/nio/cs/UTF_8" "INSTANCE" "Lsun/nio/cs/UTF_8;" (.ref u8)) (S_8 : Sta Z Z.heap "java/nio/charset/StandardCharsets" "UTF_8" "Ljava/nio/charset/Charset;" (.ref u8)) (E8 : Exa Z Z.heap u8 "sun/nio/cs/UTF_8") : Runs 1 l Z [("java/lang/String", 7)] n0 x.cls x.name code maxLocals ret room_1 (fun v h D' => v = some (.int 1)) [] Z.heap 0 0 94 #[vi p0, vi p1, vi p2, vi (Int32.ofNat N), vi (Int32.ofNat B), vi 1, vi 1, vi 3, .unset, .unset, .unset, .unset, .unset] [] := by
  refine Runs.iload i0_94 rfl ?_
  refine Runs.ifN i0_96 (feq (by decide : ¬ ((1 : Int32) = (0 : Int32)))).1 ?_
  refine Runs.iload i0_99 rfl ?_
  refine Runs.goto (t := 105) i0_101 (by decide) ?_
  refine Runs.istore (ls' := #[vi p0, vi p1, vi p2, vi (Int32.ofNat N), vi (Int32.ofNat B), vi 1, vi 1, vi 3, vi 3, .unset, .unset, .unset, .unset]) i0_105 rfl ?_
  refine Runs.iload i0_107 rfl ?_
  refine Runs.iload i0_109 rfl ?_
  refine Runs.ifN i0_111 (feq (by decide : ¬ ((1 : Int32) = (0 : Int32)))).1 ?_
  refine Runs.iconst (v := (1 : Int32)) i0_114 (by decide) ?_
  refine Runs.goto (t := 119) i0_115 (by decide) ?_
  refine Runs.iadd (z := (4 : Int32)) i0_119 (by decide) ?_
  refine Runs.newP (cap := 4) (ad := "[B") i0_120 (w3 hw) (by decide) (by decide) (by decide) (by decide) (by decide) rfl ?_
  intro h_1 b_2 k_3 g_6 ge_7 K_4 (A_5 : Arv Z h_1 b_2 k_3 .byte (4 : Int32) [] (.int 0)) E_8
  have A_9 : Arv Z h_1 b_2 k_3 .byte (4 : Int32) [(.int 0), (.int 0), (.int 0), (.int 0)] (.int 0) := A_5.pad (pad_rep [] (.int 0) 4)
  refine Runs.astore (ls' := #[vi p0, vi p1, vi p2, vi (Int32.ofNat N), vi (Int32.ofNat B), vi 1, vi 1, vi 3, vi 3, vr b_2, .unset, .unset, .unset]) i0_122 rfl rfl ?_
  refine Runs.iload i0_124 rfl ?_
  refine Runs.ifN i0_126 (feq (by decide : ¬ ((1 : Int32) = (0 : Int32)))).1 ?_
  refine Runs.iload i0_129 rfl ?_
  refine Runs.iconst (v := (1 : Int32)) i0_131 (by decide) ?_
  refine Runs.icY (t := 144) i0_132 (by decide) (feq (by decide : ¬ ((3 : Int32) = (1 : Int32)))).2 ?_
  refine Runs.iload i0_144 rfl ?_
  refine Runs.iconst (v := (2 : Int32)) i0_146 (by decide) ?_
  refine Runs.icY (t := 179) i0_147 (by decide) (feq (by decide : ¬ ((3 : Int32) = (2 : Int32)))).2 ?_
  refine Runs.iload i0_179 rfl ?_
  refine Runs.iconst (v := (3 : Int32)) i0_181 (by decide) ?_
  refine Runs.icN i0_182 (teq (by decide : (3 : Int32) = (3 : Int32))).2 ?_
  refine Runs.aload i0_185 rfl rfl ?_
  refine Runs.iconst (v := (0 : Int32)) i0_187 (by decide) ?_
  refine Runs.sipush (v := (224 : Int32)) i0_188 (by decide) ?_
  refine Runs.iloadN i0_191 rfl ?_
  refine Runs.bipush (v := (12 : Int32)) i0_192 (by decide) ?_
  refine Runs.ishr (z := (Int32.ofNat (N / 4096))) i0_194 (own_shrN (k := 12) (by omega) (by decide)) ?_
  refine Runs.ior (z := ((224 : Int32) ||| (Int32.ofNat (N / 4096)))) i0_195 rfl ?_
  refine Runs.i2b (z := (own_8 ((224 : Int32) ||| (Int32.ofNat (N / 4096))))) i0_196 rfl ?_
  refine Runs.bastore (i := 0) (y := (own_8 ((224 : Int32) ||| (Int32.ofNat (N / 4096))))) i0_197 A_9 ⟨by decide, by decide⟩ (by decide) (Nat.le_of_ble_eq_true rfl) (own_88 _) ge_7 (Or.inl (mi 0 rfl)) ?_
  intro h_10 K_11 (A_12 : Arv Z h_10 b_2 k_3 .byte (4 : Int32) [(.int (own_8 ((224 : Int32) ||| (Int32.ofNat (N / 4096))))), (.int 0), (.int 0), (.int 0)] (.int 0))
  refine Runs.aload i0_198 rfl rfl ?_
  refine Runs.iconst (v := (1 : Int32)) i0_200 (by decide) ?_
  refine Runs.sipush (v := (128 : Int32)) i0_201 (by decide) ?_
  refine Runs.iloadN i0_204 rfl ?_
  refine Runs.bipush (v := (6 : Int32)) i0_205 (by decide) ?_
  refine Runs.ishr (z := (Int32.ofNat (N / 64))) i0_207 (own_shrN (k := 6) (by omega) (by decide)) ?_
  refine Runs.bipush (v := (63 : Int32)) i0_208 (by decide) ?_
  refine Runs.iand (z := (Int32.ofNat (N / 64 % 64))) i0_210 (own_andN (k := 6) (by omega) (by decide) (by decide)) ?_
  refine Runs.ior (z := ((128 : Int32) ||| (Int32.ofNat (N / 64 % 64)))) i0_211 rfl ?_
  refine Runs.i2b (z := (own_8 ((128 : Int32) ||| (Int32.ofNat (N / 64 % 64))))) i0_212 rfl ?_
  refine Runs.bastore (i := 1) (y := (own_8 ((128 : Int32) ||| (Int32.ofNat (N / 64 % 64))))) i0_213 A_12 ⟨by decide, by decide⟩ (by decide) (Nat.le_of_ble_eq_true rfl) (own_88 _) ge_7 (Or.inl (mi 0 rfl)) ?_
  intro h_13 K_14 (A_15 : Arv Z h_13 b_2 k_3 .byte (4 : Int32) [(.int (own_8 ((224 : Int32) ||| (Int32.ofNat (N / 4096))))), (.int (own_8 ((128 : Int32) ||| (Int32.ofNat (N / 64 % 64))))), (.int 0), (.int 0)] (.int 0))
  refine Runs.aload i0_214 rfl rfl ?_
  refine Runs.iconst (v := (2 : Int32)) i0_216 (by decide) ?_
  refine Runs.sipush (v := (128 : Int32)) i0_217 (by decide) ?_
  refine Runs.iloadN i0_220 rfl ?_
  refine Runs.bipush (v := (63 : Int32)) i0_221 (by decide) ?_
  refine Runs.iand (z := (Int32.ofNat (N % 64))) i0_223 (own_andN (k := 6) (by omega) (by decide) (by decide)) ?_
  refine Runs.ior (z := ((128 : Int32) ||| (Int32.ofNat (N % 64)))) i0_224 rfl ?_
  refine Runs.i2b (z := (own_8 ((128 : Int32) ||| (Int32.ofNat (N % 64))))) i0_225 rfl ?_
  refine Runs.bastore (i := 2) (y := (own_8 ((128 : Int32) ||| (Int32.ofNat (N % 64))))) i0_226 A_15 ⟨by decide, by decide⟩ (by decide) (Nat.le_of_ble_eq_true rfl) (own_88 _) ge_7 (Or.inl (mi 0 rfl)) ?_
  intro h_16 K_17 (A_18 : Arv Z h_16 b_2 k_3 .byte (4 : Int32) [(.int (own_8 ((224 : Int32) ||| (Int32.ofNat (N / 4096))))), (.int (own_8 ((128 : Int32) ||| (Int32.ofNat (N / 64 % 64))))), (.int (own_8 ((128 : Int32) ||| (Int32.ofNat (N % 64))))), (.int 0)] (.int 0))
  refine Runs.goto (t := 288) i0_227 (by decide) ?_
  refine Runs.iload i0_288 rfl ?_
  refine Runs.ifN i0_290 (feq (by decide : ¬ ((1 : Int32) = (0 : Int32)))).1 ?_
  refine Runs.aload i0_293 rfl rfl ?_
  refine Runs.iload i0_295 rfl ?_
  refine Runs.iload i0_297 rfl ?_
  refine Runs.i2b (z := (own_8 (Int32.ofNat B))) i0_299 rfl ?_
  refine Runs.bastore (i := 3) (y := (own_8 (Int32.ofNat B))) i0_300 A_18 ⟨by decide, by decide⟩ (by decide) (Nat.le_of_ble_eq_true rfl) (own_88 _) ge_7 (Or.inl (mi 0 rfl)) ?_
  intro h_19 K_20 (A_21 : Arv Z h_19 b_2 k_3 .byte (4 : Int32) [(.int (own_8 ((224 : Int32) ||| (Int32.ofNat (N / 4096))))), (.int (own_8 ((128 : Int32) ||| (Int32.ofNat (N / 64 % 64))))), (.int (own_8 ((128 : Int32) ||| (Int32.ofNat (N % 64))))), (.int (own_8 (Int32.ofNat B)))] (.int 0))
  refine Runs.iload i0_301 rfl ?_
  refine Runs.ifN i0_303 (feq (by decide : ¬ ((1 : Int32) = (0 : Int32)))).1 ?_
  refine Runs.iloadN i0_306 rfl ?_
  refine Runs.ldcI i0_307 (w100 hw) ?_
  refine Runs.icN i0_309 (tlt (own_lt (b := 65536) (by omega) (by omega))).2.1 ?_
  refine Runs.iconst (v := (1 : Int32)) i0_312 (by decide) ?_
  refine Runs.goto (t := 321) i0_313 (by decide) ?_
  refine Runs.istore (ls' := #[vi p0, vi p1, vi p2, vi (Int32.ofNat N), vi (Int32.ofNat B), vi 1, vi 1, vi 3, vi 3, vr b_2, vi 1, .unset, .unset]) i0_321 rfl ?_
  refine Runs.iload i0_323 rfl ?_
  refine Runs.iload i0_325 rfl ?_
  refine Runs.ifN i0_327 (feq (by decide : ¬ ((1 : Int32) = (0 : Int32)))).1 ?_
  refine Runs.iconst (v := (1 : Int32)) i0_330 (by decide) ?_
  refine Runs.goto (t := 335) i0_331 (by decide) ?_
  refine Runs.iadd (z := (2 : Int32)) i0_335 (by decide) ?_
  refine Runs.newP (cap := 2) (ad := "[C") i0_336 (w4 hw) (by decide) (by decide) (by decide) (by decide) (by decide) rfl ?_
  intro h_22 b_23 k_24 g_27 ge_28 K_25 (A_26 : Arv Z h_22 b_23 k_24 .char (2 : Int32) [] (.int 0)) E_29
  have A_30 : Arv Z h_22 b_23 k_24 .char (2 : Int32) [(.int 0), (.int 0)] (.int 0) := A_26.pad (pad_rep [] (.int 0) 2)
  refine Runs.astore (ls' := #[vi p0, vi p1, vi p2, vi (Int32.ofNat N), vi (Int32.ofNat B), vi 1, vi 1, vi 3, vi 3, vr b_2, vi 1, vr b_23, .unset]) i0_338 rfl rfl ?_
  refine Runs.iload i0_340 rfl ?_
  refine Runs.ifN i0_342 (feq (by decide : ¬ ((1 : Int32) = (0 : Int32)))).1 ?_
  refine Runs.iloadN i0_345 rfl ?_
  refine Runs.ldcI i0_346 (w100 hw) ?_
  refine Runs.icN i0_348 (tlt (own_lt (b := 65536) (by omega) (by omega))).2.1 ?_
  refine Runs.aload i0_351 rfl rfl ?_
  refine Runs.iconst (v := (0 : Int32)) i0_353 (by decide) ?_
  refine Runs.iloadN i0_354 rfl ?_
  refine Runs.i2c (z := (Int32.ofNat N)) i0_355 (own_ccN (by omega)) ?_
  refine Runs.castore (i := 0) (y := (Int32.ofNat N)) i0_356 A_30 ⟨by decide, by decide⟩ (by decide) (Nat.le_of_ble_eq_true rfl) (own_ccN (by omega)) ge_28 (Or.inr (by decide)) ?_
  intro h_31 K_32 (A_33 : Arv Z h_31 b_23 k_24 .char (2 : Int32) [(.int (Int32.ofNat N)), (.int 0)] (.int 0))
  refine Runs.goto (t := 393) i0_357 (by decide) ?_
  refine Runs.iload i0_393 rfl ?_
  refine Runs.ifN i0_395 (feq (by decide : ¬ ((1 : Int32) = (0 : Int32)))).1 ?_
  refine Runs.aload i0_398 rfl rfl ?_
  refine Runs.iload i0_400 rfl ?_
  refine Runs.iload i0_402 rfl ?_
  refine Runs.sipush (v := (128 : Int32)) i0_404 (by decide) ?_
  refine Runs.icN i0_407 (tlt (own_lt (b := 128) hB (by omega))).2.1 ?_
  refine Runs.iload i0_410 rfl ?_
  refine Runs.i2c (z := (Int32.ofNat B)) i0_412 (own_ccN (by omega)) ?_
  refine Runs.goto (t := 418) i0_413 (by decide) ?_
  refine Runs.castore (i := 1) (y := (Int32.ofNat B)) i0_418 A_33 ⟨by decide, by decide⟩ (by decide) (Nat.le_of_ble_eq_true rfl) (own_ccN (by omega)) ge_28 (Or.inr (by decide)) ?_
  intro h_34 K_35 (A_36 : Arv Z h_34 b_23 k_24 .char (2 : Int32) [(.int (Int32.ofNat N)), (.int (Int32.ofNat B))] (.int 0))
  have A_37 := (((A_21.keep K_25 nin0).keep K_32 (ninS (Nat.ne_of_lt (Nat.lt_of_lt_of_le (Nat.lt_of_lt_of_le A_9.lt (Nat.le_trans (Nat.le_trans (Nat.le_trans K_11.1 K_14.1) K_17.1) K_20.1)) g_27)) nin0)).keep K_35 (ninS (Nat.ne_of_lt (Nat.lt_of_lt_of_le (Nat.lt_of_lt_of_le A_9.lt (Nat.le_trans (Nat.le_trans (Nat.le_trans K_11.1 K_14.1) K_17.1) K_20.1)) g_27)) nin0))
  refine Runs.weak (D1 := []) (fun _ q => nomatch q) ?_
  refine Runs.mono (kc' := 2) (ks' := 16) (by decide) (by decide) ?_
  exact own_l419 l Z a0 hw n0 _ _ _ _ _ _ _ _ _ _ _ (Or.inl rfl) b_2 b_23 _ _ 4 [(.int (own_8 ((224 : Int32) ||| (Int32.ofNat (N / 4096))))), (.int (own_8 ((128 : Int32) ||| (Int32.ofNat (N / 64 % 64))))), (.int (own_8 ((128 : Int32) ||| (Int32.ofNat (N % 64))))), (.int (own_8 (Int32.ofNat B)))] ([(Int32.ofNat N), (Int32.ofNat B)] : List Int32) _ (by simp) (own_aS (own_chN (by omega)) (own_aS (own_chN (by omega)) own_a0)) A_37 (((((((E_8.keep K_11).keep K_14).keep K_17).keep K_20).keep K_25).keep K_32).keep K_35) A_36 cpt S_C hcpt S_A S_H S_L fm hfm S_F u8 S_I S_8 E8 (fun a h1 ga hua O0 U0 E0 hn0 => own_ct3p l Z a0 hw n0 N hN hS B hB a _ u8 _ hua cpt h1 ga O0 U0 E0 hn0 S_C hcpt S_A S_H S_L fm hfm S_F S_I)
theorem own_lf3g (l : Launch) (Z : State) (a0 : Array Value) (hw : Wds Z a0) (n0 : Nat) (p0 p1 p2 : Int32)  (N : Nat) (hN : 2048 ≤ N ∧ N < 65536) (hS : N < 55296 ∨ 57344 ≤ N) (B : Nat) (hB : 128 ≤ B ∧ B < 256) (cpt : Int32) (S_C : SC Z cpt) (hcpt : ¬ cpt = 0) (S_A : SA Z) (S_H : SH Z) (S_L : SL Z) (fm : Value) (hfm : fm.isRef = true) (S_F : SF Z fm) (u8 : Addr) (S_I : Sta Z Z.heap "sun/nio/cs/UTF_8" "INSTANCE" "Lsun/nio/cs/UTF_8;" (.ref u8)) (S_8 : Sta Z Z.heap "java/nio/charset/StandardCharsets" "UTF_8" "Ljava/nio/charset/Charset;" (.ref u8)) (E8 : Exa Z Z.heap u8 "sun/nio/cs/UTF_8") : Runs 1 l Z [("java/lang/String", 7)] n0 x.cls x.name code maxLocals ret room_1 (fun v h D' => v = some (.int 1)) [] Z.heap 0 0 94 #[vi p0, vi p1, vi p2, vi (Int32.ofNat N), vi (Int32.ofNat B), vi 1, vi 1, vi 3, .unset, .unset, .unset, .unset, .unset] [] := by
  refine Runs.iload i0_94 rfl ?_
  refine Runs.ifN i0_96 (feq (by decide : ¬ ((1 : Int32) = (0 : Int32)))).1 ?_
  refine Runs.iload i0_99 rfl ?_
  refine Runs.goto (t := 105) i0_101 (by decide) ?_
  refine Runs.istore (ls' := #[vi p0, vi p1, vi p2, vi (Int32.ofNat N), vi (Int32.ofNat B), vi 1, vi 1, vi 3, vi 3, .unset, .unset, .unset, .unset]) i0_105 rfl ?_
  refine Runs.iload i0_107 rfl ?_
  refine Runs.iload i0_109 rfl ?_
  refine Runs.ifN i0_111 (feq (by decide : ¬ ((1 : Int32) = (0 : Int32)))).1 ?_
  refine Runs.iconst (v := (1 : Int32)) i0_114 (by decide) ?_
  refine Runs.goto (t := 119) i0_115 (by decide) ?_
  refine Runs.iadd (z := (4 : Int32)) i0_119 (by decide) ?_
  refine Runs.newP (cap := 4) (ad := "[B") i0_120 (w3 hw) (by decide) (by decide) (by decide) (by decide) (by decide) rfl ?_
  intro h_1 b_2 k_3 g_6 ge_7 K_4 (A_5 : Arv Z h_1 b_2 k_3 .byte (4 : Int32) [] (.int 0)) E_8
  have A_9 : Arv Z h_1 b_2 k_3 .byte (4 : Int32) [(.int 0), (.int 0), (.int 0), (.int 0)] (.int 0) := A_5.pad (pad_rep [] (.int 0) 4)
  refine Runs.astore (ls' := #[vi p0, vi p1, vi p2, vi (Int32.ofNat N), vi (Int32.ofNat B), vi 1, vi 1, vi 3, vi 3, vr b_2, .unset, .unset, .unset]) i0_122 rfl rfl ?_
  refine Runs.iload i0_124 rfl ?_
  refine Runs.ifN i0_126 (feq (by decide : ¬ ((1 : Int32) = (0 : Int32)))).1 ?_
  refine Runs.iload i0_129 rfl ?_
  refine Runs.iconst (v := (1 : Int32)) i0_131 (by decide) ?_
  refine Runs.icY (t := 144) i0_132 (by decide) (feq (by decide : ¬ ((3 : Int32) = (1 : Int32)))).2 ?_
  refine Runs.iload i0_144 rfl ?_
  refine Runs.iconst (v := (2 : Int32)) i0_146 (by decide) ?_
  refine Runs.icY (t := 179) i0_147 (by decide) (feq (by decide : ¬ ((3 : Int32) = (2 : Int32)))).2 ?_
  refine Runs.iload i0_179 rfl ?_
  refine Runs.iconst (v := (3 : Int32)) i0_181 (by decide) ?_
  refine Runs.icN i0_182 (teq (by decide : (3 : Int32) = (3 : Int32))).2 ?_
  refine Runs.aload i0_185 rfl rfl ?_
  refine Runs.iconst (v := (0 : Int32)) i0_187 (by decide) ?_
  refine Runs.sipush (v := (224 : Int32)) i0_188 (by decide) ?_
  refine Runs.iloadN i0_191 rfl ?_
  refine Runs.bipush (v := (12 : Int32)) i0_192 (by decide) ?_
  refine Runs.ishr (z := (Int32.ofNat (N / 4096))) i0_194 (own_shrN (k := 12) (by omega) (by decide)) ?_
  refine Runs.ior (z := ((224 : Int32) ||| (Int32.ofNat (N / 4096)))) i0_195 rfl ?_
  refine Runs.i2b (z := (own_8 ((224 : Int32) ||| (Int32.ofNat (N / 4096))))) i0_196 rfl ?_
  refine Runs.bastore (i := 0) (y := (own_8 ((224 : Int32) ||| (Int32.ofNat (N / 4096))))) i0_197 A_9 ⟨by decide, by decide⟩ (by decide) (Nat.le_of_ble_eq_true rfl) (own_88 _) ge_7 (Or.inl (mi 0 rfl)) ?_
  intro h_10 K_11 (A_12 : Arv Z h_10 b_2 k_3 .byte (4 : Int32) [(.int (own_8 ((224 : Int32) ||| (Int32.ofNat (N / 4096))))), (.int 0), (.int 0), (.int 0)] (.int 0))
  refine Runs.aload i0_198 rfl rfl ?_
  refine Runs.iconst (v := (1 : Int32)) i0_200 (by decide) ?_
  refine Runs.sipush (v := (128 : Int32)) i0_201 (by decide) ?_
  refine Runs.iloadN i0_204 rfl ?_
  refine Runs.bipush (v := (6 : Int32)) i0_205 (by decide) ?_
  refine Runs.ishr (z := (Int32.ofNat (N / 64))) i0_207 (own_shrN (k := 6) (by omega) (by decide)) ?_
  refine Runs.bipush (v := (63 : Int32)) i0_208 (by decide) ?_
  refine Runs.iand (z := (Int32.ofNat (N / 64 % 64))) i0_210 (own_andN (k := 6) (by omega) (by decide) (by decide)) ?_
  refine Runs.ior (z := ((128 : Int32) ||| (Int32.ofNat (N / 64 % 64)))) i0_211 rfl ?_
  refine Runs.i2b (z := (own_8 ((128 : Int32) ||| (Int32.ofNat (N / 64 % 64))))) i0_212 rfl ?_
  refine Runs.bastore (i := 1) (y := (own_8 ((128 : Int32) ||| (Int32.ofNat (N / 64 % 64))))) i0_213 A_12 ⟨by decide, by decide⟩ (by decide) (Nat.le_of_ble_eq_true rfl) (own_88 _) ge_7 (Or.inl (mi 0 rfl)) ?_
  intro h_13 K_14 (A_15 : Arv Z h_13 b_2 k_3 .byte (4 : Int32) [(.int (own_8 ((224 : Int32) ||| (Int32.ofNat (N / 4096))))), (.int (own_8 ((128 : Int32) ||| (Int32.ofNat (N / 64 % 64))))), (.int 0), (.int 0)] (.int 0))
  refine Runs.aload i0_214 rfl rfl ?_
  refine Runs.iconst (v := (2 : Int32)) i0_216 (by decide) ?_
  refine Runs.sipush (v := (128 : Int32)) i0_217 (by decide) ?_
  refine Runs.iloadN i0_220 rfl ?_
  refine Runs.bipush (v := (63 : Int32)) i0_221 (by decide) ?_
  refine Runs.iand (z := (Int32.ofNat (N % 64))) i0_223 (own_andN (k := 6) (by omega) (by decide) (by decide)) ?_
  refine Runs.ior (z := ((128 : Int32) ||| (Int32.ofNat (N % 64)))) i0_224 rfl ?_
  refine Runs.i2b (z := (own_8 ((128 : Int32) ||| (Int32.ofNat (N % 64))))) i0_225 rfl ?_
  refine Runs.bastore (i := 2) (y := (own_8 ((128 : Int32) ||| (Int32.ofNat (N % 64))))) i0_226 A_15 ⟨by decide, by decide⟩ (by decide) (Nat.le_of_ble_eq_true rfl) (own_88 _) ge_7 (Or.inl (mi 0 rfl)) ?_
  intro h_16 K_17 (A_18 : Arv Z h_16 b_2 k_3 .byte (4 : Int32) [(.int (own_8 ((224 : Int32) ||| (Int32.ofNat (N / 4096))))), (.int (own_8 ((128 : Int32) ||| (Int32.ofNat (N / 64 % 64))))), (.int (own_8 ((128 : Int32) ||| (Int32.ofNat (N % 64))))), (.int 0)] (.int 0))
  refine Runs.goto (t := 288) i0_227 (by decide) ?_
  refine Runs.iload i0_288 rfl ?_
  refine Runs.ifN i0_290 (feq (by decide : ¬ ((1 : Int32) = (0 : Int32)))).1 ?_
  refine Runs.aload i0_293 rfl rfl ?_
  refine Runs.iload i0_295 rfl ?_
  refine Runs.iload i0_297 rfl ?_
  refine Runs.i2b (z := (own_8 (Int32.ofNat B))) i0_299 rfl ?_
  refine Runs.bastore (i := 3) (y := (own_8 (Int32.ofNat B))) i0_300 A_18 ⟨by decide, by decide⟩ (by decide) (Nat.le_of_ble_eq_true rfl) (own_88 _) ge_7 (Or.inl (mi 0 rfl)) ?_
  intro h_19 K_20 (A_21 : Arv Z h_19 b_2 k_3 .byte (4 : Int32) [(.int (own_8 ((224 : Int32) ||| (Int32.ofNat (N / 4096))))), (.int (own_8 ((128 : Int32) ||| (Int32.ofNat (N / 64 % 64))))), (.int (own_8 ((128 : Int32) ||| (Int32.ofNat (N % 64))))), (.int (own_8 (Int32.ofNat B)))] (.int 0))
  refine Runs.iload i0_301 rfl ?_
  refine Runs.ifN i0_303 (feq (by decide : ¬ ((1 : Int32) = (0 : Int32)))).1 ?_
  refine Runs.iloadN i0_306 rfl ?_
  refine Runs.ldcI i0_307 (w100 hw) ?_
  refine Runs.icN i0_309 (tlt (own_lt (b := 65536) (by omega) (by omega))).2.1 ?_
  refine Runs.iconst (v := (1 : Int32)) i0_312 (by decide) ?_
  refine Runs.goto (t := 321) i0_313 (by decide) ?_
  refine Runs.istore (ls' := #[vi p0, vi p1, vi p2, vi (Int32.ofNat N), vi (Int32.ofNat B), vi 1, vi 1, vi 3, vi 3, vr b_2, vi 1, .unset, .unset]) i0_321 rfl ?_
  refine Runs.iload i0_323 rfl ?_
  refine Runs.iload i0_325 rfl ?_
  refine Runs.ifN i0_327 (feq (by decide : ¬ ((1 : Int32) = (0 : Int32)))).1 ?_
  refine Runs.iconst (v := (1 : Int32)) i0_330 (by decide) ?_
  refine Runs.goto (t := 335) i0_331 (by decide) ?_
  refine Runs.iadd (z := (2 : Int32)) i0_335 (by decide) ?_
  refine Runs.newP (cap := 2) (ad := "[C") i0_336 (w4 hw) (by decide) (by decide) (by decide) (by decide) (by decide) rfl ?_
  intro h_22 b_23 k_24 g_27 ge_28 K_25 (A_26 : Arv Z h_22 b_23 k_24 .char (2 : Int32) [] (.int 0)) E_29
  have A_30 : Arv Z h_22 b_23 k_24 .char (2 : Int32) [(.int 0), (.int 0)] (.int 0) := A_26.pad (pad_rep [] (.int 0) 2)
  refine Runs.astore (ls' := #[vi p0, vi p1, vi p2, vi (Int32.ofNat N), vi (Int32.ofNat B), vi 1, vi 1, vi 3, vi 3, vr b_2, vi 1, vr b_23, .unset]) i0_338 rfl rfl ?_
  refine Runs.iload i0_340 rfl ?_
  refine Runs.ifN i0_342 (feq (by decide : ¬ ((1 : Int32) = (0 : Int32)))).1 ?_
  refine Runs.iloadN i0_345 rfl ?_
  refine Runs.ldcI i0_346 (w100 hw) ?_
  refine Runs.icN i0_348 (tlt (own_lt (b := 65536) (by omega) (by omega))).2.1 ?_
  refine Runs.aload i0_351 rfl rfl ?_
  refine Runs.iconst (v := (0 : Int32)) i0_353 (by decide) ?_
  refine Runs.iloadN i0_354 rfl ?_
  refine Runs.i2c (z := (Int32.ofNat N)) i0_355 (own_ccN (by omega)) ?_
  refine Runs.castore (i := 0) (y := (Int32.ofNat N)) i0_356 A_30 ⟨by decide, by decide⟩ (by decide) (Nat.le_of_ble_eq_true rfl) (own_ccN (by omega)) ge_28 (Or.inr (by decide)) ?_
  intro h_31 K_32 (A_33 : Arv Z h_31 b_23 k_24 .char (2 : Int32) [(.int (Int32.ofNat N)), (.int 0)] (.int 0))
  refine Runs.goto (t := 393) i0_357 (by decide) ?_
  refine Runs.iload i0_393 rfl ?_
  refine Runs.ifN i0_395 (feq (by decide : ¬ ((1 : Int32) = (0 : Int32)))).1 ?_
  refine Runs.aload i0_398 rfl rfl ?_
  refine Runs.iload i0_400 rfl ?_
  refine Runs.iload i0_402 rfl ?_
  refine Runs.sipush (v := (128 : Int32)) i0_404 (by decide) ?_
  refine Runs.icY (t := 416) i0_407 (by decide) (flt (own_nlt (b := 128) hB.1 (by omega))).2.1 ?_
  refine Runs.ldcI i0_416 (w185 hw) ?_
  refine Runs.castore (i := 1) (y := (65533 : Int32)) i0_418 A_33 ⟨by decide, by decide⟩ (by decide) (Nat.le_of_ble_eq_true rfl) (by decide) ge_28 (Or.inr (by decide)) ?_
  intro h_34 K_35 (A_36 : Arv Z h_34 b_23 k_24 .char (2 : Int32) [(.int (Int32.ofNat N)), (.int 65533)] (.int 0))
  have A_37 := (((A_21.keep K_25 nin0).keep K_32 (ninS (Nat.ne_of_lt (Nat.lt_of_lt_of_le (Nat.lt_of_lt_of_le A_9.lt (Nat.le_trans (Nat.le_trans (Nat.le_trans K_11.1 K_14.1) K_17.1) K_20.1)) g_27)) nin0)).keep K_35 (ninS (Nat.ne_of_lt (Nat.lt_of_lt_of_le (Nat.lt_of_lt_of_le A_9.lt (Nat.le_trans (Nat.le_trans (Nat.le_trans K_11.1 K_14.1) K_17.1) K_20.1)) g_27)) nin0))
  refine Runs.weak (D1 := []) (fun _ q => nomatch q) ?_
  refine Runs.mono (kc' := 2) (ks' := 16) (by decide) (by decide) ?_
  exact own_l419 l Z a0 hw n0 _ _ _ _ _ _ _ _ _ _ _ (Or.inl rfl) b_2 b_23 _ _ 4 [(.int (own_8 ((224 : Int32) ||| (Int32.ofNat (N / 4096))))), (.int (own_8 ((128 : Int32) ||| (Int32.ofNat (N / 64 % 64))))), (.int (own_8 ((128 : Int32) ||| (Int32.ofNat (N % 64))))), (.int (own_8 (Int32.ofNat B)))] ([(Int32.ofNat N), (65533 : Int32)] : List Int32) _ (by simp) (own_aS (own_chN (by omega)) (own_aS ⟨by decide, by decide⟩ own_a0)) A_37 (((((((E_8.keep K_11).keep K_14).keep K_17).keep K_20).keep K_25).keep K_32).keep K_35) A_36 cpt S_C hcpt S_A S_H S_L fm hfm S_F u8 S_I S_8 E8 (fun a h1 ga hua O0 U0 E0 hn0 => own_ct3g l Z a0 hw n0 N hN hS B hB a _ u8 _ hua cpt h1 ga O0 U0 E0 hn0 S_C hcpt S_A S_H S_L fm hfm S_F S_I)
theorem own_lf4n (l : Launch) (Z : State) (a0 : Array Value) (hw : Wds Z a0) (n0 : Nat) (p0 p1 p2 : Int32) (bb : Int32)  (N : Nat) (hN : 65536 ≤ N ∧ N < 1114112) (cpt : Int32) (S_C : SC Z cpt) (hcpt : ¬ cpt = 0) (S_A : SA Z) (S_H : SH Z) (S_L : SL Z) (fm : Value) (hfm : fm.isRef = true) (S_F : SF Z fm) (u8 : Addr) (S_I : Sta Z Z.heap "sun/nio/cs/UTF_8" "INSTANCE" "Lsun/nio/cs/UTF_8;" (.ref u8)) (S_8 : Sta Z Z.heap "java/nio/charset/StandardCharsets" "UTF_8" "Ljava/nio/charset/Charset;" (.ref u8)) (E8 : Exa Z Z.heap u8 "sun/nio/cs/UTF_8") : Runs 1 l Z [("java/lang/String", 7)] n0 x.cls x.name code maxLocals ret room_1 (fun v h D' => v = some (.int 1)) [] Z.heap 0 0 94 #[vi p0, vi p1, vi p2, vi (Int32.ofNat N), vi bb, vi 1, vi 0, vi 4, .unset, .unset, .unset, .unset, .unset] [] := by
  refine Runs.iload i0_94 rfl ?_
  refine Runs.ifN i0_96 (feq (by decide : ¬ ((1 : Int32) = (0 : Int32)))).1 ?_
  refine Runs.iload i0_99 rfl ?_
  refine Runs.goto (t := 105) i0_101 (by decide) ?_
  refine Runs.istore (ls' := #[vi p0, vi p1, vi p2, vi (Int32.ofNat N), vi bb, vi 1, vi 0, vi 4, vi 4, .unset, .unset, .unset, .unset]) i0_105 rfl ?_
  refine Runs.iload i0_107 rfl ?_
  refine Runs.iload i0_109 rfl ?_
  refine Runs.ifY (t := 118) i0_111 (by decide) (teq (by decide : (0 : Int32) = (0 : Int32))).1 ?_
  refine Runs.iconst (v := (0 : Int32)) i0_118 (by decide) ?_
  refine Runs.iadd (z := (4 : Int32)) i0_119 (by decide) ?_
  refine Runs.newP (cap := 4) (ad := "[B") i0_120 (w3 hw) (by decide) (by decide) (by decide) (by decide) (by decide) rfl ?_
  intro h_1 b_2 k_3 g_6 ge_7 K_4 (A_5 : Arv Z h_1 b_2 k_3 .byte (4 : Int32) [] (.int 0)) E_8
  have A_9 : Arv Z h_1 b_2 k_3 .byte (4 : Int32) [(.int 0), (.int 0), (.int 0), (.int 0)] (.int 0) := A_5.pad (pad_rep [] (.int 0) 4)
  refine Runs.astore (ls' := #[vi p0, vi p1, vi p2, vi (Int32.ofNat N), vi bb, vi 1, vi 0, vi 4, vi 4, vr b_2, .unset, .unset, .unset]) i0_122 rfl rfl ?_
  refine Runs.iload i0_124 rfl ?_
  refine Runs.ifN i0_126 (feq (by decide : ¬ ((1 : Int32) = (0 : Int32)))).1 ?_
  refine Runs.iload i0_129 rfl ?_
  refine Runs.iconst (v := (1 : Int32)) i0_131 (by decide) ?_
  refine Runs.icY (t := 144) i0_132 (by decide) (feq (by decide : ¬ ((4 : Int32) = (1 : Int32)))).2 ?_
  refine Runs.iload i0_144 rfl ?_
  refine Runs.iconst (v := (2 : Int32)) i0_146 (by decide) ?_
  refine Runs.icY (t := 179) i0_147 (by decide) (feq (by decide : ¬ ((4 : Int32) = (2 : Int32)))).2 ?_
  refine Runs.iload i0_179 rfl ?_
  refine Runs.iconst (v := (3 : Int32)) i0_181 (by decide) ?_
  refine Runs.icY (t := 230) i0_182 (by decide) (feq (by decide : ¬ ((4 : Int32) = (3 : Int32)))).2 ?_
  refine Runs.aload i0_230 rfl rfl ?_
  refine Runs.iconst (v := (0 : Int32)) i0_232 (by decide) ?_
  refine Runs.sipush (v := (240 : Int32)) i0_233 (by decide) ?_
  refine Runs.iloadN i0_236 rfl ?_
  refine Runs.bipush (v := (18 : Int32)) i0_237 (by decide) ?_
  refine Runs.ishr (z := (Int32.ofNat (N / 262144))) i0_239 (own_shrN (k := 18) (by omega) (by decide)) ?_
  refine Runs.ior (z := ((240 : Int32) ||| (Int32.ofNat (N / 262144)))) i0_240 rfl ?_
  refine Runs.i2b (z := (own_8 ((240 : Int32) ||| (Int32.ofNat (N / 262144))))) i0_241 rfl ?_
  refine Runs.bastore (i := 0) (y := (own_8 ((240 : Int32) ||| (Int32.ofNat (N / 262144))))) i0_242 A_9 ⟨by decide, by decide⟩ (by decide) (Nat.le_of_ble_eq_true rfl) (own_88 _) ge_7 (Or.inl (mi 0 rfl)) ?_
  intro h_10 K_11 (A_12 : Arv Z h_10 b_2 k_3 .byte (4 : Int32) [(.int (own_8 ((240 : Int32) ||| (Int32.ofNat (N / 262144))))), (.int 0), (.int 0), (.int 0)] (.int 0))
  refine Runs.aload i0_243 rfl rfl ?_
  refine Runs.iconst (v := (1 : Int32)) i0_245 (by decide) ?_
  refine Runs.sipush (v := (128 : Int32)) i0_246 (by decide) ?_
  refine Runs.iloadN i0_249 rfl ?_
  refine Runs.bipush (v := (12 : Int32)) i0_250 (by decide) ?_
  refine Runs.ishr (z := (Int32.ofNat (N / 4096))) i0_252 (own_shrN (k := 12) (by omega) (by decide)) ?_
  refine Runs.bipush (v := (63 : Int32)) i0_253 (by decide) ?_
  refine Runs.iand (z := (Int32.ofNat (N / 4096 % 64))) i0_255 (own_andN (k := 6) (by omega) (by decide) (by decide)) ?_
  refine Runs.ior (z := ((128 : Int32) ||| (Int32.ofNat (N / 4096 % 64)))) i0_256 rfl ?_
  refine Runs.i2b (z := (own_8 ((128 : Int32) ||| (Int32.ofNat (N / 4096 % 64))))) i0_257 rfl ?_
  refine Runs.bastore (i := 1) (y := (own_8 ((128 : Int32) ||| (Int32.ofNat (N / 4096 % 64))))) i0_258 A_12 ⟨by decide, by decide⟩ (by decide) (Nat.le_of_ble_eq_true rfl) (own_88 _) ge_7 (Or.inl (mi 0 rfl)) ?_
  intro h_13 K_14 (A_15 : Arv Z h_13 b_2 k_3 .byte (4 : Int32) [(.int (own_8 ((240 : Int32) ||| (Int32.ofNat (N / 262144))))), (.int (own_8 ((128 : Int32) ||| (Int32.ofNat (N / 4096 % 64))))), (.int 0), (.int 0)] (.int 0))
  refine Runs.aload i0_259 rfl rfl ?_
  refine Runs.iconst (v := (2 : Int32)) i0_261 (by decide) ?_
  refine Runs.sipush (v := (128 : Int32)) i0_262 (by decide) ?_
  refine Runs.iloadN i0_265 rfl ?_
  refine Runs.bipush (v := (6 : Int32)) i0_266 (by decide) ?_
  refine Runs.ishr (z := (Int32.ofNat (N / 64))) i0_268 (own_shrN (k := 6) (by omega) (by decide)) ?_
  refine Runs.bipush (v := (63 : Int32)) i0_269 (by decide) ?_
  refine Runs.iand (z := (Int32.ofNat (N / 64 % 64))) i0_271 (own_andN (k := 6) (by omega) (by decide) (by decide)) ?_
  refine Runs.ior (z := ((128 : Int32) ||| (Int32.ofNat (N / 64 % 64)))) i0_272 rfl ?_
  refine Runs.i2b (z := (own_8 ((128 : Int32) ||| (Int32.ofNat (N / 64 % 64))))) i0_273 rfl ?_
  refine Runs.bastore (i := 2) (y := (own_8 ((128 : Int32) ||| (Int32.ofNat (N / 64 % 64))))) i0_274 A_15 ⟨by decide, by decide⟩ (by decide) (Nat.le_of_ble_eq_true rfl) (own_88 _) ge_7 (Or.inl (mi 0 rfl)) ?_
  intro h_16 K_17 (A_18 : Arv Z h_16 b_2 k_3 .byte (4 : Int32) [(.int (own_8 ((240 : Int32) ||| (Int32.ofNat (N / 262144))))), (.int (own_8 ((128 : Int32) ||| (Int32.ofNat (N / 4096 % 64))))), (.int (own_8 ((128 : Int32) ||| (Int32.ofNat (N / 64 % 64))))), (.int 0)] (.int 0))
  refine Runs.aload i0_275 rfl rfl ?_
  refine Runs.iconst (v := (3 : Int32)) i0_277 (by decide) ?_
  refine Runs.sipush (v := (128 : Int32)) i0_278 (by decide) ?_
  refine Runs.iloadN i0_281 rfl ?_
  refine Runs.bipush (v := (63 : Int32)) i0_282 (by decide) ?_
  refine Runs.iand (z := (Int32.ofNat (N % 64))) i0_284 (own_andN (k := 6) (by omega) (by decide) (by decide)) ?_
  refine Runs.ior (z := ((128 : Int32) ||| (Int32.ofNat (N % 64)))) i0_285 rfl ?_
  refine Runs.i2b (z := (own_8 ((128 : Int32) ||| (Int32.ofNat (N % 64))))) i0_286 rfl ?_
  refine Runs.bastore (i := 3) (y := (own_8 ((128 : Int32) ||| (Int32.ofNat (N % 64))))) i0_287 A_18 ⟨by decide, by decide⟩ (by decide) (Nat.le_of_ble_eq_true rfl) (own_88 _) ge_7 (Or.inl (mi 0 rfl)) ?_
  intro h_19 K_20 (A_21 : Arv Z h_19 b_2 k_3 .byte (4 : Int32) [(.int (own_8 ((240 : Int32) ||| (Int32.ofNat (N / 262144))))), (.int (own_8 ((128 : Int32) ||| (Int32.ofNat (N / 4096 % 64))))), (.int (own_8 ((128 : Int32) ||| (Int32.ofNat (N / 64 % 64))))), (.int (own_8 ((128 : Int32) ||| (Int32.ofNat (N % 64)))))] (.int 0))
  refine Runs.iload i0_288 rfl ?_
  refine Runs.ifY (t := 301) i0_290 (by decide) (teq (by decide : (0 : Int32) = (0 : Int32))).1 ?_
  refine Runs.iload i0_301 rfl ?_
  refine Runs.ifN i0_303 (feq (by decide : ¬ ((1 : Int32) = (0 : Int32)))).1 ?_
  refine Runs.iloadN i0_306 rfl ?_
  refine Runs.ldcI i0_307 (w100 hw) ?_
  refine Runs.icY (t := 316) i0_309 (by decide) (flt (own_nlt (b := 65536) (by omega) (by omega))).2.1 ?_
  refine Runs.iconst (v := (2 : Int32)) i0_316 (by decide) ?_
  refine Runs.goto (t := 321) i0_317 (by decide) ?_
  refine Runs.istore (ls' := #[vi p0, vi p1, vi p2, vi (Int32.ofNat N), vi bb, vi 1, vi 0, vi 4, vi 4, vr b_2, vi 2, .unset, .unset]) i0_321 rfl ?_
  refine Runs.iload i0_323 rfl ?_
  refine Runs.iload i0_325 rfl ?_
  refine Runs.ifY (t := 334) i0_327 (by decide) (teq (by decide : (0 : Int32) = (0 : Int32))).1 ?_
  refine Runs.iconst (v := (0 : Int32)) i0_334 (by decide) ?_
  refine Runs.iadd (z := (2 : Int32)) i0_335 (by decide) ?_
  refine Runs.newP (cap := 2) (ad := "[C") i0_336 (w4 hw) (by decide) (by decide) (by decide) (by decide) (by decide) rfl ?_
  intro h_22 b_23 k_24 g_27 ge_28 K_25 (A_26 : Arv Z h_22 b_23 k_24 .char (2 : Int32) [] (.int 0)) E_29
  have A_30 : Arv Z h_22 b_23 k_24 .char (2 : Int32) [(.int 0), (.int 0)] (.int 0) := A_26.pad (pad_rep [] (.int 0) 2)
  refine Runs.astore (ls' := #[vi p0, vi p1, vi p2, vi (Int32.ofNat N), vi bb, vi 1, vi 0, vi 4, vi 4, vr b_2, vi 2, vr b_23, .unset]) i0_338 rfl rfl ?_
  refine Runs.iload i0_340 rfl ?_
  refine Runs.ifN i0_342 (feq (by decide : ¬ ((1 : Int32) = (0 : Int32)))).1 ?_
  refine Runs.iloadN i0_345 rfl ?_
  refine Runs.ldcI i0_346 (w100 hw) ?_
  refine Runs.icY (t := 360) i0_348 (by decide) (flt (own_nlt (b := 65536) (by omega) (by omega))).2.1 ?_
  refine Runs.iloadN i0_360 rfl ?_
  refine Runs.ldcI i0_361 (w100 hw) ?_
  refine Runs.isub (z := (Int32.ofNat (N - 65536))) i0_363 (own_sub (a := N) (b := 65536) (by omega) (by omega)) ?_
  refine Runs.istore (ls' := #[vi p0, vi p1, vi p2, vi (Int32.ofNat N), vi bb, vi 1, vi 0, vi 4, vi 4, vr b_2, vi 2, vr b_23, vi (Int32.ofNat (N - 65536))]) i0_364 rfl ?_
  refine Runs.aload i0_366 rfl rfl ?_
  refine Runs.iconst (v := (0 : Int32)) i0_368 (by decide) ?_
  refine Runs.ldcI i0_369 (w2 hw) ?_
  refine Runs.iload i0_371 rfl ?_
  refine Runs.bipush (v := (10 : Int32)) i0_373 (by decide) ?_
  refine Runs.ishr (z := (Int32.ofNat ((N - 65536) / 1024))) i0_375 (own_shrN (k := 10) (by omega) (by decide)) ?_
  refine Runs.iadd (z := (Int32.ofNat (55296 + ((N - 65536) / 1024)))) i0_376 (own_add (a := 55296) (b := ((N - 65536) / 1024)) (by omega)) ?_
  refine Runs.i2c (z := (Int32.ofNat (55296 + ((N - 65536) / 1024)))) i0_377 (own_ccN (by omega)) ?_
  refine Runs.castore (i := 0) (y := (Int32.ofNat (55296 + ((N - 65536) / 1024)))) i0_378 A_30 ⟨by decide, by decide⟩ (by decide) (Nat.le_of_ble_eq_true rfl) (own_ccN (by omega)) ge_28 (Or.inr (by decide)) ?_
  intro h_31 K_32 (A_33 : Arv Z h_31 b_23 k_24 .char (2 : Int32) [(.int (Int32.ofNat (55296 + ((N - 65536) / 1024)))), (.int 0)] (.int 0))
  refine Runs.aload i0_379 rfl rfl ?_
  refine Runs.iconst (v := (1 : Int32)) i0_381 (by decide) ?_
  refine Runs.ldcI i0_382 (w116 hw) ?_
  refine Runs.iload i0_384 rfl ?_
  refine Runs.sipush (v := (1023 : Int32)) i0_386 (by decide) ?_
  refine Runs.iand (z := (Int32.ofNat ((N - 65536) % 1024))) i0_389 (own_andN (k := 10) (by omega) (by decide) (by decide)) ?_
  refine Runs.iadd (z := (Int32.ofNat (56320 + ((N - 65536) % 1024)))) i0_390 (own_add (a := 56320) (b := ((N - 65536) % 1024)) (by omega)) ?_
  refine Runs.i2c (z := (Int32.ofNat (56320 + ((N - 65536) % 1024)))) i0_391 (own_ccN (by omega)) ?_
  refine Runs.castore (i := 1) (y := (Int32.ofNat (56320 + ((N - 65536) % 1024)))) i0_392 A_33 ⟨by decide, by decide⟩ (by decide) (Nat.le_of_ble_eq_true rfl) (own_ccN (by omega)) ge_28 (Or.inr (by decide)) ?_
  intro h_34 K_35 (A_36 : Arv Z h_34 b_23 k_24 .char (2 : Int32) [(.int (Int32.ofNat (55296 + ((N - 65536) / 1024)))), (.int (Int32.ofNat (56320 + ((N - 65536) % 1024))))] (.int 0))
  refine Runs.iload i0_393 rfl ?_
  refine Runs.ifY (t := 419) i0_395 (by decide) (teq (by decide : (0 : Int32) = (0 : Int32))).1 ?_
  have A_37 := (((A_21.keep K_25 nin0).keep K_32 (ninS (Nat.ne_of_lt (Nat.lt_of_lt_of_le (Nat.lt_of_lt_of_le A_9.lt (Nat.le_trans (Nat.le_trans (Nat.le_trans K_11.1 K_14.1) K_17.1) K_20.1)) g_27)) nin0)).keep K_35 (ninS (Nat.ne_of_lt (Nat.lt_of_lt_of_le (Nat.lt_of_lt_of_le A_9.lt (Nat.le_trans (Nat.le_trans (Nat.le_trans K_11.1 K_14.1) K_17.1) K_20.1)) g_27)) nin0))
  refine Runs.weak (D1 := []) (fun _ q => nomatch q) ?_
  refine Runs.mono (kc' := 2) (ks' := 16) (by decide) (by decide) ?_
  exact own_l419 l Z a0 hw n0 _ _ _ _ _ _ _ _ _ _ _ (Or.inr ⟨_, rfl⟩) b_2 b_23 _ _ 4 [(.int (own_8 ((240 : Int32) ||| (Int32.ofNat (N / 262144))))), (.int (own_8 ((128 : Int32) ||| (Int32.ofNat (N / 4096 % 64))))), (.int (own_8 ((128 : Int32) ||| (Int32.ofNat (N / 64 % 64))))), (.int (own_8 ((128 : Int32) ||| (Int32.ofNat (N % 64)))))] ([(Int32.ofNat (55296 + (N - 65536) / 1024)), (Int32.ofNat (56320 + (N - 65536) % 1024))] : List Int32) _ (by simp) (own_aS (own_chN (by omega)) (own_aS (own_chN (by omega)) own_a0)) A_37 (((((((E_8.keep K_11).keep K_14).keep K_17).keep K_20).keep K_25).keep K_32).keep K_35) A_36 cpt S_C hcpt S_A S_H S_L fm hfm S_F u8 S_I S_8 E8 (fun a h1 ga hua O0 U0 E0 hn0 => own_ct4n l Z a0 hw n0 N hN a _ u8 _ hua cpt h1 ga O0 U0 E0 hn0 S_C hcpt S_A S_H S_L fm hfm S_F S_I)
theorem own_lf4p (l : Launch) (Z : State) (a0 : Array Value) (hw : Wds Z a0) (n0 : Nat) (p0 p1 p2 : Int32)  (N : Nat) (hN : 65536 ≤ N ∧ N < 1114112) (B : Nat) (hB : B < 128) (cpt : Int32) (S_C : SC Z cpt) (hcpt : ¬ cpt = 0) (S_A : SA Z) (S_H : SH Z) (S_L : SL Z) (fm : Value) (hfm : fm.isRef = true) (S_F : SF Z fm) (u8 : Addr) (S_I : Sta Z Z.heap "sun/nio/cs/UTF_8" "INSTANCE" "Lsun/nio/cs/UTF_8;" (.ref u8)) (S_8 : Sta Z Z.heap "java/nio/charset/StandardCharsets" "UTF_8" "Ljava/nio/charset/Charset;" (.ref u8)) (E8 : Exa Z Z.heap u8 "sun/nio/cs/UTF_8") : Runs 1 l Z [("java/lang/String", 7)] n0 x.cls x.name code maxLocals ret room_1 (fun v h D' => v = some (.int 1)) [] Z.heap 0 0 94 #[vi p0, vi p1, vi p2, vi (Int32.ofNat N), vi (Int32.ofNat B), vi 1, vi 1, vi 4, .unset, .unset, .unset, .unset, .unset] [] := by
  refine Runs.iload i0_94 rfl ?_
  refine Runs.ifN i0_96 (feq (by decide : ¬ ((1 : Int32) = (0 : Int32)))).1 ?_
  refine Runs.iload i0_99 rfl ?_
  refine Runs.goto (t := 105) i0_101 (by decide) ?_
  refine Runs.istore (ls' := #[vi p0, vi p1, vi p2, vi (Int32.ofNat N), vi (Int32.ofNat B), vi 1, vi 1, vi 4, vi 4, .unset, .unset, .unset, .unset]) i0_105 rfl ?_
  refine Runs.iload i0_107 rfl ?_
  refine Runs.iload i0_109 rfl ?_
  refine Runs.ifN i0_111 (feq (by decide : ¬ ((1 : Int32) = (0 : Int32)))).1 ?_
  refine Runs.iconst (v := (1 : Int32)) i0_114 (by decide) ?_
  refine Runs.goto (t := 119) i0_115 (by decide) ?_
  refine Runs.iadd (z := (5 : Int32)) i0_119 (by decide) ?_
  refine Runs.newP (cap := 5) (ad := "[B") i0_120 (w3 hw) (by decide) (by decide) (by decide) (by decide) (by decide) rfl ?_
  intro h_1 b_2 k_3 g_6 ge_7 K_4 (A_5 : Arv Z h_1 b_2 k_3 .byte (5 : Int32) [] (.int 0)) E_8
  have A_9 : Arv Z h_1 b_2 k_3 .byte (5 : Int32) [(.int 0), (.int 0), (.int 0), (.int 0), (.int 0)] (.int 0) := A_5.pad (pad_rep [] (.int 0) 5)
  refine Runs.astore (ls' := #[vi p0, vi p1, vi p2, vi (Int32.ofNat N), vi (Int32.ofNat B), vi 1, vi 1, vi 4, vi 4, vr b_2, .unset, .unset, .unset]) i0_122 rfl rfl ?_
  refine Runs.iload i0_124 rfl ?_
  refine Runs.ifN i0_126 (feq (by decide : ¬ ((1 : Int32) = (0 : Int32)))).1 ?_
  refine Runs.iload i0_129 rfl ?_
  refine Runs.iconst (v := (1 : Int32)) i0_131 (by decide) ?_
  refine Runs.icY (t := 144) i0_132 (by decide) (feq (by decide : ¬ ((4 : Int32) = (1 : Int32)))).2 ?_
  refine Runs.iload i0_144 rfl ?_
  refine Runs.iconst (v := (2 : Int32)) i0_146 (by decide) ?_
  refine Runs.icY (t := 179) i0_147 (by decide) (feq (by decide : ¬ ((4 : Int32) = (2 : Int32)))).2 ?_
  refine Runs.iload i0_179 rfl ?_
  refine Runs.iconst (v := (3 : Int32)) i0_181 (by decide) ?_
  refine Runs.icY (t := 230) i0_182 (by decide) (feq (by decide : ¬ ((4 : Int32) = (3 : Int32)))).2 ?_
  refine Runs.aload i0_230 rfl rfl ?_
  refine Runs.iconst (v := (0 : Int32)) i0_232 (by decide) ?_
  refine Runs.sipush (v := (240 : Int32)) i0_233 (by decide) ?_
  refine Runs.iloadN i0_236 rfl ?_
  refine Runs.bipush (v := (18 : Int32)) i0_237 (by decide) ?_
  refine Runs.ishr (z := (Int32.ofNat (N / 262144))) i0_239 (own_shrN (k := 18) (by omega) (by decide)) ?_
  refine Runs.ior (z := ((240 : Int32) ||| (Int32.ofNat (N / 262144)))) i0_240 rfl ?_
  refine Runs.i2b (z := (own_8 ((240 : Int32) ||| (Int32.ofNat (N / 262144))))) i0_241 rfl ?_
  refine Runs.bastore (i := 0) (y := (own_8 ((240 : Int32) ||| (Int32.ofNat (N / 262144))))) i0_242 A_9 ⟨by decide, by decide⟩ (by decide) (Nat.le_of_ble_eq_true rfl) (own_88 _) ge_7 (Or.inl (mi 0 rfl)) ?_
  intro h_10 K_11 (A_12 : Arv Z h_10 b_2 k_3 .byte (5 : Int32) [(.int (own_8 ((240 : Int32) ||| (Int32.ofNat (N / 262144))))), (.int 0), (.int 0), (.int 0), (.int 0)] (.int 0))
  refine Runs.aload i0_243 rfl rfl ?_
  refine Runs.iconst (v := (1 : Int32)) i0_245 (by decide) ?_
  refine Runs.sipush (v := (128 : Int32)) i0_246 (by decide) ?_
  refine Runs.iloadN i0_249 rfl ?_
  refine Runs.bipush (v := (12 : Int32)) i0_250 (by decide) ?_
  refine Runs.ishr (z := (Int32.ofNat (N / 4096))) i0_252 (own_shrN (k := 12) (by omega) (by decide)) ?_
  refine Runs.bipush (v := (63 : Int32)) i0_253 (by decide) ?_
  refine Runs.iand (z := (Int32.ofNat (N / 4096 % 64))) i0_255 (own_andN (k := 6) (by omega) (by decide) (by decide)) ?_
  refine Runs.ior (z := ((128 : Int32) ||| (Int32.ofNat (N / 4096 % 64)))) i0_256 rfl ?_
  refine Runs.i2b (z := (own_8 ((128 : Int32) ||| (Int32.ofNat (N / 4096 % 64))))) i0_257 rfl ?_
  refine Runs.bastore (i := 1) (y := (own_8 ((128 : Int32) ||| (Int32.ofNat (N / 4096 % 64))))) i0_258 A_12 ⟨by decide, by decide⟩ (by decide) (Nat.le_of_ble_eq_true rfl) (own_88 _) ge_7 (Or.inl (mi 0 rfl)) ?_
  intro h_13 K_14 (A_15 : Arv Z h_13 b_2 k_3 .byte (5 : Int32) [(.int (own_8 ((240 : Int32) ||| (Int32.ofNat (N / 262144))))), (.int (own_8 ((128 : Int32) ||| (Int32.ofNat (N / 4096 % 64))))), (.int 0), (.int 0), (.int 0)] (.int 0))
  refine Runs.aload i0_259 rfl rfl ?_
  refine Runs.iconst (v := (2 : Int32)) i0_261 (by decide) ?_
  refine Runs.sipush (v := (128 : Int32)) i0_262 (by decide) ?_
  refine Runs.iloadN i0_265 rfl ?_
  refine Runs.bipush (v := (6 : Int32)) i0_266 (by decide) ?_
  refine Runs.ishr (z := (Int32.ofNat (N / 64))) i0_268 (own_shrN (k := 6) (by omega) (by decide)) ?_
  refine Runs.bipush (v := (63 : Int32)) i0_269 (by decide) ?_
  refine Runs.iand (z := (Int32.ofNat (N / 64 % 64))) i0_271 (own_andN (k := 6) (by omega) (by decide) (by decide)) ?_
  refine Runs.ior (z := ((128 : Int32) ||| (Int32.ofNat (N / 64 % 64)))) i0_272 rfl ?_
  refine Runs.i2b (z := (own_8 ((128 : Int32) ||| (Int32.ofNat (N / 64 % 64))))) i0_273 rfl ?_
  refine Runs.bastore (i := 2) (y := (own_8 ((128 : Int32) ||| (Int32.ofNat (N / 64 % 64))))) i0_274 A_15 ⟨by decide, by decide⟩ (by decide) (Nat.le_of_ble_eq_true rfl) (own_88 _) ge_7 (Or.inl (mi 0 rfl)) ?_
  intro h_16 K_17 (A_18 : Arv Z h_16 b_2 k_3 .byte (5 : Int32) [(.int (own_8 ((240 : Int32) ||| (Int32.ofNat (N / 262144))))), (.int (own_8 ((128 : Int32) ||| (Int32.ofNat (N / 4096 % 64))))), (.int (own_8 ((128 : Int32) ||| (Int32.ofNat (N / 64 % 64))))), (.int 0), (.int 0)] (.int 0))
  refine Runs.aload i0_275 rfl rfl ?_
  refine Runs.iconst (v := (3 : Int32)) i0_277 (by decide) ?_
  refine Runs.sipush (v := (128 : Int32)) i0_278 (by decide) ?_
  refine Runs.iloadN i0_281 rfl ?_
  refine Runs.bipush (v := (63 : Int32)) i0_282 (by decide) ?_
  refine Runs.iand (z := (Int32.ofNat (N % 64))) i0_284 (own_andN (k := 6) (by omega) (by decide) (by decide)) ?_
  refine Runs.ior (z := ((128 : Int32) ||| (Int32.ofNat (N % 64)))) i0_285 rfl ?_
  refine Runs.i2b (z := (own_8 ((128 : Int32) ||| (Int32.ofNat (N % 64))))) i0_286 rfl ?_
  refine Runs.bastore (i := 3) (y := (own_8 ((128 : Int32) ||| (Int32.ofNat (N % 64))))) i0_287 A_18 ⟨by decide, by decide⟩ (by decide) (Nat.le_of_ble_eq_true rfl) (own_88 _) ge_7 (Or.inl (mi 0 rfl)) ?_
  intro h_19 K_20 (A_21 : Arv Z h_19 b_2 k_3 .byte (5 : Int32) [(.int (own_8 ((240 : Int32) ||| (Int32.ofNat (N / 262144))))), (.int (own_8 ((128 : Int32) ||| (Int32.ofNat (N / 4096 % 64))))), (.int (own_8 ((128 : Int32) ||| (Int32.ofNat (N / 64 % 64))))), (.int (own_8 ((128 : Int32) ||| (Int32.ofNat (N % 64))))), (.int 0)] (.int 0))
  refine Runs.iload i0_288 rfl ?_
  refine Runs.ifN i0_290 (feq (by decide : ¬ ((1 : Int32) = (0 : Int32)))).1 ?_
  refine Runs.aload i0_293 rfl rfl ?_
  refine Runs.iload i0_295 rfl ?_
  refine Runs.iload i0_297 rfl ?_
  refine Runs.i2b (z := (own_8 (Int32.ofNat B))) i0_299 rfl ?_
  refine Runs.bastore (i := 4) (y := (own_8 (Int32.ofNat B))) i0_300 A_21 ⟨by decide, by decide⟩ (by decide) (Nat.le_of_ble_eq_true rfl) (own_88 _) ge_7 (Or.inl (mi 0 rfl)) ?_
  intro h_22 K_23 (A_24 : Arv Z h_22 b_2 k_3 .byte (5 : Int32) [(.int (own_8 ((240 : Int32) ||| (Int32.ofNat (N / 262144))))), (.int (own_8 ((128 : Int32) ||| (Int32.ofNat (N / 4096 % 64))))), (.int (own_8 ((128 : Int32) ||| (Int32.ofNat (N / 64 % 64))))), (.int (own_8 ((128 : Int32) ||| (Int32.ofNat (N % 64))))), (.int (own_8 (Int32.ofNat B)))] (.int 0))
  refine Runs.iload i0_301 rfl ?_
  refine Runs.ifN i0_303 (feq (by decide : ¬ ((1 : Int32) = (0 : Int32)))).1 ?_
  refine Runs.iloadN i0_306 rfl ?_
  refine Runs.ldcI i0_307 (w100 hw) ?_
  refine Runs.icY (t := 316) i0_309 (by decide) (flt (own_nlt (b := 65536) (by omega) (by omega))).2.1 ?_
  refine Runs.iconst (v := (2 : Int32)) i0_316 (by decide) ?_
  refine Runs.goto (t := 321) i0_317 (by decide) ?_
  refine Runs.istore (ls' := #[vi p0, vi p1, vi p2, vi (Int32.ofNat N), vi (Int32.ofNat B), vi 1, vi 1, vi 4, vi 4, vr b_2, vi 2, .unset, .unset]) i0_321 rfl ?_
  refine Runs.iload i0_323 rfl ?_
  refine Runs.iload i0_325 rfl ?_
  refine Runs.ifN i0_327 (feq (by decide : ¬ ((1 : Int32) = (0 : Int32)))).1 ?_
  refine Runs.iconst (v := (1 : Int32)) i0_330 (by decide) ?_
  refine Runs.goto (t := 335) i0_331 (by decide) ?_
  refine Runs.iadd (z := (3 : Int32)) i0_335 (by decide) ?_
  refine Runs.newP (cap := 3) (ad := "[C") i0_336 (w4 hw) (by decide) (by decide) (by decide) (by decide) (by decide) rfl ?_
  intro h_25 b_26 k_27 g_30 ge_31 K_28 (A_29 : Arv Z h_25 b_26 k_27 .char (3 : Int32) [] (.int 0)) E_32
  have A_33 : Arv Z h_25 b_26 k_27 .char (3 : Int32) [(.int 0), (.int 0), (.int 0)] (.int 0) := A_29.pad (pad_rep [] (.int 0) 3)
  refine Runs.astore (ls' := #[vi p0, vi p1, vi p2, vi (Int32.ofNat N), vi (Int32.ofNat B), vi 1, vi 1, vi 4, vi 4, vr b_2, vi 2, vr b_26, .unset]) i0_338 rfl rfl ?_
  refine Runs.iload i0_340 rfl ?_
  refine Runs.ifN i0_342 (feq (by decide : ¬ ((1 : Int32) = (0 : Int32)))).1 ?_
  refine Runs.iloadN i0_345 rfl ?_
  refine Runs.ldcI i0_346 (w100 hw) ?_
  refine Runs.icY (t := 360) i0_348 (by decide) (flt (own_nlt (b := 65536) (by omega) (by omega))).2.1 ?_
  refine Runs.iloadN i0_360 rfl ?_
  refine Runs.ldcI i0_361 (w100 hw) ?_
  refine Runs.isub (z := (Int32.ofNat (N - 65536))) i0_363 (own_sub (a := N) (b := 65536) (by omega) (by omega)) ?_
  refine Runs.istore (ls' := #[vi p0, vi p1, vi p2, vi (Int32.ofNat N), vi (Int32.ofNat B), vi 1, vi 1, vi 4, vi 4, vr b_2, vi 2, vr b_26, vi (Int32.ofNat (N - 65536))]) i0_364 rfl ?_
  refine Runs.aload i0_366 rfl rfl ?_
  refine Runs.iconst (v := (0 : Int32)) i0_368 (by decide) ?_
  refine Runs.ldcI i0_369 (w2 hw) ?_
  refine Runs.iload i0_371 rfl ?_
  refine Runs.bipush (v := (10 : Int32)) i0_373 (by decide) ?_
  refine Runs.ishr (z := (Int32.ofNat ((N - 65536) / 1024))) i0_375 (own_shrN (k := 10) (by omega) (by decide)) ?_
  refine Runs.iadd (z := (Int32.ofNat (55296 + ((N - 65536) / 1024)))) i0_376 (own_add (a := 55296) (b := ((N - 65536) / 1024)) (by omega)) ?_
  refine Runs.i2c (z := (Int32.ofNat (55296 + ((N - 65536) / 1024)))) i0_377 (own_ccN (by omega)) ?_
  refine Runs.castore (i := 0) (y := (Int32.ofNat (55296 + ((N - 65536) / 1024)))) i0_378 A_33 ⟨by decide, by decide⟩ (by decide) (Nat.le_of_ble_eq_true rfl) (own_ccN (by omega)) ge_31 (Or.inr (by decide)) ?_
  intro h_34 K_35 (A_36 : Arv Z h_34 b_26 k_27 .char (3 : Int32) [(.int (Int32.ofNat (55296 + ((N - 65536) / 1024)))), (.int 0), (.int 0)] (.int 0))
  refine Runs.aload i0_379 rfl rfl ?_
  refine Runs.iconst (v := (1 : Int32)) i0_381 (by decide) ?_
  refine Runs.ldcI i0_382 (w116 hw) ?_
  refine Runs.iload i0_384 rfl ?_
  refine Runs.sipush (v := (1023 : Int32)) i0_386 (by decide) ?_
  refine Runs.iand (z := (Int32.ofNat ((N - 65536) % 1024))) i0_389 (own_andN (k := 10) (by omega) (by decide) (by decide)) ?_
  refine Runs.iadd (z := (Int32.ofNat (56320 + ((N - 65536) % 1024)))) i0_390 (own_add (a := 56320) (b := ((N - 65536) % 1024)) (by omega)) ?_
  refine Runs.i2c (z := (Int32.ofNat (56320 + ((N - 65536) % 1024)))) i0_391 (own_ccN (by omega)) ?_
  refine Runs.castore (i := 1) (y := (Int32.ofNat (56320 + ((N - 65536) % 1024)))) i0_392 A_36 ⟨by decide, by decide⟩ (by decide) (Nat.le_of_ble_eq_true rfl) (own_ccN (by omega)) ge_31 (Or.inr (by decide)) ?_
  intro h_37 K_38 (A_39 : Arv Z h_37 b_26 k_27 .char (3 : Int32) [(.int (Int32.ofNat (55296 + ((N - 65536) / 1024)))), (.int (Int32.ofNat (56320 + ((N - 65536) % 1024)))), (.int 0)] (.int 0))
  refine Runs.iload i0_393 rfl ?_
  refine Runs.ifN i0_395 (feq (by decide : ¬ ((1 : Int32) = (0 : Int32)))).1 ?_
  refine Runs.aload i0_398 rfl rfl ?_
  refine Runs.iload i0_400 rfl ?_
  refine Runs.iload i0_402 rfl ?_
  refine Runs.sipush (v := (128 : Int32)) i0_404 (by decide) ?_
  refine Runs.icN i0_407 (tlt (own_lt (b := 128) hB (by omega))).2.1 ?_
  refine Runs.iload i0_410 rfl ?_
  refine Runs.i2c (z := (Int32.ofNat B)) i0_412 (own_ccN (by omega)) ?_
  refine Runs.goto (t := 418) i0_413 (by decide) ?_
  refine Runs.castore (i := 2) (y := (Int32.ofNat B)) i0_418 A_39 ⟨by decide, by decide⟩ (by decide) (Nat.le_of_ble_eq_true rfl) (own_ccN (by omega)) ge_31 (Or.inr (by decide)) ?_
  intro h_40 K_41 (A_42 : Arv Z h_40 b_26 k_27 .char (3 : Int32) [(.int (Int32.ofNat (55296 + ((N - 65536) / 1024)))), (.int (Int32.ofNat (56320 + ((N - 65536) % 1024)))), (.int (Int32.ofNat B))] (.int 0))
  have A_43 := ((((A_24.keep K_28 nin0).keep K_35 (ninS (Nat.ne_of_lt (Nat.lt_of_lt_of_le (Nat.lt_of_lt_of_le A_9.lt (Nat.le_trans (Nat.le_trans (Nat.le_trans (Nat.le_trans K_11.1 K_14.1) K_17.1) K_20.1) K_23.1)) g_30)) nin0)).keep K_38 (ninS (Nat.ne_of_lt (Nat.lt_of_lt_of_le (Nat.lt_of_lt_of_le A_9.lt (Nat.le_trans (Nat.le_trans (Nat.le_trans (Nat.le_trans K_11.1 K_14.1) K_17.1) K_20.1) K_23.1)) g_30)) nin0)).keep K_41 (ninS (Nat.ne_of_lt (Nat.lt_of_lt_of_le (Nat.lt_of_lt_of_le A_9.lt (Nat.le_trans (Nat.le_trans (Nat.le_trans (Nat.le_trans K_11.1 K_14.1) K_17.1) K_20.1) K_23.1)) g_30)) nin0))
  refine Runs.weak (D1 := []) (fun _ q => nomatch q) ?_
  refine Runs.mono (kc' := 2) (ks' := 16) (by decide) (by decide) ?_
  exact own_l419 l Z a0 hw n0 _ _ _ _ _ _ _ _ _ _ _ (Or.inr ⟨_, rfl⟩) b_2 b_26 _ _ 5 [(.int (own_8 ((240 : Int32) ||| (Int32.ofNat (N / 262144))))), (.int (own_8 ((128 : Int32) ||| (Int32.ofNat (N / 4096 % 64))))), (.int (own_8 ((128 : Int32) ||| (Int32.ofNat (N / 64 % 64))))), (.int (own_8 ((128 : Int32) ||| (Int32.ofNat (N % 64))))), (.int (own_8 (Int32.ofNat B)))] ([(Int32.ofNat (55296 + (N - 65536) / 1024)), (Int32.ofNat (56320 + (N - 65536) % 1024)), (Int32.ofNat B)] : List Int32) _ (by simp) (own_aS (own_chN (by omega)) (own_aS (own_chN (by omega)) (own_aS (own_chN (by omega)) own_a0))) A_43 (((((((((E_8.keep K_11).keep K_14).keep K_17).keep K_20).keep K_23).keep K_28).keep K_35).keep K_38).keep K_41) A_42 cpt S_C hcpt S_A S_H S_L fm hfm S_F u8 S_I S_8 E8 (fun a h1 ga hua O0 U0 E0 hn0 => own_ct4p l Z a0 hw n0 N hN B hB a _ u8 _ hua cpt h1 ga O0 U0 E0 hn0 S_C hcpt S_A S_H S_L fm hfm S_F S_I)
theorem own_lf4g (l : Launch) (Z : State) (a0 : Array Value) (hw : Wds Z a0) (n0 : Nat) (p0 p1 p2 : Int32)  (N : Nat) (hN : 65536 ≤ N ∧ N < 1114112) (B : Nat) (hB : 128 ≤ B ∧ B < 256) (cpt : Int32) (S_C : SC Z cpt) (hcpt : ¬ cpt = 0) (S_A : SA Z) (S_H : SH Z) (S_L : SL Z) (fm : Value) (hfm : fm.isRef = true) (S_F : SF Z fm) (u8 : Addr) (S_I : Sta Z Z.heap "sun/nio/cs/UTF_8" "INSTANCE" "Lsun/nio/cs/UTF_8;" (.ref u8)) (S_8 : Sta Z Z.heap "java/nio/charset/StandardCharsets" "UTF_8" "Ljava/nio/charset/Charset;" (.ref u8)) (E8 : Exa Z Z.heap u8 "sun/nio/cs/UTF_8") : Runs 1 l Z [("java/lang/String", 7)] n0 x.cls x.name code maxLocals ret room_1 (fun v h D' => v = some (.int 1)) [] Z.heap 0 0 94 #[vi p0, vi p1, vi p2, vi (Int32.ofNat N), vi (Int32.ofNat B), vi 1, vi 1, vi 4, .unset, .unset, .unset, .unset, .unset] [] := by
  refine Runs.iload i0_94 rfl ?_
  refine Runs.ifN i0_96 (feq (by decide : ¬ ((1 : Int32) = (0 : Int32)))).1 ?_
  refine Runs.iload i0_99 rfl ?_
  refine Runs.goto (t := 105) i0_101 (by decide) ?_
  refine Runs.istore (ls' := #[vi p0, vi p1, vi p2, vi (Int32.ofNat N), vi (Int32.ofNat B), vi 1, vi 1, vi 4, vi 4, .unset, .unset, .unset, .unset]) i0_105 rfl ?_
  refine Runs.iload i0_107 rfl ?_
  refine Runs.iload i0_109 rfl ?_
  refine Runs.ifN i0_111 (feq (by decide : ¬ ((1 : Int32) = (0 : Int32)))).1 ?_
  refine Runs.iconst (v := (1 : Int32)) i0_114 (by decide) ?_
  refine Runs.goto (t := 119) i0_115 (by decide) ?_
  refine Runs.iadd (z := (5 : Int32)) i0_119 (by decide) ?_
  refine Runs.newP (cap := 5) (ad := "[B") i0_120 (w3 hw) (by decide) (by decide) (by decide) (by decide) (by decide) rfl ?_
  intro h_1 b_2 k_3 g_6 ge_7 K_4 (A_5 : Arv Z h_1 b_2 k_3 .byte (5 : Int32) [] (.int 0)) E_8
  have A_9 : Arv Z h_1 b_2 k_3 .byte (5 : Int32) [(.int 0), (.int 0), (.int 0), (.int 0), (.int 0)] (.int 0) := A_5.pad (pad_rep [] (.int 0) 5)
  refine Runs.astore (ls' := #[vi p0, vi p1, vi p2, vi (Int32.ofNat N), vi (Int32.ofNat B), vi 1, vi 1, vi 4, vi 4, vr b_2, .unset, .unset, .unset]) i0_122 rfl rfl ?_
  refine Runs.iload i0_124 rfl ?_
  refine Runs.ifN i0_126 (feq (by decide : ¬ ((1 : Int32) = (0 : Int32)))).1 ?_
  refine Runs.iload i0_129 rfl ?_
  refine Runs.iconst (v := (1 : Int32)) i0_131 (by decide) ?_
  refine Runs.icY (t := 144) i0_132 (by decide) (feq (by decide : ¬ ((4 : Int32) = (1 : Int32)))).2 ?_
  refine Runs.iload i0_144 rfl ?_
  refine Runs.iconst (v := (2 : Int32)) i0_146 (by decide) ?_
  refine Runs.icY (t := 179) i0_147 (by decide) (feq (by decide : ¬ ((4 : Int32) = (2 : Int32)))).2 ?_
  refine Runs.iload i0_179 rfl ?_
  refine Runs.iconst (v := (3 : Int32)) i0_181 (by decide) ?_
  refine Runs.icY (t := 230) i0_182 (by decide) (feq (by decide : ¬ ((4 : Int32) = (3 : Int32)))).2 ?_
  refine Runs.aload i0_230 rfl rfl ?_
  refine Runs.iconst (v := (0 : Int32)) i0_232 (by decide) ?_
  refine Runs.sipush (v := (240 : Int32)) i0_233 (by decide) ?_
  refine Runs.iloadN i0_236 rfl ?_
  refine Runs.bipush (v := (18 : Int32)) i0_237 (by decide) ?_
  refine Runs.ishr (z := (Int32.ofNat (N / 262144))) i0_239 (own_shrN (k := 18) (by omega) (by decide)) ?_
  refine Runs.ior (z := ((240 : Int32) ||| (Int32.ofNat (N / 262144)))) i0_240 rfl ?_
  refine Runs.i2b (z := (own_8 ((240 : Int32) ||| (Int32.ofNat (N / 262144))))) i0_241 rfl ?_
  refine Runs.bastore (i := 0) (y := (own_8 ((240 : Int32) ||| (Int32.ofNat (N / 262144))))) i0_242 A_9 ⟨by decide, by decide⟩ (by decide) (Nat.le_of_ble_eq_true rfl) (own_88 _) ge_7 (Or.inl (mi 0 rfl)) ?_
  intro h_10 K_11 (A_12 : Arv Z h_10 b_2 k_3 .byte (5 : Int32) [(.int (own_8 ((240 : Int32) ||| (Int32.ofNat (N / 262144))))), (.int 0), (.int 0), (.int 0), (.int 0)] (.int 0))
  refine Runs.aload i0_243 rfl rfl ?_
  refine Runs.iconst (v := (1 : Int32)) i0_245 (by decide) ?_
  refine Runs.sipush (v := (128 : Int32)) i0_246 (by decide) ?_
  refine Runs.iloadN i0_249 rfl ?_
  refine Runs.bipush (v := (12 : Int32)) i0_250 (by decide) ?_
  refine Runs.ishr (z := (Int32.ofNat (N / 4096))) i0_252 (own_shrN (k := 12) (by omega) (by decide)) ?_
  refine Runs.bipush (v := (63 : Int32)) i0_253 (by decide) ?_
  refine Runs.iand (z := (Int32.ofNat (N / 4096 % 64))) i0_255 (own_andN (k := 6) (by omega) (by decide) (by decide)) ?_
  refine Runs.ior (z := ((128 : Int32) ||| (Int32.ofNat (N / 4096 % 64)))) i0_256 rfl ?_
  refine Runs.i2b (z := (own_8 ((128 : Int32) ||| (Int32.ofNat (N / 4096 % 64))))) i0_257 rfl ?_
  refine Runs.bastore (i := 1) (y := (own_8 ((128 : Int32) ||| (Int32.ofNat (N / 4096 % 64))))) i0_258 A_12 ⟨by decide, by decide⟩ (by decide) (Nat.le_of_ble_eq_true rfl) (own_88 _) ge_7 (Or.inl (mi 0 rfl)) ?_
  intro h_13 K_14 (A_15 : Arv Z h_13 b_2 k_3 .byte (5 : Int32) [(.int (own_8 ((240 : Int32) ||| (Int32.ofNat (N / 262144))))), (.int (own_8 ((128 : Int32) ||| (Int32.ofNat (N / 4096 % 64))))), (.int 0), (.int 0), (.int 0)] (.int 0))
  refine Runs.aload i0_259 rfl rfl ?_
  refine Runs.iconst (v := (2 : Int32)) i0_261 (by decide) ?_
  refine Runs.sipush (v := (128 : Int32)) i0_262 (by decide) ?_
  refine Runs.iloadN i0_265 rfl ?_
  refine Runs.bipush (v := (6 : Int32)) i0_266 (by decide) ?_
  refine Runs.ishr (z := (Int32.ofNat (N / 64))) i0_268 (own_shrN (k := 6) (by omega) (by decide)) ?_
  refine Runs.bipush (v := (63 : Int32)) i0_269 (by decide) ?_
  refine Runs.iand (z := (Int32.ofNat (N / 64 % 64))) i0_271 (own_andN (k := 6) (by omega) (by decide) (by decide)) ?_
  refine Runs.ior (z := ((128 : Int32) ||| (Int32.ofNat (N / 64 % 64)))) i0_272 rfl ?_
  refine Runs.i2b (z := (own_8 ((128 : Int32) ||| (Int32.ofNat (N / 64 % 64))))) i0_273 rfl ?_
  refine Runs.bastore (i := 2) (y := (own_8 ((128 : Int32) ||| (Int32.ofNat (N / 64 % 64))))) i0_274 A_15 ⟨by decide, by decide⟩ (by decide) (Nat.le_of_ble_eq_true rfl) (own_88 _) ge_7 (Or.inl (mi 0 rfl)) ?_
  intro h_16 K_17 (A_18 : Arv Z h_16 b_2 k_3 .byte (5 : Int32) [(.int (own_8 ((240 : Int32) ||| (Int32.ofNat (N / 262144))))), (.int (own_8 ((128 : Int32) ||| (Int32.ofNat (N / 4096 % 64))))), (.int (own_8 ((128 : Int32) ||| (Int32.ofNat (N / 64 % 64))))), (.int 0), (.int 0)] (.int 0))
  refine Runs.aload i0_275 rfl rfl ?_
  refine Runs.iconst (v := (3 : Int32)) i0_277 (by decide) ?_
  refine Runs.sipush (v := (128 : Int32)) i0_278 (by decide) ?_
  refine Runs.iloadN i0_281 rfl ?_
  refine Runs.bipush (v := (63 : Int32)) i0_282 (by decide) ?_
  refine Runs.iand (z := (Int32.ofNat (N % 64))) i0_284 (own_andN (k := 6) (by omega) (by decide) (by decide)) ?_
  refine Runs.ior (z := ((128 : Int32) ||| (Int32.ofNat (N % 64)))) i0_285 rfl ?_
  refine Runs.i2b (z := (own_8 ((128 : Int32) ||| (Int32.ofNat (N % 64))))) i0_286 rfl ?_
  refine Runs.bastore (i := 3) (y := (own_8 ((128 : Int32) ||| (Int32.ofNat (N % 64))))) i0_287 A_18 ⟨by decide, by decide⟩ (by decide) (Nat.le_of_ble_eq_true rfl) (own_88 _) ge_7 (Or.inl (mi 0 rfl)) ?_
  intro h_19 K_20 (A_21 : Arv Z h_19 b_2 k_3 .byte (5 : Int32) [(.int (own_8 ((240 : Int32) ||| (Int32.ofNat (N / 262144))))), (.int (own_8 ((128 : Int32) ||| (Int32.ofNat (N / 4096 % 64))))), (.int (own_8 ((128 : Int32) ||| (Int32.ofNat (N / 64 % 64))))), (.int (own_8 ((128 : Int32) ||| (Int32.ofNat (N % 64))))), (.int 0)] (.int 0))
  refine Runs.iload i0_288 rfl ?_
  refine Runs.ifN i0_290 (feq (by decide : ¬ ((1 : Int32) = (0 : Int32)))).1 ?_
  refine Runs.aload i0_293 rfl rfl ?_
  refine Runs.iload i0_295 rfl ?_
  refine Runs.iload i0_297 rfl ?_
  refine Runs.i2b (z := (own_8 (Int32.ofNat B))) i0_299 rfl ?_
  refine Runs.bastore (i := 4) (y := (own_8 (Int32.ofNat B))) i0_300 A_21 ⟨by decide, by decide⟩ (by decide) (Nat.le_of_ble_eq_true rfl) (own_88 _) ge_7 (Or.inl (mi 0 rfl)) ?_
  intro h_22 K_23 (A_24 : Arv Z h_22 b_2 k_3 .byte (5 : Int32) [(.int (own_8 ((240 : Int32) ||| (Int32.ofNat (N / 262144))))), (.int (own_8 ((128 : Int32) ||| (Int32.ofNat (N / 4096 % 64))))), (.int (own_8 ((128 : Int32) ||| (Int32.ofNat (N / 64 % 64))))), (.int (own_8 ((128 : Int32) ||| (Int32.ofNat (N % 64))))), (.int (own_8 (Int32.ofNat B)))] (.int 0))
  refine Runs.iload i0_301 rfl ?_
  refine Runs.ifN i0_303 (feq (by decide : ¬ ((1 : Int32) = (0 : Int32)))).1 ?_
  refine Runs.iloadN i0_306 rfl ?_
  refine Runs.ldcI i0_307 (w100 hw) ?_
  refine Runs.icY (t := 316) i0_309 (by decide) (flt (own_nlt (b := 65536) (by omega) (by omega))).2.1 ?_
  refine Runs.iconst (v := (2 : Int32)) i0_316 (by decide) ?_
  refine Runs.goto (t := 321) i0_317 (by decide) ?_
  refine Runs.istore (ls' := #[vi p0, vi p1, vi p2, vi (Int32.ofNat N), vi (Int32.ofNat B), vi 1, vi 1, vi 4, vi 4, vr b_2, vi 2, .unset, .unset]) i0_321 rfl ?_
  refine Runs.iload i0_323 rfl ?_
  refine Runs.iload i0_325 rfl ?_
  refine Runs.ifN i0_327 (feq (by decide : ¬ ((1 : Int32) = (0 : Int32)))).1 ?_
  refine Runs.iconst (v := (1 : Int32)) i0_330 (by decide) ?_
  refine Runs.goto (t := 335) i0_331 (by decide) ?_
  refine Runs.iadd (z := (3 : Int32)) i0_335 (by decide) ?_
  refine Runs.newP (cap := 3) (ad := "[C") i0_336 (w4 hw) (by decide) (by decide) (by decide) (by decide) (by decide) rfl ?_
  intro h_25 b_26 k_27 g_30 ge_31 K_28 (A_29 : Arv Z h_25 b_26 k_27 .char (3 : Int32) [] (.int 0)) E_32
  have A_33 : Arv Z h_25 b_26 k_27 .char (3 : Int32) [(.int 0), (.int 0), (.int 0)] (.int 0) := A_29.pad (pad_rep [] (.int 0) 3)
  refine Runs.astore (ls' := #[vi p0, vi p1, vi p2, vi (Int32.ofNat N), vi (Int32.ofNat B), vi 1, vi 1, vi 4, vi 4, vr b_2, vi 2, vr b_26, .unset]) i0_338 rfl rfl ?_
  refine Runs.iload i0_340 rfl ?_
  refine Runs.ifN i0_342 (feq (by decide : ¬ ((1 : Int32) = (0 : Int32)))).1 ?_
  refine Runs.iloadN i0_345 rfl ?_
  refine Runs.ldcI i0_346 (w100 hw) ?_
  refine Runs.icY (t := 360) i0_348 (by decide) (flt (own_nlt (b := 65536) (by omega) (by omega))).2.1 ?_
  refine Runs.iloadN i0_360 rfl ?_
  refine Runs.ldcI i0_361 (w100 hw) ?_
  refine Runs.isub (z := (Int32.ofNat (N - 65536))) i0_363 (own_sub (a := N) (b := 65536) (by omega) (by omega)) ?_
  refine Runs.istore (ls' := #[vi p0, vi p1, vi p2, vi (Int32.ofNat N), vi (Int32.ofNat B), vi 1, vi 1, vi 4, vi 4, vr b_2, vi 2, vr b_26, vi (Int32.ofNat (N - 65536))]) i0_364 rfl ?_
  refine Runs.aload i0_366 rfl rfl ?_
  refine Runs.iconst (v := (0 : Int32)) i0_368 (by decide) ?_
  refine Runs.ldcI i0_369 (w2 hw) ?_
  refine Runs.iload i0_371 rfl ?_
  refine Runs.bipush (v := (10 : Int32)) i0_373 (by decide) ?_
  refine Runs.ishr (z := (Int32.ofNat ((N - 65536) / 1024))) i0_375 (own_shrN (k := 10) (by omega) (by decide)) ?_
  refine Runs.iadd (z := (Int32.ofNat (55296 + ((N - 65536) / 1024)))) i0_376 (own_add (a := 55296) (b := ((N - 65536) / 1024)) (by omega)) ?_
  refine Runs.i2c (z := (Int32.ofNat (55296 + ((N - 65536) / 1024)))) i0_377 (own_ccN (by omega)) ?_
  refine Runs.castore (i := 0) (y := (Int32.ofNat (55296 + ((N - 65536) / 1024)))) i0_378 A_33 ⟨by decide, by decide⟩ (by decide) (Nat.le_of_ble_eq_true rfl) (own_ccN (by omega)) ge_31 (Or.inr (by decide)) ?_
  intro h_34 K_35 (A_36 : Arv Z h_34 b_26 k_27 .char (3 : Int32) [(.int (Int32.ofNat (55296 + ((N - 65536) / 1024)))), (.int 0), (.int 0)] (.int 0))
  refine Runs.aload i0_379 rfl rfl ?_
  refine Runs.iconst (v := (1 : Int32)) i0_381 (by decide) ?_
  refine Runs.ldcI i0_382 (w116 hw) ?_
  refine Runs.iload i0_384 rfl ?_
  refine Runs.sipush (v := (1023 : Int32)) i0_386 (by decide) ?_
  refine Runs.iand (z := (Int32.ofNat ((N - 65536) % 1024))) i0_389 (own_andN (k := 10) (by omega) (by decide) (by decide)) ?_
  refine Runs.iadd (z := (Int32.ofNat (56320 + ((N - 65536) % 1024)))) i0_390 (own_add (a := 56320) (b := ((N - 65536) % 1024)) (by omega)) ?_
  refine Runs.i2c (z := (Int32.ofNat (56320 + ((N - 65536) % 1024)))) i0_391 (own_ccN (by omega)) ?_
  refine Runs.castore (i := 1) (y := (Int32.ofNat (56320 + ((N - 65536) % 1024)))) i0_392 A_36 ⟨by decide, by decide⟩ (by decide) (Nat.le_of_ble_eq_true rfl) (own_ccN (by omega)) ge_31 (Or.inr (by decide)) ?_
  intro h_37 K_38 (A_39 : Arv Z h_37 b_26 k_27 .char (3 : Int32) [(.int (Int32.ofNat (55296 + ((N - 65536) / 1024)))), (.int (Int32.ofNat (56320 + ((N - 65536) % 1024)))), (.int 0)] (.int 0))
  refine Runs.iload i0_393 rfl ?_
  refine Runs.ifN i0_395 (feq (by decide : ¬ ((1 : Int32) = (0 : Int32)))).1 ?_
  refine Runs.aload i0_398 rfl rfl ?_
  refine Runs.iload i0_400 rfl ?_
  refine Runs.iload i0_402 rfl ?_
  refine Runs.sipush (v := (128 : Int32)) i0_404 (by decide) ?_
  refine Runs.icY (t := 416) i0_407 (by decide) (flt (own_nlt (b := 128) hB.1 (by omega))).2.1 ?_
  refine Runs.ldcI i0_416 (w185 hw) ?_
  refine Runs.castore (i := 2) (y := (65533 : Int32)) i0_418 A_39 ⟨by decide, by decide⟩ (by decide) (Nat.le_of_ble_eq_true rfl) (by decide) ge_31 (Or.inr (by decide)) ?_
  intro h_40 K_41 (A_42 : Arv Z h_40 b_26 k_27 .char (3 : Int32) [(.int (Int32.ofNat (55296 + ((N - 65536) / 1024)))), (.int (Int32.ofNat (56320 + ((N - 65536) % 1024)))), (.int 65533)] (.int 0))
  have A_43 := ((((A_24.keep K_28 nin0).keep K_35 (ninS (Nat.ne_of_lt (Nat.lt_of_lt_of_le (Nat.lt_of_lt_of_le A_9.lt (Nat.le_trans (Nat.le_trans (Nat.le_trans (Nat.le_trans K_11.1 K_14.1) K_17.1) K_20.1) K_23.1)) g_30)) nin0)).keep K_38 (ninS (Nat.ne_of_lt (Nat.lt_of_lt_of_le (Nat.lt_of_lt_of_le A_9.lt (Nat.le_trans (Nat.le_trans (Nat.le_trans (Nat.le_trans K_11.1 K_14.1) K_17.1) K_20.1) K_23.1)) g_30)) nin0)).keep K_41 (ninS (Nat.ne_of_lt (Nat.lt_of_lt_of_le (Nat.lt_of_lt_of_le A_9.lt (Nat.le_trans (Nat.le_trans (Nat.le_trans (Nat.le_trans K_11.1 K_14.1) K_17.1) K_20.1) K_23.1)) g_30)) nin0))
  refine Runs.weak (D1 := []) (fun _ q => nomatch q) ?_
  refine Runs.mono (kc' := 2) (ks' := 16) (by decide) (by decide) ?_
  exact own_l419 l Z a0 hw n0 _ _ _ _ _ _ _ _ _ _ _ (Or.inr ⟨_, rfl⟩) b_2 b_26 _ _ 5 [(.int (own_8 ((240 : Int32) ||| (Int32.ofNat (N / 262144))))), (.int (own_8 ((128 : Int32) ||| (Int32.ofNat (N / 4096 % 64))))), (.int (own_8 ((128 : Int32) ||| (Int32.ofNat (N / 64 % 64))))), (.int (own_8 ((128 : Int32) ||| (Int32.ofNat (N % 64))))), (.int (own_8 (Int32.ofNat B)))] ([(Int32.ofNat (55296 + (N - 65536) / 1024)), (Int32.ofNat (56320 + (N - 65536) % 1024)), (65533 : Int32)] : List Int32) _ (by simp) (own_aS (own_chN (by omega)) (own_aS (own_chN (by omega)) (own_aS ⟨by decide, by decide⟩ own_a0))) A_43 (((((((((E_8.keep K_11).keep K_14).keep K_17).keep K_20).keep K_23).keep K_28).keep K_35).keep K_38).keep K_41) A_42 cpt S_C hcpt S_A S_H S_L fm hfm S_F u8 S_I S_8 E8 (fun a h1 ga hua O0 U0 E0 hn0 => own_ct4g l Z a0 hw n0 N hN B hB a _ u8 _ hua cpt h1 ga O0 U0 E0 hn0 S_C hcpt S_A S_H S_L fm hfm S_F S_I)
theorem own_l26 (l : Launch) (Z : State) (a0 : Array Value) (hw : Wds Z a0) (n0 : Nat) (p0 p1 p2 : Int32) (N : Nat) (hN : N < 1114112) (hS : N < 55296 ∨ 57344 ≤ N) (cpt : Int32) (S_C : SC Z cpt) (hcpt : ¬ cpt = 0) (S_A : SA Z) (S_H : SH Z) (S_L : SL Z) (fm : Value) (hfm : fm.isRef = true) (S_F : SF Z fm) (u8 : Addr) (S_I : Sta Z Z.heap "sun/nio/cs/UTF_8" "INSTANCE" "Lsun/nio/cs/UTF_8;" (.ref u8)) (S_8 : Sta Z Z.heap "java/nio/charset/StandardCharsets" "UTF_8" "Ljava/nio/charset/Charset;" (.ref u8)) (E8 : Exa Z Z.heap u8 "sun/nio/cs/UTF_8") : Runs 1 l Z [("java/lang/String", 7)] n0 x.cls x.name code maxLocals ret room_1 (fun v h D' => v = some (.int 1)) [] Z.heap 0 0 26 #[vi p0, vi p1, vi p2, vi (Int32.ofNat N), .unset, .unset, .unset, .unset, .unset, .unset, .unset, .unset, .unset] [] := by
  obtain ⟨B, hB1, hBe⟩ := own_nat (own_m255 p1).1
  have hB : B < 256 := by have h2 := (own_m255 p1).2; have e : (255 : Int32).toInt = 255 := rfl; rw [Int32.lt_iff_toInt_lt, e] at h2; omega
  refine Runs.iloadN i0_26 rfl ?_
  refine Runs.sipush (v := (255 : Int32)) i0_27 (by decide) ?_
  refine Runs.iand (z := (p1 &&& 255)) i0_30 rfl ?_
  refine Runs.istore (ls' := #[vi p0, vi p1, vi p2, vi (Int32.ofNat N), vi (p1 &&& 255), .unset, .unset, .unset, .unset, .unset, .unset, .unset, .unset]) i0_31 rfl ?_
  refine Runs.iloadN i0_33 rfl ?_
  refine Runs.iconst (v := (1 : Int32)) i0_34 (by decide) ?_
  obtain ⟨x_1, hx_1⟩ : ∃ z : Int32, p2 &&& (1 : Int32) = z := ⟨_, rfl⟩
  refine Runs.iand i0_35 hx_1 ?_
  by_cases hc36 : x_1 = (0 : Int32)
  · refine Runs.ifY (t := 43) i0_36 (by decide) (teq hc36).1 ?_
    refine Runs.iconst (v := (0 : Int32)) i0_43 (by decide) ?_
    refine Runs.istore (ls' := #[vi p0, vi p1, vi p2, vi (Int32.ofNat N), vi (p1 &&& 255), vi 0, .unset, .unset, .unset, .unset, .unset, .unset, .unset]) i0_44 rfl ?_
    refine Runs.iloadN i0_46 rfl ?_
    refine Runs.iconst (v := (2 : Int32)) i0_47 (by decide) ?_
    obtain ⟨x_2, hx_2⟩ : ∃ z : Int32, p2 &&& (2 : Int32) = z := ⟨_, rfl⟩
    refine Runs.iand i0_48 hx_2 ?_
    by_cases hc49 : x_2 = (0 : Int32)
    · refine Runs.ifY (t := 56) i0_49 (by decide) (teq hc49).1 ?_
      refine Runs.iconst (v := (0 : Int32)) i0_56 (by decide) ?_
      refine Runs.istore (ls' := #[vi p0, vi p1, vi p2, vi (Int32.ofNat N), vi (p1 &&& 255), vi 0, vi 0, .unset, .unset, .unset, .unset, .unset, .unset]) i0_57 rfl ?_
      refine Runs.iloadN i0_59 rfl ?_
      refine Runs.sipush (v := (128 : Int32)) i0_60 (by decide) ?_
      by_cases hc63 : N < 128
      · refine Runs.icN i0_63 (tlt (own_lt (b := 128) hc63 (by omega))).2.1 ?_
        refine Runs.iconst (v := (1 : Int32)) i0_66 (by decide) ?_
        refine Runs.goto (t := 92) i0_67 (by decide) ?_
        refine Runs.istore (ls' := #[vi p0, vi p1, vi p2, vi (Int32.ofNat N), vi (p1 &&& 255), vi 0, vi 0, vi 1, .unset, .unset, .unset, .unset, .unset]) i0_92 rfl ?_
        exact own_lf0n l Z a0 hw n0 p0 p1 p2 (Int32.ofNat N) (1 : Int32) (p1 &&& 255)   cpt S_C hcpt S_A S_H S_L fm hfm S_F u8 S_I S_8 E8
      · refine Runs.icY (t := 70) i0_63 (by decide) (flt (own_nlt (b := 128) (by omega) (by omega))).2.1 ?_
        refine Runs.iloadN i0_70 rfl ?_
        refine Runs.sipush (v := (2048 : Int32)) i0_71 (by decide) ?_
        by_cases hc74 : N < 2048
        · refine Runs.icN i0_74 (tlt (own_lt (b := 2048) hc74 (by omega))).2.1 ?_
          refine Runs.iconst (v := (2 : Int32)) i0_77 (by decide) ?_
          refine Runs.goto (t := 92) i0_78 (by decide) ?_
          refine Runs.istore (ls' := #[vi p0, vi p1, vi p2, vi (Int32.ofNat N), vi (p1 &&& 255), vi 0, vi 0, vi 2, .unset, .unset, .unset, .unset, .unset]) i0_92 rfl ?_
          exact own_lf0n l Z a0 hw n0 p0 p1 p2 (Int32.ofNat N) (2 : Int32) (p1 &&& 255)   cpt S_C hcpt S_A S_H S_L fm hfm S_F u8 S_I S_8 E8
        · refine Runs.icY (t := 81) i0_74 (by decide) (flt (own_nlt (b := 2048) (by omega) (by omega))).2.1 ?_
          refine Runs.iloadN i0_81 rfl ?_
          refine Runs.ldcI i0_82 (w100 hw) ?_
          by_cases hc84 : N < 65536
          · refine Runs.icN i0_84 (tlt (own_lt (b := 65536) hc84 (by omega))).2.1 ?_
            refine Runs.iconst (v := (3 : Int32)) i0_87 (by decide) ?_
            refine Runs.goto (t := 92) i0_88 (by decide) ?_
            refine Runs.istore (ls' := #[vi p0, vi p1, vi p2, vi (Int32.ofNat N), vi (p1 &&& 255), vi 0, vi 0, vi 3, .unset, .unset, .unset, .unset, .unset]) i0_92 rfl ?_
            exact own_lf0n l Z a0 hw n0 p0 p1 p2 (Int32.ofNat N) (3 : Int32) (p1 &&& 255)   cpt S_C hcpt S_A S_H S_L fm hfm S_F u8 S_I S_8 E8
          · refine Runs.icY (t := 91) i0_84 (by decide) (flt (own_nlt (b := 65536) (by omega) (by omega))).2.1 ?_
            refine Runs.iconst (v := (4 : Int32)) i0_91 (by decide) ?_
            refine Runs.istore (ls' := #[vi p0, vi p1, vi p2, vi (Int32.ofNat N), vi (p1 &&& 255), vi 0, vi 0, vi 4, .unset, .unset, .unset, .unset, .unset]) i0_92 rfl ?_
            exact own_lf0n l Z a0 hw n0 p0 p1 p2 (Int32.ofNat N) (4 : Int32) (p1 &&& 255)   cpt S_C hcpt S_A S_H S_L fm hfm S_F u8 S_I S_8 E8
    · refine Runs.ifN i0_49 (feq hc49).1 ?_
      refine Runs.iconst (v := (1 : Int32)) i0_52 (by decide) ?_
      refine Runs.goto (t := 57) i0_53 (by decide) ?_
      refine Runs.istore (ls' := #[vi p0, vi p1, vi p2, vi (Int32.ofNat N), vi (p1 &&& 255), vi 0, vi 1, .unset, .unset, .unset, .unset, .unset, .unset]) i0_57 rfl ?_
      refine Runs.iloadN i0_59 rfl ?_
      refine Runs.sipush (v := (128 : Int32)) i0_60 (by decide) ?_
      by_cases hc63 : N < 128
      · refine Runs.icN i0_63 (tlt (own_lt (b := 128) hc63 (by omega))).2.1 ?_
        refine Runs.iconst (v := (1 : Int32)) i0_66 (by decide) ?_
        refine Runs.goto (t := 92) i0_67 (by decide) ?_
        refine Runs.istore (ls' := #[vi p0, vi p1, vi p2, vi (Int32.ofNat N), vi (p1 &&& 255), vi 0, vi 1, vi 1, .unset, .unset, .unset, .unset, .unset]) i0_92 rfl ?_
        by_cases hB2 : B < 128
        · skip
          rw [hB1]
          exact own_lf0p l Z a0 hw n0 p0 p1 p2 (Int32.ofNat N) (1 : Int32)   B hB2 cpt S_C hcpt S_A S_H S_L fm hfm S_F u8 S_I S_8 E8
        · skip
          rw [hB1]
          exact own_lf0g l Z a0 hw n0 p0 p1 p2 (Int32.ofNat N) (1 : Int32)   B (by omega) cpt S_C hcpt S_A S_H S_L fm hfm S_F u8 S_I S_8 E8
      · refine Runs.icY (t := 70) i0_63 (by decide) (flt (own_nlt (b := 128) (by omega) (by omega))).2.1 ?_
        refine Runs.iloadN i0_70 rfl ?_
        refine Runs.sipush (v := (2048 : Int32)) i0_71 (by decide) ?_
        by_cases hc74 : N < 2048
        · refine Runs.icN i0_74 (tlt (own_lt (b := 2048) hc74 (by omega))).2.1 ?_
          refine Runs.iconst (v := (2 : Int32)) i0_77 (by decide) ?_
          refine Runs.goto (t := 92) i0_78 (by decide) ?_
          refine Runs.istore (ls' := #[vi p0, vi p1, vi p2, vi (Int32.ofNat N), vi (p1 &&& 255), vi 0, vi 1, vi 2, .unset, .unset, .unset, .unset, .unset]) i0_92 rfl ?_
          by_cases hB2 : B < 128
          · skip
            rw [hB1]
            exact own_lf0p l Z a0 hw n0 p0 p1 p2 (Int32.ofNat N) (2 : Int32)   B hB2 cpt S_C hcpt S_A S_H S_L fm hfm S_F u8 S_I S_8 E8
          · skip
            rw [hB1]
            exact own_lf0g l Z a0 hw n0 p0 p1 p2 (Int32.ofNat N) (2 : Int32)   B (by omega) cpt S_C hcpt S_A S_H S_L fm hfm S_F u8 S_I S_8 E8
        · refine Runs.icY (t := 81) i0_74 (by decide) (flt (own_nlt (b := 2048) (by omega) (by omega))).2.1 ?_
          refine Runs.iloadN i0_81 rfl ?_
          refine Runs.ldcI i0_82 (w100 hw) ?_
          by_cases hc84 : N < 65536
          · refine Runs.icN i0_84 (tlt (own_lt (b := 65536) hc84 (by omega))).2.1 ?_
            refine Runs.iconst (v := (3 : Int32)) i0_87 (by decide) ?_
            refine Runs.goto (t := 92) i0_88 (by decide) ?_
            refine Runs.istore (ls' := #[vi p0, vi p1, vi p2, vi (Int32.ofNat N), vi (p1 &&& 255), vi 0, vi 1, vi 3, .unset, .unset, .unset, .unset, .unset]) i0_92 rfl ?_
            by_cases hB2 : B < 128
            · skip
              rw [hB1]
              exact own_lf0p l Z a0 hw n0 p0 p1 p2 (Int32.ofNat N) (3 : Int32)   B hB2 cpt S_C hcpt S_A S_H S_L fm hfm S_F u8 S_I S_8 E8
            · skip
              rw [hB1]
              exact own_lf0g l Z a0 hw n0 p0 p1 p2 (Int32.ofNat N) (3 : Int32)   B (by omega) cpt S_C hcpt S_A S_H S_L fm hfm S_F u8 S_I S_8 E8
          · refine Runs.icY (t := 91) i0_84 (by decide) (flt (own_nlt (b := 65536) (by omega) (by omega))).2.1 ?_
            refine Runs.iconst (v := (4 : Int32)) i0_91 (by decide) ?_
            refine Runs.istore (ls' := #[vi p0, vi p1, vi p2, vi (Int32.ofNat N), vi (p1 &&& 255), vi 0, vi 1, vi 4, .unset, .unset, .unset, .unset, .unset]) i0_92 rfl ?_
            by_cases hB2 : B < 128
            · skip
              rw [hB1]
              exact own_lf0p l Z a0 hw n0 p0 p1 p2 (Int32.ofNat N) (4 : Int32)   B hB2 cpt S_C hcpt S_A S_H S_L fm hfm S_F u8 S_I S_8 E8
            · skip
              rw [hB1]
              exact own_lf0g l Z a0 hw n0 p0 p1 p2 (Int32.ofNat N) (4 : Int32)   B (by omega) cpt S_C hcpt S_A S_H S_L fm hfm S_F u8 S_I S_8 E8
  · refine Runs.ifN i0_36 (feq hc36).1 ?_
    refine Runs.iconst (v := (1 : Int32)) i0_39 (by decide) ?_
    refine Runs.goto (t := 44) i0_40 (by decide) ?_
    refine Runs.istore (ls' := #[vi p0, vi p1, vi p2, vi (Int32.ofNat N), vi (p1 &&& 255), vi 1, .unset, .unset, .unset, .unset, .unset, .unset, .unset]) i0_44 rfl ?_
    refine Runs.iloadN i0_46 rfl ?_
    refine Runs.iconst (v := (2 : Int32)) i0_47 (by decide) ?_
    obtain ⟨x_3, hx_3⟩ : ∃ z : Int32, p2 &&& (2 : Int32) = z := ⟨_, rfl⟩
    refine Runs.iand i0_48 hx_3 ?_
    by_cases hc49 : x_3 = (0 : Int32)
    · refine Runs.ifY (t := 56) i0_49 (by decide) (teq hc49).1 ?_
      refine Runs.iconst (v := (0 : Int32)) i0_56 (by decide) ?_
      refine Runs.istore (ls' := #[vi p0, vi p1, vi p2, vi (Int32.ofNat N), vi (p1 &&& 255), vi 1, vi 0, .unset, .unset, .unset, .unset, .unset, .unset]) i0_57 rfl ?_
      refine Runs.iloadN i0_59 rfl ?_
      refine Runs.sipush (v := (128 : Int32)) i0_60 (by decide) ?_
      by_cases hc63 : N < 128
      · refine Runs.icN i0_63 (tlt (own_lt (b := 128) hc63 (by omega))).2.1 ?_
        refine Runs.iconst (v := (1 : Int32)) i0_66 (by decide) ?_
        refine Runs.goto (t := 92) i0_67 (by decide) ?_
        refine Runs.istore (ls' := #[vi p0, vi p1, vi p2, vi (Int32.ofNat N), vi (p1 &&& 255), vi 1, vi 0, vi 1, .unset, .unset, .unset, .unset, .unset]) i0_92 rfl ?_
        exact own_lf1n l Z a0 hw n0 p0 p1 p2 (p1 &&& 255)  N (by omega) cpt S_C hcpt S_A S_H S_L fm hfm S_F u8 S_I S_8 E8
      · refine Runs.icY (t := 70) i0_63 (by decide) (flt (own_nlt (b := 128) (by omega) (by omega))).2.1 ?_
        refine Runs.iloadN i0_70 rfl ?_
        refine Runs.sipush (v := (2048 : Int32)) i0_71 (by decide) ?_
        by_cases hc74 : N < 2048
        · refine Runs.icN i0_74 (tlt (own_lt (b := 2048) hc74 (by omega))).2.1 ?_
          refine Runs.iconst (v := (2 : Int32)) i0_77 (by decide) ?_
          refine Runs.goto (t := 92) i0_78 (by decide) ?_
          refine Runs.istore (ls' := #[vi p0, vi p1, vi p2, vi (Int32.ofNat N), vi (p1 &&& 255), vi 1, vi 0, vi 2, .unset, .unset, .unset, .unset, .unset]) i0_92 rfl ?_
          by_cases hL : N < 256
          · skip
            exact own_lf2Ln l Z a0 hw n0 p0 p1 p2 (p1 &&& 255)  N (by omega) cpt S_C hcpt S_A S_H S_L fm hfm S_F u8 S_I S_8 E8
          · skip
            exact own_lf2Nn l Z a0 hw n0 p0 p1 p2 (p1 &&& 255)  N (by omega) cpt S_C hcpt S_A S_H S_L fm hfm S_F u8 S_I S_8 E8
        · refine Runs.icY (t := 81) i0_74 (by decide) (flt (own_nlt (b := 2048) (by omega) (by omega))).2.1 ?_
          refine Runs.iloadN i0_81 rfl ?_
          refine Runs.ldcI i0_82 (w100 hw) ?_
          by_cases hc84 : N < 65536
          · refine Runs.icN i0_84 (tlt (own_lt (b := 65536) hc84 (by omega))).2.1 ?_
            refine Runs.iconst (v := (3 : Int32)) i0_87 (by decide) ?_
            refine Runs.goto (t := 92) i0_88 (by decide) ?_
            refine Runs.istore (ls' := #[vi p0, vi p1, vi p2, vi (Int32.ofNat N), vi (p1 &&& 255), vi 1, vi 0, vi 3, .unset, .unset, .unset, .unset, .unset]) i0_92 rfl ?_
            exact own_lf3n l Z a0 hw n0 p0 p1 p2 (p1 &&& 255)  N (by omega) hS cpt S_C hcpt S_A S_H S_L fm hfm S_F u8 S_I S_8 E8
          · refine Runs.icY (t := 91) i0_84 (by decide) (flt (own_nlt (b := 65536) (by omega) (by omega))).2.1 ?_
            refine Runs.iconst (v := (4 : Int32)) i0_91 (by decide) ?_
            refine Runs.istore (ls' := #[vi p0, vi p1, vi p2, vi (Int32.ofNat N), vi (p1 &&& 255), vi 1, vi 0, vi 4, .unset, .unset, .unset, .unset, .unset]) i0_92 rfl ?_
            exact own_lf4n l Z a0 hw n0 p0 p1 p2 (p1 &&& 255)  N (by omega) cpt S_C hcpt S_A S_H S_L fm hfm S_F u8 S_I S_8 E8
    · refine Runs.ifN i0_49 (feq hc49).1 ?_
      refine Runs.iconst (v := (1 : Int32)) i0_52 (by decide) ?_
      refine Runs.goto (t := 57) i0_53 (by decide) ?_
      refine Runs.istore (ls' := #[vi p0, vi p1, vi p2, vi (Int32.ofNat N), vi (p1 &&& 255), vi 1, vi 1, .unset, .unset, .unset, .unset, .unset, .unset]) i0_57 rfl ?_
      refine Runs.iloadN i0_59 rfl ?_
      refine Runs.sipush (v := (128 : Int32)) i0_60 (by decide) ?_
      by_cases hc63 : N < 128
      · refine Runs.icN i0_63 (tlt (own_lt (b := 128) hc63 (by omega))).2.1 ?_
        refine Runs.iconst (v := (1 : Int32)) i0_66 (by decide) ?_
        refine Runs.goto (t := 92) i0_67 (by decide) ?_
        refine Runs.istore (ls' := #[vi p0, vi p1, vi p2, vi (Int32.ofNat N), vi (p1 &&& 255), vi 1, vi 1, vi 1, .unset, .unset, .unset, .unset, .unset]) i0_92 rfl ?_
        by_cases hB2 : B < 128
        · skip
          rw [hB1]
          exact own_lf1p l Z a0 hw n0 p0 p1 p2  N (by omega) B hB2 cpt S_C hcpt S_A S_H S_L fm hfm S_F u8 S_I S_8 E8
        · skip
          rw [hB1]
          exact own_lf1g l Z a0 hw n0 p0 p1 p2  N (by omega) B (by omega) cpt S_C hcpt S_A S_H S_L fm hfm S_F u8 S_I S_8 E8
      · refine Runs.icY (t := 70) i0_63 (by decide) (flt (own_nlt (b := 128) (by omega) (by omega))).2.1 ?_
        refine Runs.iloadN i0_70 rfl ?_
        refine Runs.sipush (v := (2048 : Int32)) i0_71 (by decide) ?_
        by_cases hc74 : N < 2048
        · refine Runs.icN i0_74 (tlt (own_lt (b := 2048) hc74 (by omega))).2.1 ?_
          refine Runs.iconst (v := (2 : Int32)) i0_77 (by decide) ?_
          refine Runs.goto (t := 92) i0_78 (by decide) ?_
          refine Runs.istore (ls' := #[vi p0, vi p1, vi p2, vi (Int32.ofNat N), vi (p1 &&& 255), vi 1, vi 1, vi 2, .unset, .unset, .unset, .unset, .unset]) i0_92 rfl ?_
          by_cases hL : N < 256
          · skip
            by_cases hB2 : B < 128
            · skip
              rw [hB1]
              exact own_lf2Lp l Z a0 hw n0 p0 p1 p2  N (by omega) B hB2 cpt S_C hcpt S_A S_H S_L fm hfm S_F u8 S_I S_8 E8
            · skip
              rw [hB1]
              exact own_lf2Lg l Z a0 hw n0 p0 p1 p2  N (by omega) B (by omega) cpt S_C hcpt S_A S_H S_L fm hfm S_F u8 S_I S_8 E8
          · skip
            by_cases hB2 : B < 128
            · skip
              rw [hB1]
              exact own_lf2Np l Z a0 hw n0 p0 p1 p2  N (by omega) B hB2 cpt S_C hcpt S_A S_H S_L fm hfm S_F u8 S_I S_8 E8
            · skip
              rw [hB1]
              exact own_lf2Ng l Z a0 hw n0 p0 p1 p2  N (by omega) B (by omega) cpt S_C hcpt S_A S_H S_L fm hfm S_F u8 S_I S_8 E8
        · refine Runs.icY (t := 81) i0_74 (by decide) (flt (own_nlt (b := 2048) (by omega) (by omega))).2.1 ?_
          refine Runs.iloadN i0_81 rfl ?_
          refine Runs.ldcI i0_82 (w100 hw) ?_
          by_cases hc84 : N < 65536
          · refine Runs.icN i0_84 (tlt (own_lt (b := 65536) hc84 (by omega))).2.1 ?_
            refine Runs.iconst (v := (3 : Int32)) i0_87 (by decide) ?_
            refine Runs.goto (t := 92) i0_88 (by decide) ?_
            refine Runs.istore (ls' := #[vi p0, vi p1, vi p2, vi (Int32.ofNat N), vi (p1 &&& 255), vi 1, vi 1, vi 3, .unset, .unset, .unset, .unset, .unset]) i0_92 rfl ?_
            by_cases hB2 : B < 128
            · skip
              rw [hB1]
              exact own_lf3p l Z a0 hw n0 p0 p1 p2  N (by omega) hS B hB2 cpt S_C hcpt S_A S_H S_L fm hfm S_F u8 S_I S_8 E8
            · skip
              rw [hB1]
              exact own_lf3g l Z a0 hw n0 p0 p1 p2  N (by omega) hS B (by omega) cpt S_C hcpt S_A S_H S_L fm hfm S_F u8 S_I S_8 E8
          · refine Runs.icY (t := 91) i0_84 (by decide) (flt (own_nlt (b := 65536) (by omega) (by omega))).2.1 ?_
            refine Runs.iconst (v := (4 : Int32)) i0_91 (by decide) ?_
            refine Runs.istore (ls' := #[vi p0, vi p1, vi p2, vi (Int32.ofNat N), vi (p1 &&& 255), vi 1, vi 1, vi 4, .unset, .unset, .unset, .unset, .unset]) i0_92 rfl ?_
            by_cases hB2 : B < 128
            · skip
              rw [hB1]
              exact own_lf4p l Z a0 hw n0 p0 p1 p2  N (by omega) B hB2 cpt S_C hcpt S_A S_H S_L fm hfm S_F u8 S_I S_8 E8
            · skip
              rw [hB1]
              exact own_lf4g l Z a0 hw n0 p0 p1 p2  N (by omega) B (by omega) cpt S_C hcpt S_A S_H S_L fm hfm S_F u8 S_I S_8 E8
theorem own_cp0 (x : Int32) : ∃ N : Nat, (x &&& 2147483647) % 1114112 = Int32.ofNat N ∧ N < 1114112 := by
  have h : (x &&& 2147483647).toInt = x.toInt % (2 ^ 31 : Nat) := c_mask x 2147483647 31 (by decide) (by decide)
  have h1 := (c_irem (x &&& 2147483647) 1114112 1114112 rfl).1 (by rw [h]; omega)
  have e : (0 : Int32).toInt = 0 := rfl
  obtain ⟨N, h2, h3⟩ := own_nat (x := (x &&& 2147483647) % 1114112) (by rw [Int32.lt_iff_toInt_lt, e, h1]; omega)
  exact ⟨N, h2, by omega⟩
theorem own_law (l : Launch) (Z : State) (a0 : Array Value) (hw : Wds Z a0) (n0 : Nat) (p0 p1 p2 : Int32) (cpt : Int32) (S_C : SC Z cpt) (hcpt : ¬ cpt = 0) (S_A : SA Z) (S_H : SH Z) (S_L : SL Z) (fm : Value) (hfm : fm.isRef = true) (S_F : SF Z fm) (u8 : Addr) (S_I : Sta Z Z.heap "sun/nio/cs/UTF_8" "INSTANCE" "Lsun/nio/cs/UTF_8;" (.ref u8)) (S_8 : Sta Z Z.heap "java/nio/charset/StandardCharsets" "UTF_8" "Ljava/nio/charset/Charset;" (.ref u8)) (E8 : Exa Z Z.heap u8 "sun/nio/cs/UTF_8") : Con 1 l Z [("java/lang/String", 7)] n0 x code maxLocals ret room_1 #[(.int p0), (.int p1), (.int p2)] [] Z.heap (fun v h D' => v = some (.int 1)) := by
  refine Con.of_runs (ls := #[vi p0, vi p1, vi p2, .unset, .unset, .unset, .unset, .unset, .unset, .unset, .unset, .unset, .unset]) (by decide +kernel) (fun m => by simp [entryFrame, mkF, argsToLocals, Value.category, maxLocals]) ?_
  obtain ⟨N, hN1, hN2⟩ := own_cp0 p0
  refine Runs.iloadN i0_0 rfl ?_
  refine Runs.ldcI i0_1 (w0 hw) ?_
  refine Runs.iand (z := (p0 &&& (2147483647 : Int32))) i0_3 rfl ?_
  refine Runs.ldcI i0_4 (w1 hw) ?_
  refine Runs.irem (z := Int32.ofNat N) i0_6 (by decide) hN1 ?_
  refine Runs.istoreN (ls' := #[vi p0, vi p1, vi p2, vi (Int32.ofNat N), .unset, .unset, .unset, .unset, .unset, .unset, .unset, .unset, .unset]) i0_7 rfl ?_
  refine Runs.iloadN i0_8 rfl ?_
  refine Runs.ldcI i0_9 (w2 hw) ?_
  by_cases hc11 : N < 55296
  · refine Runs.icY (t := 26) i0_11 (by decide) (tlt (own_lt (b := 55296) hc11 (by omega))).1 ?_
    exact own_l26 l Z a0 hw n0 p0 p1 p2 N (by omega) (by omega) cpt S_C hcpt S_A S_H S_L fm hfm S_F u8 S_I S_8 E8
  · refine Runs.icN i0_11 (flt (own_nlt (b := 55296) (by omega) (by omega))).1 ?_
    refine Runs.iloadN i0_14 rfl ?_
    refine Runs.ldcI i0_15 (w115 hw) ?_
    by_cases hc17 : 57343 < N
    · refine Runs.icY (t := 26) i0_17 (by decide) (tlt (own_lt (a := 57343) hc17 (by omega))).2.2.1 ?_
      exact own_l26 l Z a0 hw n0 p0 p1 p2 N (by omega) (by omega) cpt S_C hcpt S_A S_H S_L fm hfm S_F u8 S_I S_8 E8
    · refine Runs.icN i0_17 (flt (own_nlt (a := 57343) (b := N) (by omega) (by omega))).2.2.1 ?_
      refine Runs.iloadN i0_20 rfl ?_
      refine Runs.sipush (v := (2048 : Int32)) i0_21 (by decide) ?_
      refine Runs.isub (z := Int32.ofNat (N - 2048)) i0_24 (own_sub (a := N) (b := 2048) (by omega) (by omega)) ?_
      refine Runs.istoreN (ls' := #[vi p0, vi p1, vi p2, vi (Int32.ofNat (N - 2048)), .unset, .unset, .unset, .unset, .unset, .unset, .unset, .unset, .unset]) i0_25 rfl ?_
      exact own_l26 l Z a0 hw n0 p0 p1 p2 (N - 2048) (by omega) (by omega) cpt S_C hcpt S_A S_H S_L fm hfm S_F u8 S_I S_8 E8
theorem own_eqR {args : Array Value} {s : State} {t u : Term} {a : Addr} (h : (Jvm.Cond.eq t u).value args s none s [] = some true) (hu : u.eval args s none [] s = some (.ref a)) : t.eval args s none [] s = some (.ref a) := by
  obtain ⟨x, y, e1, e2, k1, k2⟩ := cmp_v (Or.inl h)
  cases e2.symm.trans hu
  have hx : x.isRef = true := by cases x <;> simp_all [Kin, Value.isRef]
  rw [e1, gotT (eq_R e1 e2 hx rfl) h]

set_option maxHeartbeats 40000000 in
theorem comes_1 {Post : Tables → Env → Array Value → State → Outcome → State → Prop} (hpost : ∀ tb e args s v u, (limb_1_1.after args s (.returned v) u = true ∧ limb_1_2.after args s (.returned v) u = true ∧ True) → Jvm.Pilot.@@N@@.Jvm.D.FramedW s (.returned v) u (Jvm.fieldLocs frame_1_writes args s ++ Jvm.arrayLocs frame_1_arrays args s ++ Jvm.staticLocs frame_1_statics s) 32 1216 → Post tb e args s (.returned v) u) :
    ArmFor flags0 classFile x code maxLocals ret World_1 tables_1 room_1 Calls_1 rest_1 Pre_1 Post := by
  intro l hfl _ _ p e ha hc hk s m args below hf hA hF happ hP
  obtain ⟨hcalls, hrest, hpre⟩ := hP
  obtain ⟨-, -, -, hnamed, -, -, -, hat⟩ := (Spec.applies_iff hf).mp happ
  obtain ⟨hg, hn⟩ := and_e (Cond.before_iff.mp (show (Jvm.Cond.and given_1 narrow_1).before args s = true from hpre))
  obtain ⟨g1, g2⟩ := and_e hg
  obtain ⟨g3, g4⟩ := and_e g2
  obtain ⟨g5, g6⟩ := and_e g4
  obtain ⟨w0, w1, w2, rfl⟩ : ∃ w0 w1 w2 : Value, args = #[w0, w1, w2] := by
    have hs : args.size = 3 := by simpa [Cond.value, given_1] using g1
    obtain ⟨L⟩ := args
    match L, hs with
    | [w0, w1, w2], _ => exact ⟨w0, w1, w2, rfl⟩
  have hw : Wds s _ := fun d (hd : d ∈ tables_1) => atoms_spec (ws := Jvm.Cond.code x code maxLocals ret :: tables_1) hat d (List.mem_cons_of_mem _ hd)
  obtain ⟨i0, ei0⟩ := is_v g3
  obtain rfl : w0 = (.int i0) := Option.some.inj ei0
  obtain ⟨i1, ei1⟩ := is_v g5
  obtain rfl : w1 = (.int i1) := Option.some.inj ei1
  obtain ⟨i2, ei2⟩ := is_v g6
  obtain rfl : w2 = (.int i2) := Option.some.inj ei2
  obtain ⟨hsets, -⟩ := atoms_of _ (rest_1_c_eq ▸ (show rest_1_c.before _ s = true from hrest))
  obtain ⟨cpt, ev_cpt⟩ := is_v (Cond.before_iff.mp (hsets _ (mi 10 rfl)))
  have S_C : Sta s s.heap "java/lang/String" "COMPACT_STRINGS" "Z" (.int cpt) := Sta.start ev_cpt (Or.inl (hsets _ (mi 9 rfl)))
  have hcpt : ¬ cpt = 0 := gotF (own_eqI ev_cpt (Term.int_eval 0)) (not_v (Cond.before_iff.mp (hsets _ (mi 11 rfl))))
  obtain ⟨fm, ev_fm, hfm⟩ := isR_v (Cond.before_iff.mp (hsets _ (mi 17 rfl)))
  have S_F : Sta s s.heap "jdk/internal/util/Preconditions" "SIOOBE_FORMATTER" "Ljava/util/function/BiFunction;" fm := Sta.start ev_fm (Or.inl (hsets _ (mi 16 rfl)))
  have S_A : Sta s s.heap "java/lang/StringUTF16" "$assertionsDisabled" "Z" (.int 1) := Sta.start (Cond.eq_int (hsets _ (mi 21 rfl)) rfl) (Or.inl (hsets _ (mi 20 rfl)))
  have S_H : Sta s s.heap "java/lang/StringUTF16" "HI_BYTE_SHIFT" "I" (.int 0) := Sta.start (Cond.eq_int (hsets _ (mi 24 rfl)) rfl) (Or.inl (hsets _ (mi 23 rfl)))
  have S_L : Sta s s.heap "java/lang/StringUTF16" "LO_BYTE_SHIFT" "I" (.int 8) := Sta.start (Cond.eq_int (hsets _ (mi 27 rfl)) rfl) (Or.inl (hsets _ (mi 26 rfl)))
  obtain ⟨u8, ev_I⟩ := exa_v (Cond.before_iff.mp (hsets _ (mi 8 rfl)))
  have E8 := Exa.start ev_I (Cond.before_iff.mp (hsets _ (mi 8 rfl)))
  have ev_8 := own_eqR (Cond.before_iff.mp (hsets _ (mi 4 rfl))) ev_I
  have S_I : Sta s s.heap "sun/nio/cs/UTF_8" "INSTANCE" "Lsun/nio/cs/UTF_8;" (.ref u8) := Sta.start ev_I (Or.inl (hsets _ (mi 3 rfl)))
  have S_8 : Sta s s.heap "java/nio/charset/StandardCharsets" "UTF_8" "Ljava/nio/charset/Charset;" (.ref u8) := Sta.start ev_8 (Or.inl (hsets _ (mi 1 rfl)))
  have hC : CHv s [("java/lang/String", 7)] s.vm s.heap := CHv.start (own_EW hw) (fun p hp => hcalls.1 p hp) (hsets _ (mi 11 rfl)) (w3 hw) (w31 hw)
  obtain ⟨n, o, h1, h2, h3, v, L, D', rfl, rfl, -, N, -, hq⟩ := own_law l s _ hw s.heap.size i0 i1 i2 cpt S_C hcpt S_A S_H S_L fm hfm S_F u8 S_I S_8 E8 tables_1 p e ha hc hk s m _ below hf ((Spec.applies_iff_loose hf).mp happ).1 ⟨rfl, State.Warmed39.refl s, rfl, Old.start s, ⟨_, own_EW hw⟩, hC, fun _ q => nomatch q⟩ (fun q => absurd q (by decide))
  have hq : ReturnedEndW s _ _ L _ _ := hq
  refine ⟨n, _, h1, h2, h3, hpost _ _ _ _ _ _ ⟨Cond.after_iff.mpr rfl, Cond.after_iff.mpr (eq_i res_at (Term.int_eval (1)) rfl), trivial⟩ ⟨hq.1, hq.2.1, hq.2.2.1, (hq.2.2.2.sift fun y hy => Or.inr (N y hy)).mono (by decide) (by decide)⟩⟩
theorem main_1_1 : Claimed_1_1 := comes_1 fun _ _ _ _ _ _ h hF => ⟨h.1, hF⟩
theorem main_1_2 : Claimed_1_2 := comes_1 fun _ _ _ _ _ _ h hF => ⟨h.2.1, hF⟩
end Jvm.Pilot.@@N@@
namespace Jvm.Pilot.@@N@@
open Jvm Jvm.ClassFile Sem Op Lib Jvm.Free Jvm.Stand Jvm.Pilot.@@N@@.Jvm.D
/-! MADE BY PROGRAM (witnessworld.py) out of the Statement's table words and the real class files: 32 classes; the members and pool entries that the words name. The judged class is class 1, her method 1. -/
namespace start1
open Jvm.ClassFile
def u (s : String) : CpInfo := .utf8 (stringToUtf16 s)
/-- a pool by its gaps: so many unusable entries, then the entry; so many at the end -/
def gap : Nat → List CpInfo → List CpInfo
  | 0, r => r
  | n + 1, r => .unusable :: gap n r
def poolList (es : List (Nat × CpInfo)) (last : Nat) : List CpInfo := es.foldr (fun e r => gap e.1 (e.2 :: r)) (gap last [])
def pool (es : List (Nat × CpInfo)) (last : Nat) : Array CpInfo := ⟨poolList es last⟩
def fileOf (pool : Array CpInfo) (this : Nat) (attrs : Array Attribute := #[]) (ms : Array MethodInfo := #[]) (fl : Nat := 33) (sup : Nat := 0) (ifs : Array Nat := #[]) (fds : Array FieldInfo := #[]) : ClassFile where
  minorVersion := 0
  majorVersion := 65
  constantPool := pool
  accessFlags := fl
  thisClass := this
  superClass := sup
  interfaces := ifs
  fields := fds
  methods := ms
  attributes := attrs
def plain (name : String) (sup : Option ClassId) : Class where
  name := name
  kind := .ordinary
  loader := none
  accessFlags := 33
  super := sup
  interfaces := #[]
  cf := none
  fields := #[]
  methods := #[]
  instanceTypes := #[]
  staticTypes := #[]
  resolved := #[]
  callSites := []
  init := .initialized
  statics := none
  mirror := none

def pool0 : Array CpInfo := pool [(5, u "<init>"), (0, u "()V"), (1, .class_ 10), (1, u "java/lang/Object"), (85, u "clone"), (0, u "()Ljava/lang/Object;")] 26

def k0c0 : Code := { maxStack := 0, maxLocals := 1, code := object_method_1_code, exceptionTable := #[], attributes := #[] }
def k0m0 : Method := { name := "<init>", desc := "()V", sig := { parameters := [], returnType := none }, accessFlags := 1, code := some k0c0 }
def k0m1 : Method := { name := "clone", desc := "()Ljava/lang/Object;", sig := { parameters := [], returnType := some (.object "java/lang/Object") }, accessFlags := 260, code := none }
/-- java/lang/Object -/
def k0 : Class := { plain "java/lang/Object" none with
  accessFlags := 33
  interfaces := #[]
  cf := some (fileOf pool0 8 #[] #[{ accessFlags := 1, nameIndex := 5, descriptorIndex := 6, attributes := #[] }, { accessFlags := 260, nameIndex := 96, descriptorIndex := 97, attributes := #[] }] 33 0 #[] #[])
  fields := #[]
  methods := #[k0m0, k0m1]
  instanceTypes := #[]
  staticTypes := #[]
  resolved := Array.replicate 124 none
  statics := none }

def pool1 : Array CpInfo := pool [(2, .class_ 4), (1, u "java/lang/Object"), (0, u "<init>"), (0, u "()V"), (0, .integer 2147483647), (0, .integer 1114112), (0, .integer 55296), (0, .integer 57343), (0, .integer 65536), (0, .integer 56320), (0, .integer 65533), (0, .class_ 15), (0, u "com/example/gatewarden/gatewarden/bench/HttpConnections$Response"), (0, .methodref 14 17), (0, .nameAndType 5 18), (0, u "(ILjava/util/Map;[B)V"), (0, .methodref 14 20), (0, .nameAndType 21 22), (0, u "text"), (0, u "()Ljava/lang/String;"), (0, .class_ 24), (0, u "java/lang/String"), (0, .methodref 23 26), (0, .nameAndType 5 27), (0, u "([C)V"), (0, .methodref 23 29), (0, .nameAndType 30 31), (0, u "equals"), (0, u "(Ljava/lang/Object;)Z"), (0, .class_ 33), (0, u "com/example/gatewarden/gatewarden/bench/ResponseTextPinLaw"), (2, u "law"), (0, u "(III)Z")] 11

def k1m0 : Method := { name := "<init>", desc := "()V", sig := { parameters := [], returnType := none }, accessFlags := 1, code := none }
def k1c1 : Code := { maxStack := 5, maxLocals := 13, code := code, exceptionTable := #[], attributes := #[] }
def k1m1 : Method := { name := "law", desc := "(III)Z", sig := { parameters := [.int, .int, .int], returnType := some .boolean }, accessFlags := 9, code := some k1c1 }
/-- com/example/gatewarden/gatewarden/bench/ResponseTextPinLaw -/
def k1 : Class := { plain "com/example/gatewarden/gatewarden/bench/ResponseTextPinLaw" (some 0) with
  accessFlags := 49
  interfaces := #[]
  cf := some (fileOf pool1 32 #[] #[{ accessFlags := 1, nameIndex := 5, descriptorIndex := 6, attributes := #[] }, { accessFlags := 9, nameIndex := 36, descriptorIndex := 37, attributes := #[] }] 49 2 #[] #[])
  fields := #[]
  methods := #[k1m0, k1m1]
  instanceTypes := #[]
  staticTypes := #[]
  resolved := Array.replicate 49 none
  statics := none }

def pool2 : Array CpInfo := pool [(1, .methodref 2 3), (0, .class_ 4), (0, .nameAndType 5 6), (0, u "java/lang/Object"), (0, u "<init>"), (0, u "()V"), (0, .class_ 8), (0, u "java/lang/Record")] 13

def k2c0 : Code := { maxStack := 1, maxLocals := 1, code := jdk_30_method_1_code, exceptionTable := #[], attributes := #[] }
def k2m0 : Method := { name := "<init>", desc := "()V", sig := { parameters := [], returnType := none }, accessFlags := 4, code := some k2c0 }
/-- java/lang/Record -/
def k2 : Class := { plain "java/lang/Record" (some 0) with
  accessFlags := 1057
  interfaces := #[]
  cf := some (fileOf pool2 7 #[] #[{ accessFlags := 4, nameIndex := 5, descriptorIndex := 6, attributes := #[] }] 1057 2 #[] #[])
  fields := #[]
  methods := #[k2m0]
  instanceTypes := #[]
  staticTypes := #[]
  resolved := Array.replicate 22 none
  statics := none }

def pool3 : Array CpInfo := pool [(1, .methodref 2 3), (0, .class_ 4), (0, .nameAndType 5 6), (0, u "java/lang/Record"), (0, u "<init>"), (0, u "()V"), (0, .fieldref 8 9), (0, .class_ 10), (0, .nameAndType 11 12), (0, u "com/example/gatewarden/gatewarden/bench/HttpConnections$Response"), (0, u "status"), (0, u "I"), (0, .fieldref 8 14), (0, .nameAndType 15 16), (0, u "headers"), (0, u "Ljava/util/Map;"), (0, .fieldref 8 18), (0, .nameAndType 19 20), (0, u "body"), (0, u "[B"), (0, .class_ 22), (0, u "java/lang/String"), (0, .fieldref 24 25), (0, .class_ 26), (0, .nameAndType 27 28), (0, u "java/nio/charset/StandardCharsets"), (0, u "UTF_8"), (0, u "Ljava/nio/charset/Charset;"), (0, .methodref 21 30), (0, .nameAndType 5 31), (0, u "([BLjava/nio/charset/Charset;)V"), (14, u "(ILjava/util/Map;[B)V"), (4, u "text"), (0, u "()Ljava/lang/String;"), (8, .class_ 62), (0, u "com/example/gatewarden/gatewarden/bench/HttpConnections")] 21

def k3c0 : Code := { maxStack := 2, maxLocals := 4, code := prog_5_method_1_code, exceptionTable := #[], attributes := #[] }
def k3m0 : Method := { name := "<init>", desc := "(ILjava/util/Map;[B)V", sig := { parameters := [.int, (.object "java/util/Map"), (.array .byte)], returnType := none }, accessFlags := 0, code := some k3c0 }
def k3c1 : Code := { maxStack := 4, maxLocals := 1, code := prog_5_method_2_code, exceptionTable := #[], attributes := #[] }
def k3m1 : Method := { name := "text", desc := "()Ljava/lang/String;", sig := { parameters := [], returnType := some (.object "java/lang/String") }, accessFlags := 0, code := some k3c1 }
/-- com/example/gatewarden/gatewarden/bench/HttpConnections$Response -/
def k3 : Class := { plain "com/example/gatewarden/gatewarden/bench/HttpConnections$Response" (some 2) with
  accessFlags := 48
  interfaces := #[]
  cf := some (fileOf pool3 8 #[.nestHost 61] #[{ accessFlags := 0, nameIndex := 5, descriptorIndex := 46, attributes := #[] }, { accessFlags := 0, nameIndex := 51, descriptorIndex := 52, attributes := #[] }] 48 2 #[] #[{ accessFlags := 18, nameIndex := 11, descriptorIndex := 12, attributes := #[] }, { accessFlags := 18, nameIndex := 15, descriptorIndex := 16, attributes := #[] }, { accessFlags := 18, nameIndex := 19, descriptorIndex := 20, attributes := #[] }])
  fields := #[{ name := "status", type := .int, accessFlags := 18, slot := 0, constantValue := 0 }, { name := "headers", type := (.object "java/util/Map"), accessFlags := 18, slot := 1, constantValue := 0 }, { name := "body", type := (.array .byte), accessFlags := 18, slot := 2, constantValue := 0 }]
  methods := #[k3m0, k3m1]
  instanceTypes := #[.int, (.object "java/util/Map"), (.array .byte)]
  staticTypes := #[]
  resolved := Array.replicate 84 none
  statics := none }

def pool4 : Array CpInfo := pool [(1, .class_ 2), (0, u "java/io/Serializable"), (0, .class_ 4), (0, u "java/lang/Object")] 2

/-- java/io/Serializable -/
def k4 : Class := { plain "java/io/Serializable" (some 0) with
  accessFlags := 1537
  interfaces := #[]
  cf := some (fileOf pool4 1 #[] #[] 1537 3 #[] #[])
  fields := #[]
  methods := #[]
  instanceTypes := #[]
  staticTypes := #[]
  resolved := Array.replicate 7 none
  statics := none }

def pool5 : Array CpInfo := pool [(1, .class_ 2), (0, u "java/lang/Comparable"), (0, .class_ 4), (0, u "java/lang/Object")] 7

/-- java/lang/Comparable -/
def k5 : Class := { plain "java/lang/Comparable" (some 0) with
  accessFlags := 1537
  interfaces := #[]
  cf := some (fileOf pool5 1 #[] #[] 1537 3 #[] #[])
  fields := #[]
  methods := #[]
  instanceTypes := #[]
  staticTypes := #[]
  resolved := Array.replicate 12 none
  statics := none }

def pool6 : Array CpInfo := pool [(2, .class_ 4), (1, u "java/lang/CharSequence"), (42, .class_ 48), (0, u "java/lang/CharSequence$1CodePointIterator"), (10, .class_ 60), (0, u "java/lang/CharSequence$1CharIterator"), (5, .class_ 67), (0, u "java/lang/Object")] 63

/-- java/lang/CharSequence -/
def k6 : Class := { plain "java/lang/CharSequence" (some 0) with
  accessFlags := 1537
  interfaces := #[]
  cf := some (fileOf pool6 2 #[.nestMembers #[47, 59]] #[] 1537 66 #[] #[])
  fields := #[]
  methods := #[]
  instanceTypes := #[]
  staticTypes := #[]
  resolved := Array.replicate 131 none
  statics := none }

def pool7 : Array CpInfo := pool [(1, .class_ 2), (0, u "java/lang/constant/Constable"), (0, .class_ 4), (0, u "java/lang/Object")] 6

/-- java/lang/constant/Constable -/
def k7 : Class := { plain "java/lang/constant/Constable" (some 0) with
  accessFlags := 1537
  interfaces := #[]
  cf := some (fileOf pool7 1 #[] #[] 1537 3 #[] #[])
  fields := #[]
  methods := #[]
  instanceTypes := #[]
  staticTypes := #[]
  resolved := Array.replicate 11 none
  statics := none }

def pool8 : Array CpInfo := pool [(1, .class_ 2), (0, u "java/lang/constant/ConstantDesc"), (0, .class_ 4), (0, u "java/lang/Object")] 32

/-- java/lang/constant/ConstantDesc -/
def k8 : Class := { plain "java/lang/constant/ConstantDesc" (some 0) with
  accessFlags := 1537
  interfaces := #[]
  cf := some (fileOf pool8 1 #[] #[] 1537 3 #[] #[])
  fields := #[]
  methods := #[]
  instanceTypes := #[]
  staticTypes := #[]
  resolved := Array.replicate 37 none
  statics := none }

def pool9 : Array CpInfo := pool [(1, .methodref 2 3), (0, .class_ 4), (0, .nameAndType 5 6), (0, u "java/lang/Object"), (0, u "<init>"), (0, u "()V"), (0, .string 8), (0, u ""), (0, .fieldref 10 11), (0, .class_ 12), (0, .nameAndType 13 14), (0, u "java/lang/String"), (0, u "value"), (0, u "[B"), (0, .fieldref 10 16), (0, .nameAndType 17 18), (0, u "coder"), (0, u "B"), (2, u "hash"), (0, u "I"), (2, u "hashIsZero"), (0, u "Z"), (0, .methodref 10 28), (0, .nameAndType 5 29), (0, u "([CIILjava/lang/Void;)V"), (6, u "checkBoundsOffCount"), (0, u "(III)I"), (0, .fieldref 10 39), (0, .nameAndType 40 26), (0, u "COMPACT_STRINGS"), (1, .class_ 44), (1, u "java/lang/StringUTF16"), (0, u "compress"), (1, .methodref 42 48), (0, .nameAndType 49 50), (0, u "coderFromArrayLen"), (0, u "([BI)B"), (3, .methodref 55 56), (0, .class_ 57), (0, .nameAndType 58 59), (0, u "java/util/Arrays"), (0, u "copyOfRange"), (0, u "([BII)[B"), (0, .methodref 42 61), (0, .nameAndType 62 63), (0, u "newBytesFor"), (0, u "(I)[B"), (0, .methodref 42 65), (0, .nameAndType 66 67), (0, u "putChar"), (0, u "([BII)V"), (7, .methodref 10 76), (0, .nameAndType 5 77), (0, u "(Ljava/nio/charset/Charset;[BII)V"), (0, .methodref 79 80), (0, .class_ 81), (0, .nameAndType 82 83), (0, u "java/util/Objects"), (0, u "requireNonNull"), (0, u "(Ljava/lang/Object;)Ljava/lang/Object;"), (0, .class_ 85), (0, u "java/nio/charset/Charset"), (0, .fieldref 87 88), (0, .class_ 89), (0, .nameAndType 90 91), (0, u "sun/nio/cs/UTF_8"), (0, u "INSTANCE"), (0, u "Lsun/nio/cs/UTF_8;"), (0, .methodref 93 94), (0, .class_ 95), (0, .nameAndType 96 97), (0, u "java/lang/StringCoding"), (0, u "countPositives"), (0, u "([BII)I"), (0, .methodref 10 99), (0, .nameAndType 100 101), (0, u "decode2"), (0, u "(II)C"), (0, .methodref 55 103), (0, .nameAndType 104 105), (0, u "copyOf"), (0, u "([BI)[B"), (0, .methodref 107 108), (0, .class_ 109), (0, .nameAndType 110 111), (0, u "java/lang/StringLatin1"), (0, u "inflate"), (0, u "([BI[BII)V"), (0, .methodref 10 113), (0, .nameAndType 114 115), (0, u "decodeUTF8_UTF16"), (0, u "([BII[BIZ)I"), (16, .integer 65533), (44, .methodref 42 178), (0, .nameAndType 45 179), (0, u "([CII)[B"), (185, .class_ 367), (1, u "java/lang/Character"), (1, u "(C)Z"), (13, .integer 4294844288), (0, .integer 3678080), (0, .methodref 10 386), (0, .nameAndType 387 388), (0, u "isNotContinuation"), (0, u "(I)Z"), (3, .methodref 10 393), (0, .nameAndType 394 395), (0, u "isMalformed3"), (0, u "(III)Z"), (4, .methodref 10 401), (0, .nameAndType 402 403), (0, u "decode3"), (0, u "(III)C"), (0, .methodref 365 405), (0, .nameAndType 406 369), (0, u "isSurrogate"), (4, .methodref 10 412), (0, .nameAndType 413 414), (0, u "decode4"), (0, u "(IIII)I"), (0, .methodref 10 416), (0, .nameAndType 417 395), (0, u "isMalformed4"), (0, .methodref 365 419), (0, .nameAndType 420 388), (0, u "isSupplementaryCodePoint"), (3, .methodref 365 425), (0, .nameAndType 426 427), (0, u "highSurrogate"), (0, u "(I)C"), (0, .methodref 365 429), (0, .nameAndType 430 427), (0, u "lowSurrogate"), (110, .methodref 107 542), (0, .nameAndType 543 544), (0, u "equals"), (0, u "([B[B)Z"), (28, u "(Ljava/lang/Object;)Z"), (1, .class_ 576), (0, u "java/lang/CharSequence"), (22, u "CASE_INSENSITIVE_ORDER"), (0, u "Ljava/util/Comparator;"), (409, u "([C)V"), (42, .fieldref 1054 1055), (0, .class_ 1056), (0, .nameAndType 1057 1058), (0, u "jdk/internal/util/Preconditions"), (0, u "SIOOBE_FORMATTER"), (0, u "Ljava/util/function/BiFunction;"), (5, u "(IIILjava/util/function/BiFunction;)I"), (0, .methodref 1054 1066), (0, .nameAndType 1067 1064), (0, u "checkFromIndexSize"), (33, u "serialPersistentFields"), (0, u "[Ljava/io/ObjectStreamField;"), (0, .class_ 1104), (0, u "java/lang/String$CaseInsensitiveComparator"), (1, .class_ 1107), (0, u "java/io/Serializable"), (0, .class_ 1109), (0, u "java/lang/Comparable"), (0, .class_ 1111), (0, u "java/lang/constant/Constable"), (0, .class_ 1113), (0, u "java/lang/constant/ConstantDesc"), (2, u "serialVersionUID"), (0, u "J"), (3, u "REPL"), (0, u "C"), (2, u "LATIN1"), (1, u "UTF16"), (101, u "([BLjava/nio/charset/Charset;)V")] 221

def k9m0 : Method := { name := "<init>", desc := "()V", sig := { parameters := [], returnType := none }, accessFlags := 1, code := none }
def k9c1 : Code := { maxStack := 5, maxLocals := 2, code := jdk_42_method_3_code, exceptionTable := #[], attributes := #[] }
def k9m1 : Method := { name := "<init>", desc := "([C)V", sig := { parameters := [(.array .char)], returnType := none }, accessFlags := 1, code := some k9c1 }
def k9c2 : Code := { maxStack := 6, maxLocals := 11, code := jdk_42_method_11_code, exceptionTable := #[{ startPc := 800, endPc := 813, handlerPc := 816, catchType := 202 }], attributes := #[] }
def k9m2 : Method := { name := "<init>", desc := "(Ljava/nio/charset/Charset;[BII)V", sig := { parameters := [(.object "java/nio/charset/Charset"), (.array .byte), .int, .int], returnType := none }, accessFlags := 2, code := some k9c2 }
def k9c3 : Code := { maxStack := 2, maxLocals := 1, code := jdk_42_method_29_code, exceptionTable := #[], attributes := #[] }
def k9m3 : Method := { name := "isNotContinuation", desc := "(I)Z", sig := { parameters := [.int], returnType := some .boolean }, accessFlags := 10, code := some k9c3 }
def k9c4 : Code := { maxStack := 2, maxLocals := 3, code := jdk_42_method_30_code, exceptionTable := #[], attributes := #[] }
def k9m4 : Method := { name := "isMalformed3", desc := "(III)Z", sig := { parameters := [.int, .int, .int], returnType := some .boolean }, accessFlags := 10, code := some k9c4 }
def k9c5 : Code := { maxStack := 2, maxLocals := 3, code := jdk_42_method_32_code, exceptionTable := #[], attributes := #[] }
def k9m5 : Method := { name := "isMalformed4", desc := "(III)Z", sig := { parameters := [.int, .int, .int], returnType := some .boolean }, accessFlags := 10, code := some k9c5 }
def k9c6 : Code := { maxStack := 2, maxLocals := 2, code := jdk_42_method_35_code, exceptionTable := #[], attributes := #[] }
def k9m6 : Method := { name := "decode2", desc := "(II)C", sig := { parameters := [.int, .int], returnType := some .char }, accessFlags := 10, code := some k9c6 }
def k9c7 : Code := { maxStack := 3, maxLocals := 3, code := jdk_42_method_36_code, exceptionTable := #[], attributes := #[] }
def k9m7 : Method := { name := "decode3", desc := "(III)C", sig := { parameters := [.int, .int, .int], returnType := some .char }, accessFlags := 10, code := some k9c7 }
def k9c8 : Code := { maxStack := 3, maxLocals := 4, code := jdk_42_method_37_code, exceptionTable := #[], attributes := #[] }
def k9m8 : Method := { name := "decode4", desc := "(IIII)I", sig := { parameters := [.int, .int, .int, .int], returnType := some .int }, accessFlags := 10, code := some k9c8 }
def k9c9 : Code := { maxStack := 4, maxLocals := 11, code := jdk_42_method_38_code, exceptionTable := #[], attributes := #[] }
def k9m9 : Method := { name := "decodeUTF8_UTF16", desc := "([BII[BIZ)I", sig := { parameters := [(.array .byte), .int, .int, (.array .byte), .int, .boolean], returnType := some .int }, accessFlags := 10, code := some k9c9 }
def k9c10 : Code := { maxStack := 5, maxLocals := 3, code := jdk_42_method_49_code, exceptionTable := #[], attributes := #[] }
def k9m10 : Method := { name := "<init>", desc := "([BLjava/nio/charset/Charset;)V", sig := { parameters := [(.array .byte), (.object "java/nio/charset/Charset")], returnType := none }, accessFlags := 1, code := some k9c10 }
def k9c11 : Code := { maxStack := 2, maxLocals := 3, code := jdk_42_method_66_code, exceptionTable := #[], attributes := #[] }
def k9m11 : Method := { name := "equals", desc := "(Ljava/lang/Object;)Z", sig := { parameters := [(.object "java/lang/Object")], returnType := some .boolean }, accessFlags := 1, code := some k9c11 }
def k9c12 : Code := { maxStack := 4, maxLocals := 6, code := jdk_42_method_149_code, exceptionTable := #[], attributes := #[] }
def k9m12 : Method := { name := "<init>", desc := "([CIILjava/lang/Void;)V", sig := { parameters := [(.array .char), .int, .int, (.object "java/lang/Void")], returnType := none }, accessFlags := 2, code := some k9c12 }
def k9c13 : Code := { maxStack := 4, maxLocals := 3, code := jdk_42_method_157_code, exceptionTable := #[], attributes := #[] }
def k9m13 : Method := { name := "checkBoundsOffCount", desc := "(III)I", sig := { parameters := [.int, .int, .int], returnType := some .int }, accessFlags := 8, code := some k9c13 }
/-- java/lang/String -/
def k9 : Class := { plain "java/lang/String" (some 0) with
  accessFlags := 49
  interfaces := #[4, 5, 6, 7, 8]
  cf := some (fileOf pool9 10 #[.nestMembers #[1103]] #[{ accessFlags := 1, nameIndex := 5, descriptorIndex := 6, attributes := #[] }, { accessFlags := 1, nameIndex := 5, descriptorIndex := 1010, attributes := #[] }, { accessFlags := 2, nameIndex := 5, descriptorIndex := 77, attributes := #[] }, { accessFlags := 10, nameIndex := 387, descriptorIndex := 388, attributes := #[] }, { accessFlags := 10, nameIndex := 394, descriptorIndex := 395, attributes := #[] }, { accessFlags := 10, nameIndex := 417, descriptorIndex := 395, attributes := #[] }, { accessFlags := 10, nameIndex := 100, descriptorIndex := 101, attributes := #[] }, { accessFlags := 10, nameIndex := 402, descriptorIndex := 403, attributes := #[] }, { accessFlags := 10, nameIndex := 413, descriptorIndex := 414, attributes := #[] }, { accessFlags := 10, nameIndex := 114, descriptorIndex := 115, attributes := #[] }, { accessFlags := 1, nameIndex := 5, descriptorIndex := 1229, attributes := #[] }, { accessFlags := 1, nameIndex := 543, descriptorIndex := 573, attributes := #[] }, { accessFlags := 2, nameIndex := 5, descriptorIndex := 29, attributes := #[] }, { accessFlags := 8, nameIndex := 36, descriptorIndex := 37, attributes := #[] }] 49 2 #[1106, 1108, 575, 1110, 1112] #[{ accessFlags := 18, nameIndex := 13, descriptorIndex := 14, attributes := #[] }, { accessFlags := 18, nameIndex := 17, descriptorIndex := 18, attributes := #[] }, { accessFlags := 2, nameIndex := 21, descriptorIndex := 22, attributes := #[] }, { accessFlags := 2, nameIndex := 25, descriptorIndex := 26, attributes := #[] }, { accessFlags := 26, nameIndex := 1116, descriptorIndex := 1117, attributes := #[] }, { accessFlags := 24, nameIndex := 40, descriptorIndex := 26, attributes := #[] }, { accessFlags := 26, nameIndex := 1101, descriptorIndex := 1102, attributes := #[] }, { accessFlags := 26, nameIndex := 1121, descriptorIndex := 1122, attributes := #[] }, { accessFlags := 25, nameIndex := 599, descriptorIndex := 600, attributes := #[] }, { accessFlags := 24, nameIndex := 1125, descriptorIndex := 18, attributes := #[] }, { accessFlags := 24, nameIndex := 1127, descriptorIndex := 18, attributes := #[] }])
  fields := #[{ name := "value", type := (.array .byte), accessFlags := 18, slot := 0, constantValue := 0 }, { name := "coder", type := .byte, accessFlags := 18, slot := 1, constantValue := 0 }, { name := "hash", type := .int, accessFlags := 2, slot := 2, constantValue := 0 }, { name := "hashIsZero", type := .boolean, accessFlags := 2, slot := 3, constantValue := 0 }, { name := "serialVersionUID", type := .long, accessFlags := 26, slot := 0, constantValue := 0 }, { name := "COMPACT_STRINGS", type := .boolean, accessFlags := 24, slot := 1, constantValue := 0 }, { name := "serialPersistentFields", type := (.array (.object "java/io/ObjectStreamField")), accessFlags := 26, slot := 2, constantValue := 0 }, { name := "REPL", type := .char, accessFlags := 26, slot := 3, constantValue := 0 }, { name := "CASE_INSENSITIVE_ORDER", type := (.object "java/util/Comparator"), accessFlags := 25, slot := 4, constantValue := 0 }, { name := "LATIN1", type := .byte, accessFlags := 24, slot := 5, constantValue := 0 }, { name := "UTF16", type := .byte, accessFlags := 24, slot := 6, constantValue := 0 }]
  methods := #[k9m0, k9m1, k9m2, k9m3, k9m4, k9m5, k9m6, k9m7, k9m8, k9m9, k9m10, k9m11, k9m12, k9m13]
  instanceTypes := #[(.array .byte), .byte, .int, .boolean]
  staticTypes := #[.long, .boolean, (.array (.object "java/io/ObjectStreamField")), .char, (.object "java/util/Comparator"), .byte, .byte]
  resolved := Array.replicate 1451 none
  statics := some 0 }

def pool10 : Array CpInfo := pool [(2, .class_ 4), (1, u "java/lang/Object"), (0, u "<init>"), (0, u "()V"), (14, .class_ 23), (1, u "java/nio/charset/StandardCharsets"), (0, u "US_ASCII"), (0, u "Ljava/nio/charset/Charset;"), (7, u "ISO_8859_1"), (7, u "UTF_8"), (5, u "UTF_16BE"), (5, u "UTF_16LE"), (5, u "UTF_16")] 8

def k10m0 : Method := { name := "<init>", desc := "()V", sig := { parameters := [], returnType := none }, accessFlags := 2, code := none }
/-- java/nio/charset/StandardCharsets -/
def k10 : Class := { plain "java/nio/charset/StandardCharsets" (some 0) with
  accessFlags := 49
  interfaces := #[]
  cf := some (fileOf pool10 21 #[] #[{ accessFlags := 2, nameIndex := 5, descriptorIndex := 6, attributes := #[] }] 49 2 #[] #[{ accessFlags := 25, nameIndex := 24, descriptorIndex := 25, attributes := #[] }, { accessFlags := 25, nameIndex := 33, descriptorIndex := 25, attributes := #[] }, { accessFlags := 25, nameIndex := 41, descriptorIndex := 25, attributes := #[] }, { accessFlags := 25, nameIndex := 47, descriptorIndex := 25, attributes := #[] }, { accessFlags := 25, nameIndex := 53, descriptorIndex := 25, attributes := #[] }, { accessFlags := 25, nameIndex := 59, descriptorIndex := 25, attributes := #[] }])
  fields := #[{ name := "US_ASCII", type := (.object "java/nio/charset/Charset"), accessFlags := 25, slot := 0, constantValue := 0 }, { name := "ISO_8859_1", type := (.object "java/nio/charset/Charset"), accessFlags := 25, slot := 1, constantValue := 0 }, { name := "UTF_8", type := (.object "java/nio/charset/Charset"), accessFlags := 25, slot := 2, constantValue := 0 }, { name := "UTF_16BE", type := (.object "java/nio/charset/Charset"), accessFlags := 25, slot := 3, constantValue := 0 }, { name := "UTF_16LE", type := (.object "java/nio/charset/Charset"), accessFlags := 25, slot := 4, constantValue := 0 }, { name := "UTF_16", type := (.object "java/nio/charset/Charset"), accessFlags := 25, slot := 5, constantValue := 0 }]
  methods := #[k10m0]
  instanceTypes := #[]
  staticTypes := #[(.object "java/nio/charset/Charset"), (.object "java/nio/charset/Charset"), (.object "java/nio/charset/Charset"), (.object "java/nio/charset/Charset"), (.object "java/nio/charset/Charset"), (.object "java/nio/charset/Charset")]
  resolved := Array.replicate 68 none
  statics := some 1 }

def pool11 : Array CpInfo := pool [(2, .class_ 4), (1, u "java/lang/Object"), (0, u "<init>"), (0, u "()V"), (35, .class_ 44), (1, u "java/util/Objects"), (0, u "requireNonNull"), (0, u "(Ljava/lang/Object;)Ljava/lang/Object;")] 137

def k11m0 : Method := { name := "<init>", desc := "()V", sig := { parameters := [], returnType := none }, accessFlags := 2, code := none }
def k11c1 : Code := { maxStack := 2, maxLocals := 1, code := jdk_31_method_10_code, exceptionTable := #[], attributes := #[] }
def k11m1 : Method := { name := "requireNonNull", desc := "(Ljava/lang/Object;)Ljava/lang/Object;", sig := { parameters := [(.object "java/lang/Object")], returnType := some (.object "java/lang/Object") }, accessFlags := 9, code := some k11c1 }
/-- java/util/Objects -/
def k11 : Class := { plain "java/util/Objects" (some 0) with
  accessFlags := 49
  interfaces := #[]
  cf := some (fileOf pool11 42 #[] #[{ accessFlags := 2, nameIndex := 5, descriptorIndex := 6, attributes := #[] }, { accessFlags := 9, nameIndex := 45, descriptorIndex := 46, attributes := #[] }] 49 2 #[] #[])
  fields := #[]
  methods := #[k11m0, k11m1]
  instanceTypes := #[]
  staticTypes := #[]
  resolved := Array.replicate 184 none
  statics := none }

def pool12 : Array CpInfo := pool [(18, .class_ 20), (1, u "java/nio/charset/Charset"), (0, u "cache1"), (0, u "[Ljava/lang/Object;"), (2, u "cache2"), (0, .class_ 27), (0, u "java/lang/Object"), (0, .class_ 29), (0, u "java/nio/charset/Charset$1"), (4, .class_ 36), (1, u "java/nio/charset/Charset$ThreadTrackHolder"), (21, .class_ 59), (0, u "java/nio/charset/Charset$2"), (11, .class_ 73), (1, u "java/nio/charset/Charset$ExtendedProviderHolder"), (22, u "standardProvider"), (0, u "Ljava/nio/charset/spi/CharsetProvider;"), (29, u "name"), (7, .class_ 136), (0, u "java/nio/charset/Charset$3"), (5, u "defaultCharset"), (0, u "Ljava/nio/charset/Charset;"), (14, u "zeroAliases"), (0, u "[Ljava/lang/String;"), (29, u "Ljava/lang/String;"), (2, u "aliases"), (2, u "aliasSet"), (0, u "Ljava/util/Set;"), (82, .class_ 280), (0, u "java/lang/Comparable"), (84, .class_ 366), (0, u "java/nio/charset/Charset$ExtendedProviderHolder$1")] 3

/-- java/nio/charset/Charset -/
def k12 : Class := { plain "java/nio/charset/Charset" (some 0) with
  accessFlags := 1057
  interfaces := #[5]
  cf := some (fileOf pool12 18 #[.nestMembers #[71, 365, 34, 135, 58, 28]] #[] 1057 26 #[279] #[{ accessFlags := 26, nameIndex := 96, descriptorIndex := 97, attributes := #[] }, { accessFlags := 26, nameIndex := 158, descriptorIndex := 159, attributes := #[] }, { accessFlags := 74, nameIndex := 21, descriptorIndex := 22, attributes := #[] }, { accessFlags := 74, nameIndex := 25, descriptorIndex := 22, attributes := #[] }, { accessFlags := 10, nameIndex := 142, descriptorIndex := 143, attributes := #[] }, { accessFlags := 18, nameIndex := 127, descriptorIndex := 189, attributes := #[] }, { accessFlags := 18, nameIndex := 192, descriptorIndex := 159, attributes := #[] }, { accessFlags := 2, nameIndex := 195, descriptorIndex := 196, attributes := #[] }])
  fields := #[{ name := "standardProvider", type := (.object "java/nio/charset/spi/CharsetProvider"), accessFlags := 26, slot := 0, constantValue := 0 }, { name := "zeroAliases", type := (.array (.object "java/lang/String")), accessFlags := 26, slot := 1, constantValue := 0 }, { name := "cache1", type := (.array (.object "java/lang/Object")), accessFlags := 74, slot := 2, constantValue := 0 }, { name := "cache2", type := (.array (.object "java/lang/Object")), accessFlags := 74, slot := 3, constantValue := 0 }, { name := "defaultCharset", type := (.object "java/nio/charset/Charset"), accessFlags := 10, slot := 4, constantValue := 0 }, { name := "name", type := (.object "java/lang/String"), accessFlags := 18, slot := 0, constantValue := 0 }, { name := "aliases", type := (.array (.object "java/lang/String")), accessFlags := 18, slot := 1, constantValue := 0 }, { name := "aliasSet", type := (.object "java/util/Set"), accessFlags := 2, slot := 2, constantValue := 0 }]
  methods := #[]
  instanceTypes := #[(.object "java/lang/String"), (.array (.object "java/lang/String")), (.object "java/util/Set")]
  staticTypes := #[(.object "java/nio/charset/spi/CharsetProvider"), (.array (.object "java/lang/String")), (.array (.object "java/lang/Object")), (.array (.object "java/lang/Object")), (.object "java/nio/charset/Charset")]
  resolved := Array.replicate 370 none
  statics := none }

def pool13 : Array CpInfo := pool [(1, .class_ 2), (0, u "sun/nio/cs/HistoricallyNamedCharset"), (0, .class_ 4), (0, u "java/lang/Object")] 4

/-- sun/nio/cs/HistoricallyNamedCharset -/
def k13 : Class := { plain "sun/nio/cs/HistoricallyNamedCharset" (some 0) with
  accessFlags := 1537
  interfaces := #[]
  cf := some (fileOf pool13 1 #[] #[] 1537 3 #[] #[])
  fields := #[]
  methods := #[]
  instanceTypes := #[]
  staticTypes := #[]
  resolved := Array.replicate 9 none
  statics := none }

def pool14 : Array CpInfo := pool [(2, .class_ 4), (1, u "java/nio/charset/Charset"), (130, .class_ 136), (0, u "sun/nio/cs/Unicode"), (0, .class_ 138), (0, u "sun/nio/cs/HistoricallyNamedCharset")] 15

/-- sun/nio/cs/Unicode -/
def k14 : Class := { plain "sun/nio/cs/Unicode" (some 12) with
  accessFlags := 1056
  interfaces := #[13]
  cf := some (fileOf pool14 135 #[] #[] 1056 2 #[137] #[])
  fields := #[]
  methods := #[]
  instanceTypes := #[(.object "java/lang/String"), (.array (.object "java/lang/String")), (.object "java/util/Set")]
  staticTypes := #[]
  resolved := Array.replicate 154 none
  statics := none }

def pool15 : Array CpInfo := pool [(10, .class_ 12), (1, u "sun/nio/cs/Unicode"), (0, u "<init>"), (3, .class_ 18), (0, u "sun/nio/cs/UTF_8$Decoder"), (3, .class_ 23), (0, u "sun/nio/cs/UTF_8$Encoder"), (15, .class_ 40), (0, u "sun/nio/cs/UTF_8"), (2, u "()V"), (2, u "INSTANCE"), (0, u "Lsun/nio/cs/UTF_8;"), (8, u "JLA"), (0, u "Ljdk/internal/access/JavaLangAccess;")] 26

def k15m0 : Method := { name := "<init>", desc := "()V", sig := { parameters := [], returnType := none }, accessFlags := 1, code := none }
/-- sun/nio/cs/UTF_8 -/
def k15 : Class := { plain "sun/nio/cs/UTF_8" (some 14) with
  accessFlags := 49
  interfaces := #[]
  cf := some (fileOf pool15 39 #[.nestMembers #[22, 17]] #[{ accessFlags := 1, nameIndex := 13, descriptorIndex := 43, attributes := #[] }] 49 10 #[] #[{ accessFlags := 25, nameIndex := 46, descriptorIndex := 47, attributes := #[] }, { accessFlags := 26, nameIndex := 56, descriptorIndex := 57, attributes := #[] }])
  fields := #[{ name := "INSTANCE", type := (.object "sun/nio/cs/UTF_8"), accessFlags := 25, slot := 0, constantValue := 0 }, { name := "JLA", type := (.object "jdk/internal/access/JavaLangAccess"), accessFlags := 26, slot := 1, constantValue := 0 }]
  methods := #[k15m0]
  instanceTypes := #[(.object "java/lang/String"), (.array (.object "java/lang/String")), (.object "java/util/Set")]
  staticTypes := #[(.object "sun/nio/cs/UTF_8"), (.object "jdk/internal/access/JavaLangAccess")]
  resolved := Array.replicate 84 none
  statics := some 2 }

def pool16 : Array CpInfo := pool [(2, .class_ 4), (1, u "java/lang/Object"), (0, u "<init>"), (0, u "()V"), (1, .class_ 10), (1, u "java/lang/StringCoding"), (0, u "countPositives"), (0, u "([BII)I")] 36

def k16m0 : Method := { name := "<init>", desc := "()V", sig := { parameters := [], returnType := none }, accessFlags := 2, code := none }
def k16c1 : Code := { maxStack := 2, maxLocals := 5, code := jdk_123_method_3_code, exceptionTable := #[], attributes := #[] }
def k16m1 : Method := { name := "countPositives", desc := "([BII)I", sig := { parameters := [(.array .byte), .int, .int], returnType := some .int }, accessFlags := 9, code := some k16c1 }
/-- java/lang/StringCoding -/
def k16 : Class := { plain "java/lang/StringCoding" (some 0) with
  accessFlags := 32
  interfaces := #[]
  cf := some (fileOf pool16 8 #[] #[{ accessFlags := 2, nameIndex := 5, descriptorIndex := 6, attributes := #[] }, { accessFlags := 9, nameIndex := 11, descriptorIndex := 12, attributes := #[] }] 32 2 #[] #[])
  fields := #[]
  methods := #[k16m0, k16m1]
  instanceTypes := #[]
  staticTypes := #[]
  resolved := Array.replicate 49 none
  statics := none }

def pool17 : Array CpInfo := pool [(2, .class_ 4), (1, u "java/lang/Object"), (0, u "<init>"), (0, u "()V"), (7, .class_ 16), (1, u "java/util/Arrays"), (57, .class_ 76), (1, u "java/util/Arrays$NaturalOrder"), (32, u "()Ljava/lang/Object;"), (3, .class_ 115), (1, u "java/util/Arrays$LegacyMergeSort"), (1, u "Z"), (10, .nameAndType 129 109), (0, u "clone"), (9, u "copyOfRange"), (10, .methodref 151 152), (0, .class_ 153), (0, .nameAndType 154 155), (0, u "java/lang/System"), (0, u "arraycopy"), (0, u "(Ljava/lang/Object;ILjava/lang/Object;II)V"), (146, u "copyOf"), (1, .methodref 305 306), (0, .class_ 307), (0, .nameAndType 308 309), (0, u "java/lang/Math"), (0, u "min"), (0, u "(II)I"), (0, .methodref 311 128), (0, .class_ 312), (0, u "[B"), (29, u "([BII)[B"), (32, .class_ 376), (0, u "java/util/Arrays$ArrayList"), (68, u "$assertionsDisabled"), (269, u "MIN_ARRAY_SORT_GRAN"), (0, u "I"), (2, u "INSERTIONSORT_THRESHOLD"), (149, u "([BI)[B"), (105, .class_ 976), (0, u "java/util/Arrays$ArrayItr")] 52

def k17m0 : Method := { name := "<init>", desc := "()V", sig := { parameters := [], returnType := none }, accessFlags := 2, code := none }
def k17c1 : Code := { maxStack := 6, maxLocals := 3, code := jdk_65_method_121_code, exceptionTable := #[], attributes := #[] }
def k17m1 : Method := { name := "copyOf", desc := "([BI)[B", sig := { parameters := [(.array .byte), .int], returnType := some (.array .byte) }, accessFlags := 9, code := some k17c1 }
def k17c2 : Code := { maxStack := 3, maxLocals := 3, code := jdk_65_method_132_code, exceptionTable := #[], attributes := #[] }
def k17m2 : Method := { name := "copyOfRange", desc := "([BII)[B", sig := { parameters := [(.array .byte), .int, .int], returnType := some (.array .byte) }, accessFlags := 9, code := some k17c2 }
/-- java/util/Arrays -/
def k17 : Class := { plain "java/util/Arrays" (some 0) with
  accessFlags := 49
  interfaces := #[]
  cf := some (fileOf pool17 14 #[.nestMembers #[975, 375, 113, 74]] #[{ accessFlags := 2, nameIndex := 5, descriptorIndex := 6, attributes := #[] }, { accessFlags := 9, nameIndex := 302, descriptorIndex := 869, attributes := #[] }, { accessFlags := 9, nameIndex := 139, descriptorIndex := 342, attributes := #[] }] 49 2 #[] #[{ accessFlags := 26, nameIndex := 715, descriptorIndex := 716, attributes := #[] }, { accessFlags := 26, nameIndex := 719, descriptorIndex := 716, attributes := #[] }, { accessFlags := 4120, nameIndex := 445, descriptorIndex := 117, attributes := #[] }])
  fields := #[{ name := "MIN_ARRAY_SORT_GRAN", type := .int, accessFlags := 26, slot := 0, constantValue := 0 }, { name := "INSERTIONSORT_THRESHOLD", type := .int, accessFlags := 26, slot := 1, constantValue := 0 }, { name := "$assertionsDisabled", type := .boolean, accessFlags := 4120, slot := 2, constantValue := 0 }]
  methods := #[k17m0, k17m1, k17m2]
  instanceTypes := #[]
  staticTypes := #[.int, .int, .boolean]
  resolved := Array.replicate 1029 none
  statics := none }

def pool18 : Array CpInfo := pool [(1, .class_ 2), (0, u "java/lang/Cloneable"), (0, .class_ 4), (0, u "java/lang/Object")] 2

/-- java/lang/Cloneable -/
def k18 : Class := { plain "java/lang/Cloneable" (some 0) with
  accessFlags := 1537
  interfaces := #[]
  cf := some (fileOf pool18 1 #[] #[] 1537 3 #[] #[])
  fields := #[]
  methods := #[]
  instanceTypes := #[]
  staticTypes := #[]
  resolved := Array.replicate 7 none
  statics := none }

def pool19 : Array CpInfo := pool [(3, .class_ 4), (0, u "java/lang/String"), (1, .class_ 8), (1, u "java/lang/Object"), (0, u "<init>"), (0, u "()V"), (0, .methodref 12 13), (0, .class_ 14), (0, .nameAndType 15 16), (0, u "java/lang/StringUTF16"), (0, u "newBytesLength"), (0, u "(I)I"), (3, .integer 1073741823), (23, .fieldref 12 45), (0, .nameAndType 46 47), (0, u "$assertionsDisabled"), (0, u "Z"), (0, .methodref 12 49), (0, .nameAndType 50 51), (0, u "length"), (0, u "([B)I"), (7, .fieldref 12 60), (0, .nameAndType 61 62), (0, u "HI_BYTE_SHIFT"), (0, u "I"), (0, .fieldref 12 64), (0, .nameAndType 65 62), (0, u "LO_BYTE_SHIFT"), (5, .methodref 12 72), (0, .nameAndType 73 74), (0, u "getChar"), (0, u "([BI)C"), (24, u "(II[B)V"), (7, .methodref 12 108), (0, .nameAndType 109 110), (0, u "newBytesFor"), (0, u "(I)[B"), (0, .methodref 12 112), (0, .nameAndType 113 114), (0, u "putChar"), (0, u "([BII)V"), (0, .methodref 12 116), (0, .nameAndType 117 118), (0, u "compress"), (0, u "([CI[BII)I"), (0, .methodref 12 120), (0, .nameAndType 121 122), (0, u "toBytes"), (0, u "([CII)[B"), (17, u "inflate"), (0, u "([BI[BII)V"), (31, .methodref 12 174), (0, .nameAndType 175 99), (0, u "checkBoundsOffCount"), (85, u "coderFromArrayLen"), (0, u "([BI)B"), (18, u "(III)I"), (87, .class_ 371), (1, u "java/lang/StringUTF16$LinesSpliterator"), (47, .methodref 3 420), (0, .nameAndType 175 281), (9, u "MAX_LENGTH"), (196, .class_ 628), (0, u "java/lang/StringUTF16$CodePointsSpliterator"), (0, .class_ 630), (0, u "java/lang/StringUTF16$CharsSpliterator")] 4

def k19m0 : Method := { name := "<init>", desc := "()V", sig := { parameters := [], returnType := none }, accessFlags := 0, code := none }
def k19c1 : Code := { maxStack := 1, maxLocals := 1, code := jdk_52_method_2_code, exceptionTable := #[], attributes := #[] }
def k19m1 : Method := { name := "newBytesFor", desc := "(I)[B", sig := { parameters := [.int], returnType := some (.array .byte) }, accessFlags := 9, code := some k19c1 }
def k19c2 : Code := { maxStack := 4, maxLocals := 1, code := jdk_52_method_3_code, exceptionTable := #[], attributes := #[] }
def k19m2 : Method := { name := "newBytesLength", desc := "(I)I", sig := { parameters := [.int], returnType := some .int }, accessFlags := 9, code := some k19c2 }
def k19c3 : Code := { maxStack := 4, maxLocals := 3, code := jdk_52_method_4_code, exceptionTable := #[], attributes := #[] }
def k19m3 : Method := { name := "putChar", desc := "([BII)V", sig := { parameters := [(.array .byte), .int, .int], returnType := none }, accessFlags := 8, code := some k19c3 }
def k19c4 : Code := { maxStack := 3, maxLocals := 2, code := jdk_52_method_5_code, exceptionTable := #[], attributes := #[] }
def k19m4 : Method := { name := "getChar", desc := "([BI)C", sig := { parameters := [(.array .byte), .int], returnType := some .char }, accessFlags := 8, code := some k19c4 }
def k19c5 : Code := { maxStack := 2, maxLocals := 1, code := jdk_52_method_6_code, exceptionTable := #[], attributes := #[] }
def k19m5 : Method := { name := "length", desc := "([B)I", sig := { parameters := [(.array .byte)], returnType := some .int }, accessFlags := 9, code := some k19c5 }
def k19c6 : Code := { maxStack := 4, maxLocals := 5, code := jdk_52_method_14_code, exceptionTable := #[], attributes := #[] }
def k19m6 : Method := { name := "toBytes", desc := "([CII)[B", sig := { parameters := [(.array .char), .int, .int], returnType := some (.array .byte) }, accessFlags := 9, code := some k19c6 }
def k19c7 : Code := { maxStack := 2, maxLocals := 2, code := jdk_52_method_15_code, exceptionTable := #[], attributes := #[] }
def k19m7 : Method := { name := "coderFromArrayLen", desc := "([BI)B", sig := { parameters := [(.array .byte), .int], returnType := some .byte }, accessFlags := 8, code := some k19c7 }
def k19c8 : Code := { maxStack := 5, maxLocals := 6, code := jdk_52_method_16_code, exceptionTable := #[], attributes := #[] }
def k19m8 : Method := { name := "compress", desc := "([CII)[B", sig := { parameters := [(.array .char), .int, .int], returnType := some (.array .byte) }, accessFlags := 9, code := some k19c8 }
def k19c9 : Code := { maxStack := 3, maxLocals := 7, code := jdk_52_method_21_code, exceptionTable := #[], attributes := #[] }
def k19m9 : Method := { name := "compress", desc := "([CI[BII)I", sig := { parameters := [(.array .char), .int, (.array .byte), .int, .int], returnType := some .int }, accessFlags := 9, code := some k19c9 }
def k19c10 : Code := { maxStack := 4, maxLocals := 6, code := jdk_52_method_86_code, exceptionTable := #[], attributes := #[] }
def k19m10 : Method := { name := "inflate", desc := "([BI[BII)V", sig := { parameters := [(.array .byte), .int, (.array .byte), .int, .int], returnType := none }, accessFlags := 9, code := some k19c10 }
def k19c11 : Code := { maxStack := 3, maxLocals := 3, code := jdk_52_method_94_code, exceptionTable := #[], attributes := #[] }
def k19m11 : Method := { name := "checkBoundsOffCount", desc := "(II[B)V", sig := { parameters := [.int, .int, (.array .byte)], returnType := none }, accessFlags := 9, code := some k19c11 }
/-- java/lang/StringUTF16 -/
def k19 : Class := { plain "java/lang/StringUTF16" (some 0) with
  accessFlags := 48
  interfaces := #[]
  cf := some (fileOf pool19 12 #[.nestMembers #[627, 629, 369]] #[{ accessFlags := 0, nameIndex := 9, descriptorIndex := 10, attributes := #[] }, { accessFlags := 9, nameIndex := 109, descriptorIndex := 110, attributes := #[] }, { accessFlags := 9, nameIndex := 15, descriptorIndex := 16, attributes := #[] }, { accessFlags := 8, nameIndex := 113, descriptorIndex := 114, attributes := #[] }, { accessFlags := 8, nameIndex := 73, descriptorIndex := 74, attributes := #[] }, { accessFlags := 9, nameIndex := 50, descriptorIndex := 51, attributes := #[] }, { accessFlags := 9, nameIndex := 121, descriptorIndex := 122, attributes := #[] }, { accessFlags := 8, nameIndex := 261, descriptorIndex := 262, attributes := #[] }, { accessFlags := 9, nameIndex := 117, descriptorIndex := 122, attributes := #[] }, { accessFlags := 9, nameIndex := 117, descriptorIndex := 118, attributes := #[] }, { accessFlags := 9, nameIndex := 140, descriptorIndex := 141, attributes := #[] }, { accessFlags := 9, nameIndex := 175, descriptorIndex := 99, attributes := #[] }] 48 6 #[] #[{ accessFlags := 26, nameIndex := 61, descriptorIndex := 62, attributes := #[] }, { accessFlags := 26, nameIndex := 65, descriptorIndex := 62, attributes := #[] }, { accessFlags := 24, nameIndex := 430, descriptorIndex := 62, attributes := #[] }, { accessFlags := 4120, nameIndex := 46, descriptorIndex := 47, attributes := #[] }])
  fields := #[{ name := "HI_BYTE_SHIFT", type := .int, accessFlags := 26, slot := 0, constantValue := 0 }, { name := "LO_BYTE_SHIFT", type := .int, accessFlags := 26, slot := 1, constantValue := 0 }, { name := "MAX_LENGTH", type := .int, accessFlags := 24, slot := 2, constantValue := 0 }, { name := "$assertionsDisabled", type := .boolean, accessFlags := 4120, slot := 3, constantValue := 0 }]
  methods := #[k19m0, k19m1, k19m2, k19m3, k19m4, k19m5, k19m6, k19m7, k19m8, k19m9, k19m10, k19m11]
  instanceTypes := #[]
  staticTypes := #[.int, .int, .int, .boolean]
  resolved := Array.replicate 635 none
  statics := some 3 }

def pool20 : Array CpInfo := pool [(4, .class_ 6), (1, u "java/lang/Object"), (0, u "<init>"), (0, u "()V"), (5, .class_ 16), (1, u "java/lang/StringLatin1"), (0, u "inflate"), (2, .class_ 22), (1, u "java/lang/StringUTF16"), (3, .nameAndType 17 27), (0, u "([BI[BII)V"), (93, u "$assertionsDisabled"), (0, u "Z"), (98, .class_ 223), (1, u "java/lang/StringLatin1$LinesSpliterator"), (16, .methodref 20 26), (40, u "equals"), (0, u "([B[B)Z"), (107, .class_ 391), (0, u "java/lang/StringLatin1$CharsSpliterator")] 3

def k20m0 : Method := { name := "<init>", desc := "()V", sig := { parameters := [], returnType := none }, accessFlags := 0, code := none }
def k20c1 : Code := { maxStack := 3, maxLocals := 3, code := jdk_43_method_13_code, exceptionTable := #[], attributes := #[] }
def k20m1 : Method := { name := "equals", desc := "([B[B)Z", sig := { parameters := [(.array .byte), (.array .byte)], returnType := some .boolean }, accessFlags := 9, code := some k20c1 }
def k20c2 : Code := { maxStack := 5, maxLocals := 5, code := jdk_43_method_50_code, exceptionTable := #[], attributes := #[] }
def k20m2 : Method := { name := "inflate", desc := "([BI[BII)V", sig := { parameters := [(.array .byte), .int, (.array .byte), .int, .int], returnType := none }, accessFlags := 9, code := some k20c2 }
/-- java/lang/StringLatin1 -/
def k20 : Class := { plain "java/lang/StringLatin1" (some 0) with
  accessFlags := 48
  interfaces := #[]
  cf := some (fileOf pool20 14 #[.nestMembers #[390, 221]] #[{ accessFlags := 0, nameIndex := 7, descriptorIndex := 8, attributes := #[] }, { accessFlags := 9, nameIndex := 281, descriptorIndex := 282, attributes := #[] }, { accessFlags := 9, nameIndex := 17, descriptorIndex := 27, attributes := #[] }] 48 4 #[] #[{ accessFlags := 4120, nameIndex := 121, descriptorIndex := 122, attributes := #[] }])
  fields := #[{ name := "$assertionsDisabled", type := .boolean, accessFlags := 4120, slot := 0, constantValue := 0 }]
  methods := #[k20m0, k20m1, k20m2]
  instanceTypes := #[]
  staticTypes := #[.boolean]
  resolved := Array.replicate 395 none
  statics := none }

def pool21 : Array CpInfo := pool [(1, .class_ 2), (0, u "java/lang/Math"), (1, .class_ 6), (1, u "java/lang/Object"), (0, u "<init>"), (0, u "()V"), (89, .class_ 100), (1, u "java/lang/Math$RandomNumberGeneratorHolder"), (71, u "negativeZeroFloatBits"), (0, u "J"), (2, u "negativeZeroDoubleBits"), (24, u "min"), (43, u "$assertionsDisabled"), (0, u "Z"), (88, u "(II)I"), (2, u "twoToTheDoubleScaleDown"), (0, u "D"), (4, u "twoToTheDoubleScaleUp"), (9, u "E"), (3, u "PI"), (2, u "TAU"), (2, u "DEGREES_TO_RADIANS"), (0, u "RADIANS_TO_DEGREES")] 94

def k21m0 : Method := { name := "<init>", desc := "()V", sig := { parameters := [], returnType := none }, accessFlags := 2, code := none }
def k21c1 : Code := { maxStack := 2, maxLocals := 2, code := jdk_29_method_69_code, exceptionTable := #[], attributes := #[] }
def k21m1 : Method := { name := "min", desc := "(II)I", sig := { parameters := [.int, .int], returnType := some .int }, accessFlags := 9, code := some k21c1 }
/-- java/lang/Math -/
def k21 : Class := { plain "java/lang/Math" (some 0) with
  accessFlags := 49
  interfaces := #[]
  cf := some (fileOf pool21 1 #[.nestMembers #[98]] #[{ accessFlags := 2, nameIndex := 7, descriptorIndex := 8, attributes := #[] }, { accessFlags := 9, nameIndex := 201, descriptorIndex := 335, attributes := #[] }] 49 4 #[] #[{ accessFlags := 25, nameIndex := 354, descriptorIndex := 339, attributes := #[] }, { accessFlags := 25, nameIndex := 358, descriptorIndex := 339, attributes := #[] }, { accessFlags := 25, nameIndex := 361, descriptorIndex := 339, attributes := #[] }, { accessFlags := 26, nameIndex := 364, descriptorIndex := 339, attributes := #[] }, { accessFlags := 26, nameIndex := 365, descriptorIndex := 339, attributes := #[] }, { accessFlags := 26, nameIndex := 172, descriptorIndex := 173, attributes := #[] }, { accessFlags := 26, nameIndex := 176, descriptorIndex := 173, attributes := #[] }, { accessFlags := 8, nameIndex := 344, descriptorIndex := 339, attributes := #[] }, { accessFlags := 8, nameIndex := 338, descriptorIndex := 339, attributes := #[] }, { accessFlags := 4120, nameIndex := 245, descriptorIndex := 246, attributes := #[] }])
  fields := #[{ name := "E", type := .double, accessFlags := 25, slot := 0, constantValue := 0 }, { name := "PI", type := .double, accessFlags := 25, slot := 1, constantValue := 0 }, { name := "TAU", type := .double, accessFlags := 25, slot := 2, constantValue := 0 }, { name := "DEGREES_TO_RADIANS", type := .double, accessFlags := 26, slot := 3, constantValue := 0 }, { name := "RADIANS_TO_DEGREES", type := .double, accessFlags := 26, slot := 4, constantValue := 0 }, { name := "negativeZeroFloatBits", type := .long, accessFlags := 26, slot := 5, constantValue := 0 }, { name := "negativeZeroDoubleBits", type := .long, accessFlags := 26, slot := 6, constantValue := 0 }, { name := "twoToTheDoubleScaleUp", type := .double, accessFlags := 8, slot := 7, constantValue := 0 }, { name := "twoToTheDoubleScaleDown", type := .double, accessFlags := 8, slot := 8, constantValue := 0 }, { name := "$assertionsDisabled", type := .boolean, accessFlags := 4120, slot := 9, constantValue := 0 }]
  methods := #[k21m0, k21m1]
  instanceTypes := #[]
  staticTypes := #[.double, .double, .double, .double, .double, .long, .long, .double, .double, .boolean]
  resolved := Array.replicate 460 none
  statics := none }

def pool22 : Array CpInfo := pool [(2, .class_ 4), (1, u "java/lang/Object"), (0, u "<init>"), (0, u "()V"), (1, .class_ 10), (1, u "java/lang/System"), (0, u "allowSecurityManager"), (0, u "I"), (16, u "cons"), (0, u "Ljava/io/Console;"), (77, .class_ 110), (1, u "java/lang/System$CallersHolder"), (43, u "initialErrStream"), (0, u "Ljava/io/PrintStream;"), (19, u "security"), (0, u "Ljava/lang/SecurityManager;"), (31, .class_ 209), (0, u "java/lang/System$1"), (7, u "props"), (0, u "Ljava/util/Properties;"), (2, u "lineSeparator"), (0, u "Ljava/lang/String;"), (96, .class_ 321), (1, u "java/lang/System$LoggerFinder"), (5, .class_ 328), (0, u "java/lang/System$Logger"), (67, u "err"), (2, u "out"), (91, u "notSupportedJnuEncoding"), (15, u "in"), (17, u "initialIn"), (0, u "Ljava/io/InputStream;"), (35, u "bootLayer"), (0, u "Ljava/lang/ModuleLayer;"), (99, .class_ 664), (0, u "java/lang/System$2"), (9, u "NEVER"), (2, u "MAYBE"), (49, u "arraycopy"), (0, u "(Ljava/lang/Object;ILjava/lang/Object;II)V"), (72, .class_ 802), (0, u "java/lang/System$Logger$Level")] 31

def k22m0 : Method := { name := "<init>", desc := "()V", sig := { parameters := [], returnType := none }, accessFlags := 2, code := none }
def k22m1 : Method := { name := "arraycopy", desc := "(Ljava/lang/Object;ILjava/lang/Object;II)V", sig := { parameters := [(.object "java/lang/Object"), .int, (.object "java/lang/Object"), .int, .int], returnType := none }, accessFlags := 265, code := none }
/-- java/lang/System -/
def k22 : Class := { plain "java/lang/System" (some 0) with
  accessFlags := 49
  interfaces := #[]
  cf := some (fileOf pool22 8 #[.nestMembers #[319, 327, 801, 108, 663, 208]] #[{ accessFlags := 2, nameIndex := 5, descriptorIndex := 6, attributes := #[] }, { accessFlags := 265, nameIndex := 727, descriptorIndex := 728, attributes := #[] }] 49 2 #[] #[{ accessFlags := 25, nameIndex := 507, descriptorIndex := 526, attributes := #[] }, { accessFlags := 25, nameIndex := 399, descriptorIndex := 155, attributes := #[] }, { accessFlags := 25, nameIndex := 396, descriptorIndex := 155, attributes := #[] }, { accessFlags := 10, nameIndex := 525, descriptorIndex := 526, attributes := #[] }, { accessFlags := 26, nameIndex := 674, descriptorIndex := 12, attributes := #[] }, { accessFlags := 26, nameIndex := 677, descriptorIndex := 12, attributes := #[] }, { accessFlags := 10, nameIndex := 11, descriptorIndex := 12, attributes := #[] }, { accessFlags := 74, nameIndex := 175, descriptorIndex := 176, attributes := #[] }, { accessFlags := 10, nameIndex := 491, descriptorIndex := 222, attributes := #[] }, { accessFlags := 74, nameIndex := 29, descriptorIndex := 30, attributes := #[] }, { accessFlags := 74, nameIndex := 154, descriptorIndex := 155, attributes := #[] }, { accessFlags := 10, nameIndex := 217, descriptorIndex := 218, attributes := #[] }, { accessFlags := 10, nameIndex := 221, descriptorIndex := 222, attributes := #[] }, { accessFlags := 8, nameIndex := 562, descriptorIndex := 563, attributes := #[] }])
  fields := #[{ name := "in", type := (.object "java/io/InputStream"), accessFlags := 25, slot := 0, constantValue := 0 }, { name := "out", type := (.object "java/io/PrintStream"), accessFlags := 25, slot := 1, constantValue := 0 }, { name := "err", type := (.object "java/io/PrintStream"), accessFlags := 25, slot := 2, constantValue := 0 }, { name := "initialIn", type := (.object "java/io/InputStream"), accessFlags := 10, slot := 3, constantValue := 0 }, { name := "NEVER", type := .int, accessFlags := 26, slot := 4, constantValue := 0 }, { name := "MAYBE", type := .int, accessFlags := 26, slot := 5, constantValue := 0 }, { name := "allowSecurityManager", type := .int, accessFlags := 10, slot := 6, constantValue := 0 }, { name := "security", type := (.object "java/lang/SecurityManager"), accessFlags := 74, slot := 7, constantValue := 0 }, { name := "notSupportedJnuEncoding", type := (.object "java/lang/String"), accessFlags := 10, slot := 8, constantValue := 0 }, { name := "cons", type := (.object "java/io/Console"), accessFlags := 74, slot := 9, constantValue := 0 }, { name := "initialErrStream", type := (.object "java/io/PrintStream"), accessFlags := 74, slot := 10, constantValue := 0 }, { name := "props", type := (.object "java/util/Properties"), accessFlags := 10, slot := 11, constantValue := 0 }, { name := "lineSeparator", type := (.object "java/lang/String"), accessFlags := 10, slot := 12, constantValue := 0 }, { name := "bootLayer", type := (.object "java/lang/ModuleLayer"), accessFlags := 8, slot := 13, constantValue := 0 }]
  methods := #[k22m0, k22m1]
  instanceTypes := #[]
  staticTypes := #[(.object "java/io/InputStream"), (.object "java/io/PrintStream"), (.object "java/io/PrintStream"), (.object "java/io/InputStream"), .int, .int, .int, (.object "java/lang/SecurityManager"), (.object "java/lang/String"), (.object "java/io/Console"), (.object "java/io/PrintStream"), (.object "java/util/Properties"), (.object "java/lang/String"), (.object "java/lang/ModuleLayer")]
  resolved := Array.replicate 834 none
  statics := none }

def pool23 : Array CpInfo := pool [(2, .class_ 4), (1, u "java/lang/Object"), (0, u "<init>"), (0, u "()V"), (17, .class_ 26), (1, u "jdk/internal/util/Preconditions"), (22, u "checkFromIndexSize"), (5, .class_ 56), (0, u "jdk/internal/util/Preconditions$4"), (57, .class_ 115), (0, u "jdk/internal/util/Preconditions$1"), (7, u "SIOOBE_FORMATTER"), (0, u "Ljava/util/function/BiFunction;"), (0, .class_ 126), (0, u "jdk/internal/util/Preconditions$2"), (3, u "AIOOBE_FORMATTER"), (0, .class_ 132), (0, u "jdk/internal/util/Preconditions$3"), (3, u "IOOBE_FORMATTER"), (46, u "(IIILjava/util/function/BiFunction;)I")] 10

def k23m0 : Method := { name := "<init>", desc := "()V", sig := { parameters := [], returnType := none }, accessFlags := 1, code := none }
def k23c1 : Code := { maxStack := 4, maxLocals := 4, code := jdk_41_method_13_code, exceptionTable := #[], attributes := #[] }
def k23m1 : Method := { name := "checkFromIndexSize", desc := "(IIILjava/util/function/BiFunction;)I", sig := { parameters := [.int, .int, .int, (.object "java/util/function/BiFunction")], returnType := some .int }, accessFlags := 9, code := some k23c1 }
/-- jdk/internal/util/Preconditions -/
def k23 : Class := { plain "jdk/internal/util/Preconditions" (some 0) with
  accessFlags := 33
  interfaces := #[]
  cf := some (fileOf pool23 24 #[.nestMembers #[55, 131, 125, 114]] #[{ accessFlags := 1, nameIndex := 5, descriptorIndex := 6, attributes := #[] }, { accessFlags := 9, nameIndex := 49, descriptorIndex := 183, attributes := #[] }] 33 2 #[] #[{ accessFlags := 25, nameIndex := 123, descriptorIndex := 124, attributes := #[] }, { accessFlags := 25, nameIndex := 130, descriptorIndex := 124, attributes := #[] }, { accessFlags := 25, nameIndex := 136, descriptorIndex := 124, attributes := #[] }])
  fields := #[{ name := "SIOOBE_FORMATTER", type := (.object "java/util/function/BiFunction"), accessFlags := 25, slot := 0, constantValue := 0 }, { name := "AIOOBE_FORMATTER", type := (.object "java/util/function/BiFunction"), accessFlags := 25, slot := 1, constantValue := 0 }, { name := "IOOBE_FORMATTER", type := (.object "java/util/function/BiFunction"), accessFlags := 25, slot := 2, constantValue := 0 }]
  methods := #[k23m0, k23m1]
  instanceTypes := #[]
  staticTypes := #[(.object "java/util/function/BiFunction"), (.object "java/util/function/BiFunction"), (.object "java/util/function/BiFunction")]
  resolved := Array.replicate 194 none
  statics := some 4 }

def pool24 : Array CpInfo := pool [(1, .class_ 2), (0, u "java/lang/Character"), (18, u "value"), (0, u "C"), (19, .class_ 44), (1, u "java/lang/Object"), (3, .class_ 50), (1, u "java/lang/Character$CharacterCache"), (22, .integer 65536), (0, .integer 1114112), (0, .integer 55296), (0, .integer 56320), (0, .integer 57344), (3, u "(C)Z"), (9, u "(I)C"), (18, .integer 55232), (3, u "(I)Z"), (20, u "lowSurrogate"), (2, u "highSurrogate"), (145, u "$assertionsDisabled"), (0, u "Z"), (21, .class_ 309), (1, u "java/lang/Character$UnicodeBlock"), (73, u "TYPE"), (0, u "Ljava/lang/Class;"), (0, .class_ 386), (0, u "java/io/Serializable"), (0, .class_ 388), (0, u "java/lang/Comparable"), (0, .class_ 390), (0, u "java/lang/constant/Constable"), (0, u "MIN_RADIX"), (0, u "I"), (2, u "MAX_RADIX"), (1, u "MIN_VALUE"), (1, u "MAX_VALUE"), (3, u "UNASSIGNED"), (0, u "B"), (0, u "UPPERCASE_LETTER"), (1, u "LOWERCASE_LETTER"), (0, u "TITLECASE_LETTER"), (1, u "MODIFIER_LETTER"), (1, u "OTHER_LETTER"), (1, u "NON_SPACING_MARK"), (1, u "ENCLOSING_MARK"), (1, u "COMBINING_SPACING_MARK"), (1, u "DECIMAL_DIGIT_NUMBER"), (1, u "LETTER_NUMBER"), (1, u "OTHER_NUMBER"), (1, u "SPACE_SEPARATOR"), (1, u "LINE_SEPARATOR"), (1, u "PARAGRAPH_SEPARATOR"), (1, u "CONTROL"), (1, u "FORMAT"), (1, u "PRIVATE_USE"), (1, u "SURROGATE"), (1, u "DASH_PUNCTUATION"), (1, u "START_PUNCTUATION"), (1, u "END_PUNCTUATION"), (1, u "CONNECTOR_PUNCTUATION"), (1, u "OTHER_PUNCTUATION"), (1, u "MATH_SYMBOL"), (1, u "CURRENCY_SYMBOL"), (1, u "MODIFIER_SYMBOL"), (1, u "OTHER_SYMBOL"), (1, u "INITIAL_QUOTE_PUNCTUATION"), (1, u "FINAL_QUOTE_PUNCTUATION"), (1, u "ERROR"), (1, u "DIRECTIONALITY_UNDEFINED"), (0, u "DIRECTIONALITY_LEFT_TO_RIGHT"), (0, u "DIRECTIONALITY_RIGHT_TO_LEFT"), (0, u "DIRECTIONALITY_RIGHT_TO_LEFT_ARABIC"), (0, u "DIRECTIONALITY_EUROPEAN_NUMBER"), (0, u "DIRECTIONALITY_EUROPEAN_NUMBER_SEPARATOR"), (0, u "DIRECTIONALITY_EUROPEAN_NUMBER_TERMINATOR"), (0, u "DIRECTIONALITY_ARABIC_NUMBER"), (0, u "DIRECTIONALITY_COMMON_NUMBER_SEPARATOR"), (0, u "DIRECTIONALITY_NONSPACING_MARK"), (0, u "DIRECTIONALITY_BOUNDARY_NEUTRAL"), (0, u "DIRECTIONALITY_PARAGRAPH_SEPARATOR"), (0, u "DIRECTIONALITY_SEGMENT_SEPARATOR"), (0, u "DIRECTIONALITY_WHITESPACE"), (0, u "DIRECTIONALITY_OTHER_NEUTRALS"), (0, u "DIRECTIONALITY_LEFT_TO_RIGHT_EMBEDDING"), (0, u "DIRECTIONALITY_LEFT_TO_RIGHT_OVERRIDE"), (0, u "DIRECTIONALITY_RIGHT_TO_LEFT_EMBEDDING"), (0, u "DIRECTIONALITY_RIGHT_TO_LEFT_OVERRIDE"), (1, u "DIRECTIONALITY_POP_DIRECTIONAL_FORMAT"), (0, u "DIRECTIONALITY_LEFT_TO_RIGHT_ISOLATE"), (0, u "DIRECTIONALITY_RIGHT_TO_LEFT_ISOLATE"), (0, u "DIRECTIONALITY_FIRST_STRONG_ISOLATE"), (0, u "DIRECTIONALITY_POP_DIRECTIONAL_ISOLATE"), (0, u "MIN_HIGH_SURROGATE"), (0, u "MAX_HIGH_SURROGATE"), (1, u "MIN_LOW_SURROGATE"), (0, u "MAX_LOW_SURROGATE"), (1, u "MIN_SURROGATE"), (0, u "MAX_SURROGATE"), (0, u "MIN_SUPPLEMENTARY_CODE_POINT"), (0, u "MIN_CODE_POINT"), (0, u "MAX_CODE_POINT"), (1, u "serialVersionUID"), (0, u "J"), (2, u "SIZE"), (0, u "BYTES"), (22, u "isSupplementaryCodePoint"), (1, u "isSurrogate"), (63, .class_ 596), (0, u "java/lang/Character$UnicodeScript"), (0, .class_ 598), (0, u "java/lang/Character$Subset")] 5

def k24c0 : Code := { maxStack := 2, maxLocals := 1, code := jdk_89_method_13_code, exceptionTable := #[], attributes := #[] }
def k24m0 : Method := { name := "isSupplementaryCodePoint", desc := "(I)Z", sig := { parameters := [.int], returnType := some .boolean }, accessFlags := 9, code := some k24c0 }
def k24c1 : Code := { maxStack := 2, maxLocals := 1, code := jdk_89_method_16_code, exceptionTable := #[], attributes := #[] }
def k24m1 : Method := { name := "isSurrogate", desc := "(C)Z", sig := { parameters := [.char], returnType := some .boolean }, accessFlags := 9, code := some k24c1 }
def k24c2 : Code := { maxStack := 2, maxLocals := 1, code := jdk_89_method_28_code, exceptionTable := #[], attributes := #[] }
def k24m2 : Method := { name := "highSurrogate", desc := "(I)C", sig := { parameters := [.int], returnType := some .char }, accessFlags := 9, code := some k24c2 }
def k24c3 : Code := { maxStack := 2, maxLocals := 1, code := jdk_89_method_29_code, exceptionTable := #[], attributes := #[] }
def k24m3 : Method := { name := "lowSurrogate", desc := "(I)C", sig := { parameters := [.int], returnType := some .char }, accessFlags := 9, code := some k24c3 }
/-- java/lang/Character -/
def k24 : Class := { plain "java/lang/Character" (some 0) with
  accessFlags := 49
  interfaces := #[4, 5, 7]
  cf := some (fileOf pool24 1 #[.nestMembers #[48, 595, 307, 597]] #[{ accessFlags := 9, nameIndex := 529, descriptorIndex := 114, attributes := #[] }, { accessFlags := 9, nameIndex := 531, descriptorIndex := 81, attributes := #[] }, { accessFlags := 9, nameIndex := 138, descriptorIndex := 91, attributes := #[] }, { accessFlags := 9, nameIndex := 135, descriptorIndex := 91, attributes := #[] }] 49 42 #[385, 387, 389] #[{ accessFlags := 25, nameIndex := 391, descriptorIndex := 392, attributes := #[] }, { accessFlags := 25, nameIndex := 395, descriptorIndex := 392, attributes := #[] }, { accessFlags := 25, nameIndex := 397, descriptorIndex := 22, attributes := #[] }, { accessFlags := 25, nameIndex := 399, descriptorIndex := 22, attributes := #[] }, { accessFlags := 25, nameIndex := 383, descriptorIndex := 384, attributes := #[] }, { accessFlags := 25, nameIndex := 403, descriptorIndex := 404, attributes := #[] }, { accessFlags := 25, nameIndex := 405, descriptorIndex := 404, attributes := #[] }, { accessFlags := 25, nameIndex := 407, descriptorIndex := 404, attributes := #[] }, { accessFlags := 25, nameIndex := 408, descriptorIndex := 404, attributes := #[] }, { accessFlags := 25, nameIndex := 410, descriptorIndex := 404, attributes := #[] }, { accessFlags := 25, nameIndex := 412, descriptorIndex := 404, attributes := #[] }, { accessFlags := 25, nameIndex := 414, descriptorIndex := 404, attributes := #[] }, { accessFlags := 25, nameIndex := 416, descriptorIndex := 404, attributes := #[] }, { accessFlags := 25, nameIndex := 418, descriptorIndex := 404, attributes := #[] }, { accessFlags := 25, nameIndex := 420, descriptorIndex := 404, attributes := #[] }, { accessFlags := 25, nameIndex := 422, descriptorIndex := 404, attributes := #[] }, { accessFlags := 25, nameIndex := 424, descriptorIndex := 404, attributes := #[] }, { accessFlags := 25, nameIndex := 426, descriptorIndex := 404, attributes := #[] }, { accessFlags := 25, nameIndex := 428, descriptorIndex := 404, attributes := #[] }, { accessFlags := 25, nameIndex := 430, descriptorIndex := 404, attributes := #[] }, { accessFlags := 25, nameIndex := 432, descriptorIndex := 404, attributes := #[] }, { accessFlags := 25, nameIndex := 434, descriptorIndex := 404, attributes := #[] }, { accessFlags := 25, nameIndex := 436, descriptorIndex := 404, attributes := #[] }, { accessFlags := 25, nameIndex := 438, descriptorIndex := 404, attributes := #[] }, { accessFlags := 25, nameIndex := 440, descriptorIndex := 404, attributes := #[] }, { accessFlags := 25, nameIndex := 442, descriptorIndex := 404, attributes := #[] }, { accessFlags := 25, nameIndex := 444, descriptorIndex := 404, attributes := #[] }, { accessFlags := 25, nameIndex := 446, descriptorIndex := 404, attributes := #[] }, { accessFlags := 25, nameIndex := 448, descriptorIndex := 404, attributes := #[] }, { accessFlags := 25, nameIndex := 450, descriptorIndex := 404, attributes := #[] }, { accessFlags := 25, nameIndex := 452, descriptorIndex := 404, attributes := #[] }, { accessFlags := 25, nameIndex := 454, descriptorIndex := 404, attributes := #[] }, { accessFlags := 25, nameIndex := 456, descriptorIndex := 404, attributes := #[] }, { accessFlags := 25, nameIndex := 458, descriptorIndex := 404, attributes := #[] }, { accessFlags := 25, nameIndex := 460, descriptorIndex := 404, attributes := #[] }, { accessFlags := 24, nameIndex := 462, descriptorIndex := 392, attributes := #[] }, { accessFlags := 25, nameIndex := 464, descriptorIndex := 404, attributes := #[] }, { accessFlags := 25, nameIndex := 465, descriptorIndex := 404, attributes := #[] }, { accessFlags := 25, nameIndex := 466, descriptorIndex := 404, attributes := #[] }, { accessFlags := 25, nameIndex := 467, descriptorIndex := 404, attributes := #[] }, { accessFlags := 25, nameIndex := 468, descriptorIndex := 404, attributes := #[] }, { accessFlags := 25, nameIndex := 469, descriptorIndex := 404, attributes := #[] }, { accessFlags := 25, nameIndex := 470, descriptorIndex := 404, attributes := #[] }, { accessFlags := 25, nameIndex := 471, descriptorIndex := 404, attributes := #[] }, { accessFlags := 25, nameIndex := 472, descriptorIndex := 404, attributes := #[] }, { accessFlags := 25, nameIndex := 473, descriptorIndex := 404, attributes := #[] }, { accessFlags := 25, nameIndex := 474, descriptorIndex := 404, attributes := #[] }, { accessFlags := 25, nameIndex := 475, descriptorIndex := 404, attributes := #[] }, { accessFlags := 25, nameIndex := 476, descriptorIndex := 404, attributes := #[] }, { accessFlags := 25, nameIndex := 477, descriptorIndex := 404, attributes := #[] }, { accessFlags := 25, nameIndex := 478, descriptorIndex := 404, attributes := #[] }, { accessFlags := 25, nameIndex := 479, descriptorIndex := 404, attributes := #[] }, { accessFlags := 25, nameIndex := 480, descriptorIndex := 404, attributes := #[] }, { accessFlags := 25, nameIndex := 481, descriptorIndex := 404, attributes := #[] }, { accessFlags := 25, nameIndex := 482, descriptorIndex := 404, attributes := #[] }, { accessFlags := 25, nameIndex := 484, descriptorIndex := 404, attributes := #[] }, { accessFlags := 25, nameIndex := 485, descriptorIndex := 404, attributes := #[] }, { accessFlags := 25, nameIndex := 486, descriptorIndex := 404, attributes := #[] }, { accessFlags := 25, nameIndex := 487, descriptorIndex := 404, attributes := #[] }, { accessFlags := 25, nameIndex := 488, descriptorIndex := 404, attributes := #[] }, { accessFlags := 25, nameIndex := 489, descriptorIndex := 22, attributes := #[] }, { accessFlags := 25, nameIndex := 490, descriptorIndex := 22, attributes := #[] }, { accessFlags := 25, nameIndex := 492, descriptorIndex := 22, attributes := #[] }, { accessFlags := 25, nameIndex := 493, descriptorIndex := 22, attributes := #[] }, { accessFlags := 25, nameIndex := 495, descriptorIndex := 22, attributes := #[] }, { accessFlags := 25, nameIndex := 496, descriptorIndex := 22, attributes := #[] }, { accessFlags := 25, nameIndex := 497, descriptorIndex := 392, attributes := #[] }, { accessFlags := 25, nameIndex := 498, descriptorIndex := 392, attributes := #[] }, { accessFlags := 25, nameIndex := 499, descriptorIndex := 392, attributes := #[] }, { accessFlags := 18, nameIndex := 21, descriptorIndex := 22, attributes := #[] }, { accessFlags := 26, nameIndex := 501, descriptorIndex := 502, attributes := #[] }, { accessFlags := 25, nameIndex := 505, descriptorIndex := 392, attributes := #[] }, { accessFlags := 25, nameIndex := 506, descriptorIndex := 392, attributes := #[] }, { accessFlags := 4120, nameIndex := 284, descriptorIndex := 285, attributes := #[] }])
  fields := #[{ name := "MIN_RADIX", type := .int, accessFlags := 25, slot := 0, constantValue := 0 }, { name := "MAX_RADIX", type := .int, accessFlags := 25, slot := 1, constantValue := 0 }, { name := "MIN_VALUE", type := .char, accessFlags := 25, slot := 2, constantValue := 0 }, { name := "MAX_VALUE", type := .char, accessFlags := 25, slot := 3, constantValue := 0 }, { name := "TYPE", type := (.object "java/lang/Class"), accessFlags := 25, slot := 4, constantValue := 0 }, { name := "UNASSIGNED", type := .byte, accessFlags := 25, slot := 5, constantValue := 0 }, { name := "UPPERCASE_LETTER", type := .byte, accessFlags := 25, slot := 6, constantValue := 0 }, { name := "LOWERCASE_LETTER", type := .byte, accessFlags := 25, slot := 7, constantValue := 0 }, { name := "TITLECASE_LETTER", type := .byte, accessFlags := 25, slot := 8, constantValue := 0 }, { name := "MODIFIER_LETTER", type := .byte, accessFlags := 25, slot := 9, constantValue := 0 }, { name := "OTHER_LETTER", type := .byte, accessFlags := 25, slot := 10, constantValue := 0 }, { name := "NON_SPACING_MARK", type := .byte, accessFlags := 25, slot := 11, constantValue := 0 }, { name := "ENCLOSING_MARK", type := .byte, accessFlags := 25, slot := 12, constantValue := 0 }, { name := "COMBINING_SPACING_MARK", type := .byte, accessFlags := 25, slot := 13, constantValue := 0 }, { name := "DECIMAL_DIGIT_NUMBER", type := .byte, accessFlags := 25, slot := 14, constantValue := 0 }, { name := "LETTER_NUMBER", type := .byte, accessFlags := 25, slot := 15, constantValue := 0 }, { name := "OTHER_NUMBER", type := .byte, accessFlags := 25, slot := 16, constantValue := 0 }, { name := "SPACE_SEPARATOR", type := .byte, accessFlags := 25, slot := 17, constantValue := 0 }, { name := "LINE_SEPARATOR", type := .byte, accessFlags := 25, slot := 18, constantValue := 0 }, { name := "PARAGRAPH_SEPARATOR", type := .byte, accessFlags := 25, slot := 19, constantValue := 0 }, { name := "CONTROL", type := .byte, accessFlags := 25, slot := 20, constantValue := 0 }, { name := "FORMAT", type := .byte, accessFlags := 25, slot := 21, constantValue := 0 }, { name := "PRIVATE_USE", type := .byte, accessFlags := 25, slot := 22, constantValue := 0 }, { name := "SURROGATE", type := .byte, accessFlags := 25, slot := 23, constantValue := 0 }, { name := "DASH_PUNCTUATION", type := .byte, accessFlags := 25, slot := 24, constantValue := 0 }, { name := "START_PUNCTUATION", type := .byte, accessFlags := 25, slot := 25, constantValue := 0 }, { name := "END_PUNCTUATION", type := .byte, accessFlags := 25, slot := 26, constantValue := 0 }, { name := "CONNECTOR_PUNCTUATION", type := .byte, accessFlags := 25, slot := 27, constantValue := 0 }, { name := "OTHER_PUNCTUATION", type := .byte, accessFlags := 25, slot := 28, constantValue := 0 }, { name := "MATH_SYMBOL", type := .byte, accessFlags := 25, slot := 29, constantValue := 0 }, { name := "CURRENCY_SYMBOL", type := .byte, accessFlags := 25, slot := 30, constantValue := 0 }, { name := "MODIFIER_SYMBOL", type := .byte, accessFlags := 25, slot := 31, constantValue := 0 }, { name := "OTHER_SYMBOL", type := .byte, accessFlags := 25, slot := 32, constantValue := 0 }, { name := "INITIAL_QUOTE_PUNCTUATION", type := .byte, accessFlags := 25, slot := 33, constantValue := 0 }, { name := "FINAL_QUOTE_PUNCTUATION", type := .byte, accessFlags := 25, slot := 34, constantValue := 0 }, { name := "ERROR", type := .int, accessFlags := 24, slot := 35, constantValue := 0 }, { name := "DIRECTIONALITY_UNDEFINED", type := .byte, accessFlags := 25, slot := 36, constantValue := 0 }, { name := "DIRECTIONALITY_LEFT_TO_RIGHT", type := .byte, accessFlags := 25, slot := 37, constantValue := 0 }, { name := "DIRECTIONALITY_RIGHT_TO_LEFT", type := .byte, accessFlags := 25, slot := 38, constantValue := 0 }, { name := "DIRECTIONALITY_RIGHT_TO_LEFT_ARABIC", type := .byte, accessFlags := 25, slot := 39, constantValue := 0 }, { name := "DIRECTIONALITY_EUROPEAN_NUMBER", type := .byte, accessFlags := 25, slot := 40, constantValue := 0 }, { name := "DIRECTIONALITY_EUROPEAN_NUMBER_SEPARATOR", type := .byte, accessFlags := 25, slot := 41, constantValue := 0 }, { name := "DIRECTIONALITY_EUROPEAN_NUMBER_TERMINATOR", type := .byte, accessFlags := 25, slot := 42, constantValue := 0 }, { name := "DIRECTIONALITY_ARABIC_NUMBER", type := .byte, accessFlags := 25, slot := 43, constantValue := 0 }, { name := "DIRECTIONALITY_COMMON_NUMBER_SEPARATOR", type := .byte, accessFlags := 25, slot := 44, constantValue := 0 }, { name := "DIRECTIONALITY_NONSPACING_MARK", type := .byte, accessFlags := 25, slot := 45, constantValue := 0 }, { name := "DIRECTIONALITY_BOUNDARY_NEUTRAL", type := .byte, accessFlags := 25, slot := 46, constantValue := 0 }, { name := "DIRECTIONALITY_PARAGRAPH_SEPARATOR", type := .byte, accessFlags := 25, slot := 47, constantValue := 0 }, { name := "DIRECTIONALITY_SEGMENT_SEPARATOR", type := .byte, accessFlags := 25, slot := 48, constantValue := 0 }, { name := "DIRECTIONALITY_WHITESPACE", type := .byte, accessFlags := 25, slot := 49, constantValue := 0 }, { name := "DIRECTIONALITY_OTHER_NEUTRALS", type := .byte, accessFlags := 25, slot := 50, constantValue := 0 }, { name := "DIRECTIONALITY_LEFT_TO_RIGHT_EMBEDDING", type := .byte, accessFlags := 25, slot := 51, constantValue := 0 }, { name := "DIRECTIONALITY_LEFT_TO_RIGHT_OVERRIDE", type := .byte, accessFlags := 25, slot := 52, constantValue := 0 }, { name := "DIRECTIONALITY_RIGHT_TO_LEFT_EMBEDDING", type := .byte, accessFlags := 25, slot := 53, constantValue := 0 }, { name := "DIRECTIONALITY_RIGHT_TO_LEFT_OVERRIDE", type := .byte, accessFlags := 25, slot := 54, constantValue := 0 }, { name := "DIRECTIONALITY_POP_DIRECTIONAL_FORMAT", type := .byte, accessFlags := 25, slot := 55, constantValue := 0 }, { name := "DIRECTIONALITY_LEFT_TO_RIGHT_ISOLATE", type := .byte, accessFlags := 25, slot := 56, constantValue := 0 }, { name := "DIRECTIONALITY_RIGHT_TO_LEFT_ISOLATE", type := .byte, accessFlags := 25, slot := 57, constantValue := 0 }, { name := "DIRECTIONALITY_FIRST_STRONG_ISOLATE", type := .byte, accessFlags := 25, slot := 58, constantValue := 0 }, { name := "DIRECTIONALITY_POP_DIRECTIONAL_ISOLATE", type := .byte, accessFlags := 25, slot := 59, constantValue := 0 }, { name := "MIN_HIGH_SURROGATE", type := .char, accessFlags := 25, slot := 60, constantValue := 0 }, { name := "MAX_HIGH_SURROGATE", type := .char, accessFlags := 25, slot := 61, constantValue := 0 }, { name := "MIN_LOW_SURROGATE", type := .char, accessFlags := 25, slot := 62, constantValue := 0 }, { name := "MAX_LOW_SURROGATE", type := .char, accessFlags := 25, slot := 63, constantValue := 0 }, { name := "MIN_SURROGATE", type := .char, accessFlags := 25, slot := 64, constantValue := 0 }, { name := "MAX_SURROGATE", type := .char, accessFlags := 25, slot := 65, constantValue := 0 }, { name := "MIN_SUPPLEMENTARY_CODE_POINT", type := .int, accessFlags := 25, slot := 66, constantValue := 0 }, { name := "MIN_CODE_POINT", type := .int, accessFlags := 25, slot := 67, constantValue := 0 }, { name := "MAX_CODE_POINT", type := .int, accessFlags := 25, slot := 68, constantValue := 0 }, { name := "value", type := .char, accessFlags := 18, slot := 0, constantValue := 0 }, { name := "serialVersionUID", type := .long, accessFlags := 26, slot := 69, constantValue := 0 }, { name := "SIZE", type := .int, accessFlags := 25, slot := 70, constantValue := 0 }, { name := "BYTES", type := .int, accessFlags := 25, slot := 71, constantValue := 0 }, { name := "$assertionsDisabled", type := .boolean, accessFlags := 4120, slot := 72, constantValue := 0 }]
  methods := #[k24m0, k24m1, k24m2, k24m3]
  instanceTypes := #[.char]
  staticTypes := #[.int, .int, .char, .char, (.object "java/lang/Class"), .byte, .byte, .byte, .byte, .byte, .byte, .byte, .byte, .byte, .byte, .byte, .byte, .byte, .byte, .byte, .byte, .byte, .byte, .byte, .byte, .byte, .byte, .byte, .byte, .byte, .byte, .byte, .byte, .byte, .byte, .int, .byte, .byte, .byte, .byte, .byte, .byte, .byte, .byte, .byte, .byte, .byte, .byte, .byte, .byte, .byte, .byte, .byte, .byte, .byte, .byte, .byte, .byte, .byte, .byte, .char, .char, .char, .char, .char, .char, .int, .int, .int, .long, .int, .int, .boolean]
  resolved := Array.replicate 604 none
  statics := none }

def pool25 : Array CpInfo := pool [(9, u "<init>"), (6, .class_ 18), (1, u "java/lang/Object"), (0, u "()V"), (1, .class_ 23), (1, u "jdk/internal/util/ArraysSupport"), (0, u "LOG2_ARRAY_LONG_INDEX_SCALE"), (0, u "I"), (2, u "U"), (0, u "Ljdk/internal/misc/Unsafe;"), (8, u "BIG_ENDIAN"), (0, u "Z"), (8, u "LOG2_BYTE_BIT_SIZE"), (4, u "LOG2_ARRAY_INT_INDEX_SCALE"), (54, u "JLA"), (0, u "Ljdk/internal/access/JavaLangAccess;"), (11, u "LOG2_ARRAY_BOOLEAN_INDEX_SCALE"), (9, u "LOG2_ARRAY_BYTE_INDEX_SCALE"), (5, u "LOG2_ARRAY_CHAR_INDEX_SCALE"), (5, u "LOG2_ARRAY_SHORT_INDEX_SCALE"), (18, u "LOG2_ARRAY_FLOAT_INDEX_SCALE"), (24, u "LOG2_ARRAY_DOUBLE_INDEX_SCALE"), (89, u "T_BOOLEAN"), (2, u "T_CHAR"), (1, u "T_FLOAT"), (1, u "T_DOUBLE"), (1, u "T_BYTE"), (1, u "T_SHORT"), (1, u "T_INT"), (1, u "T_LONG"), (1, u "SOFT_MAX_ARRAY_LENGTH")] 83

def k25m0 : Method := { name := "<init>", desc := "()V", sig := { parameters := [], returnType := none }, accessFlags := 2, code := none }
/-- jdk/internal/util/ArraysSupport -/
def k25 : Class := { plain "jdk/internal/util/ArraysSupport" (some 0) with
  accessFlags := 33
  interfaces := #[]
  cf := some (fileOf pool25 21 #[] #[{ accessFlags := 2, nameIndex := 9, descriptorIndex := 19, attributes := #[] }] 33 16 #[] #[{ accessFlags := 24, nameIndex := 28, descriptorIndex := 29, attributes := #[] }, { accessFlags := 26, nameIndex := 38, descriptorIndex := 39, attributes := #[] }, { accessFlags := 25, nameIndex := 121, descriptorIndex := 25, attributes := #[] }, { accessFlags := 25, nameIndex := 131, descriptorIndex := 25, attributes := #[] }, { accessFlags := 25, nameIndex := 137, descriptorIndex := 25, attributes := #[] }, { accessFlags := 25, nameIndex := 143, descriptorIndex := 25, attributes := #[] }, { accessFlags := 25, nameIndex := 53, descriptorIndex := 25, attributes := #[] }, { accessFlags := 25, nameIndex := 24, descriptorIndex := 25, attributes := #[] }, { accessFlags := 25, nameIndex := 162, descriptorIndex := 25, attributes := #[] }, { accessFlags := 25, nameIndex := 187, descriptorIndex := 25, attributes := #[] }, { accessFlags := 26, nameIndex := 48, descriptorIndex := 25, attributes := #[] }, { accessFlags := 25, nameIndex := 277, descriptorIndex := 25, attributes := #[] }, { accessFlags := 25, nameIndex := 280, descriptorIndex := 25, attributes := #[] }, { accessFlags := 25, nameIndex := 282, descriptorIndex := 25, attributes := #[] }, { accessFlags := 25, nameIndex := 284, descriptorIndex := 25, attributes := #[] }, { accessFlags := 25, nameIndex := 286, descriptorIndex := 25, attributes := #[] }, { accessFlags := 25, nameIndex := 288, descriptorIndex := 25, attributes := #[] }, { accessFlags := 25, nameIndex := 290, descriptorIndex := 25, attributes := #[] }, { accessFlags := 25, nameIndex := 292, descriptorIndex := 25, attributes := #[] }, { accessFlags := 26, nameIndex := 108, descriptorIndex := 109, attributes := #[] }, { accessFlags := 25, nameIndex := 294, descriptorIndex := 25, attributes := #[] }])
  fields := #[{ name := "U", type := (.object "jdk/internal/misc/Unsafe"), accessFlags := 24, slot := 0, constantValue := 0 }, { name := "BIG_ENDIAN", type := .boolean, accessFlags := 26, slot := 1, constantValue := 0 }, { name := "LOG2_ARRAY_BOOLEAN_INDEX_SCALE", type := .int, accessFlags := 25, slot := 2, constantValue := 0 }, { name := "LOG2_ARRAY_BYTE_INDEX_SCALE", type := .int, accessFlags := 25, slot := 3, constantValue := 0 }, { name := "LOG2_ARRAY_CHAR_INDEX_SCALE", type := .int, accessFlags := 25, slot := 4, constantValue := 0 }, { name := "LOG2_ARRAY_SHORT_INDEX_SCALE", type := .int, accessFlags := 25, slot := 5, constantValue := 0 }, { name := "LOG2_ARRAY_INT_INDEX_SCALE", type := .int, accessFlags := 25, slot := 6, constantValue := 0 }, { name := "LOG2_ARRAY_LONG_INDEX_SCALE", type := .int, accessFlags := 25, slot := 7, constantValue := 0 }, { name := "LOG2_ARRAY_FLOAT_INDEX_SCALE", type := .int, accessFlags := 25, slot := 8, constantValue := 0 }, { name := "LOG2_ARRAY_DOUBLE_INDEX_SCALE", type := .int, accessFlags := 25, slot := 9, constantValue := 0 }, { name := "LOG2_BYTE_BIT_SIZE", type := .int, accessFlags := 26, slot := 10, constantValue := 0 }, { name := "T_BOOLEAN", type := .int, accessFlags := 25, slot := 11, constantValue := 0 }, { name := "T_CHAR", type := .int, accessFlags := 25, slot := 12, constantValue := 0 }, { name := "T_FLOAT", type := .int, accessFlags := 25, slot := 13, constantValue := 0 }, { name := "T_DOUBLE", type := .int, accessFlags := 25, slot := 14, constantValue := 0 }, { name := "T_BYTE", type := .int, accessFlags := 25, slot := 15, constantValue := 0 }, { name := "T_SHORT", type := .int, accessFlags := 25, slot := 16, constantValue := 0 }, { name := "T_INT", type := .int, accessFlags := 25, slot := 17, constantValue := 0 }, { name := "T_LONG", type := .int, accessFlags := 25, slot := 18, constantValue := 0 }, { name := "JLA", type := (.object "jdk/internal/access/JavaLangAccess"), accessFlags := 26, slot := 19, constantValue := 0 }, { name := "SOFT_MAX_ARRAY_LENGTH", type := .int, accessFlags := 25, slot := 20, constantValue := 0 }]
  methods := #[k25m0]
  instanceTypes := #[]
  staticTypes := #[(.object "jdk/internal/misc/Unsafe"), .boolean, .int, .int, .int, .int, .int, .int, .int, .int, .int, .int, .int, .int, .int, .int, .int, .int, .int, (.object "jdk/internal/access/JavaLangAccess"), .int]
  resolved := Array.replicate 378 none
  statics := none }

/-- the primitive byte -/
def k26 : Class := { plain "byte" none with kind := .primitive 'B', accessFlags := 0x411 }
/-- [B -/
def k27 : Class := { plain "[B" (some 0) with kind := .array 26 .byte, interfaces := #[18, 4], accessFlags := 1041 }

/-- the primitive char -/
def k28 : Class := { plain "char" none with kind := .primitive 'C', accessFlags := 0x411 }
/-- [C -/
def k29 : Class := { plain "[C" (some 0) with kind := .array 28 .char, interfaces := #[18, 4], accessFlags := 1041 }

/-- the primitive int -/
def k30 : Class := { plain "int" none with kind := .primitive 'I', accessFlags := 0x411 }
/-- [I -/
def k31 : Class := { plain "[I" (some 0) with kind := .array 30 .int, interfaces := #[18, 4], accessFlags := 1041 }

def heap : Heap := #[{ cls := 9, slots := #[.long 0, .int 1, .null, .int 0, .null, .int 0, .int 0], vm := .statics 9 },
  { cls := 10, slots := #[.null, .null, .ref 5, .null, .null, .null], vm := .statics 10 },
  { cls := 15, slots := #[.ref 5, .null], vm := .statics 15 },
  { cls := 19, slots := #[.int 0, .int 8, .int 0, .int 1], vm := .statics 19 },
  { cls := 23, slots := #[.null, .null, .null], vm := .statics 23 },
  { cls := 15, slots := #[.null, .null, .null], vm := .none }]
def classes : Array Class := #[k0, k1, k2, k3, k4, k5, k6, k7, k8, k9, k10, k11, k12, k13, k14, k15, k16, k17, k18, k19, k20, k21, k22, k23, k24, k25, k26, k27, k28, k29, k30, k31]
def interned : List (Array UInt16 × Addr) := []
def slotsUsed : Nat := 25
def theMethod : MethodId := ⟨1, 1⟩
def args0 : Array Value := #[.int 8364, .int 200, .int 3]
def aboutOver (below : List Frame) : State where
  vm := { classes := classes, interned := interned.toArray }
  heap := heap
  slotsUsed := slotsUsed
  threads := #[{ frames := .invoking theMethod args0 :: below }]
def below0 : List Frame := [.native { method := ⟨0, 0⟩, args := #[] }]
def about1 : State := aboutOver below0
def p0 : Program := .bare "" "" ""
def e0 : Env := launch0.env 0 0 0
theorem w_frames : about1.frames = Frame.invoking theMethod args0 :: below0 := rfl
set_option maxRecDepth 65536 in
theorem w_args : argsFit about1.vm theMethod args0 = true := by decide +kernel
set_option maxRecDepth 65536 in
theorem w_heap : heapFits about1 = true := by decide +kernel
set_option maxRecDepth 65536 in
theorem w_runnable : about1.curStatus? = some .runnable := by decide +kernel
set_option maxRecDepth 65536 in
theorem w_alone : about1.alone = true := by decide +kernel
set_option maxRecDepth 65536 in
theorem w_named : about1.methodNamed? x = some theMethod := by decide +kernel
set_option maxRecDepth 65536 in
theorem w_hears : about1.hears theMethod below0 = true := by decide +kernel
set_option maxRecDepth 65536 in
theorem w_ripe : about1.ripe theMethod args0 below0 = true := by decide +kernel
theorem w_running : about1.status = .running := rfl
set_option maxRecDepth 65536 in
theorem w_room : about1.hasRoom e0.platform room_1 = true :=
  launch0.hasRoom_least _ room_1 (by decide +kernel) (by decide +kernel) (by decide +kernel) (by decide +kernel) (by decide +kernel) (by decide +kernel)
theorem allAtoms_all (ts : List Jvm.Cond) (a : Array Jvm.Value) (st : Jvm.State) : (allAtoms ts).before a st = ts.all (fun c => c.before a st) := by
  induction ts with
  | nil => rfl
  | cons c t ih =>
    show (Jvm.Cond.and c (allAtoms t)).before a st = _
    rw [Jvm.Cond.before_and, ih, List.all_cons]
def words1 : List Jvm.Cond := Jvm.Cond.code x code maxLocals ret :: tables_1
/-- a 'code' word, met by the world's own term for the bytes: nothing is compared byte by byte -/
theorem code_word {y : MethodName} {bytes : ByteArray} {mx : Nat} {rt : Option FieldType} {a : Array Value} {s : State} {m : MethodId} {meth : Method} {c : Code} (h1 : s.methodNamed? y = some m) (h2 : s.vm.method? m = some meth) (h3 : meth.code = some c) (h4 : c.code = bytes)
    (h5 : (c.maxLocals == mx && c.exceptionTable.isEmpty && decide (c.maxStack ≤ mostOperands) && decide (meth.sig.returnType = rt) && !meth.locks && decide (parseMethodDescriptor y.desc = some meth.sig)) = true) : (Jvm.Cond.code y bytes mx rt).before a s = true := by
  simp only [Bool.and_eq_true, beq_iff_eq, Bool.not_eq_true', decide_eq_true_eq] at h5
  obtain ⟨⟨⟨⟨⟨g1, g2⟩, g3⟩, g4⟩, g5⟩, g6⟩ := h5
  simp [Cond.before, Cond.holds, Cond.value, h1, h2, h3, h4, g1, g2, g3, g4, g5, g6]
def isCode : Jvm.Cond → Bool
  | .code _ _ _ _ => true
  | .codeWith _ _ _ _ _ => true
  | _ => false
theorem all_split {L : List Jvm.Cond} {P : Jvm.Cond → Bool} (h1 : L.all (fun c => isCode c || P c) = true) (h2 : ∀ c ∈ L.filter isCode, P c = true) : L.all P = true := by
  refine List.all_eq_true.mpr fun c hc => ?_
  have h := List.all_eq_true.mp h1 c hc
  rcases Bool.eq_false_or_eq_true (isCode c) with hi | hi
  · exact h2 c (List.mem_filter.mpr ⟨hc, hi⟩)
  · simpa [hi] using h
set_option maxRecDepth 65536 in
theorem w_c0 : (Jvm.Cond.code x code maxLocals ret).before args0 about1 = true := code_word (m := ⟨1, 1⟩) (meth := k1m1) (c := k1c1) (by decide +kernel) rfl rfl rfl (by decide +kernel)
set_option maxRecDepth 65536 in
theorem w_c1 : (Jvm.Cond.code ({ cls := "com/example/gatewarden/gatewarden/bench/HttpConnections$Response", name := "<init>", desc := "(ILjava/util/Map;[B)V" } : Jvm.MethodName) prog_5_method_1_code (4 : Nat) (Option.none : Option Jvm.ClassFile.FieldType)).before args0 about1 = true := code_word (m := ⟨3, 0⟩) (meth := k3m0) (c := k3c0) (by decide +kernel) rfl rfl rfl (by decide +kernel)
set_option maxRecDepth 65536 in
theorem w_c2 : (Jvm.Cond.code ({ cls := "java/lang/Record", name := "<init>", desc := "()V" } : Jvm.MethodName) jdk_30_method_1_code (1 : Nat) (Option.none : Option Jvm.ClassFile.FieldType)).before args0 about1 = true := code_word (m := ⟨2, 0⟩) (meth := k2m0) (c := k2c0) (by decide +kernel) rfl rfl rfl (by decide +kernel)
set_option maxRecDepth 65536 in
theorem w_c3 : (Jvm.Cond.code ({ cls := "java/lang/Object", name := "<init>", desc := "()V" } : Jvm.MethodName) object_method_1_code (1 : Nat) (Option.none : Option Jvm.ClassFile.FieldType)).before args0 about1 = true := code_word (m := ⟨0, 0⟩) (meth := k0m0) (c := k0c0) (by decide +kernel) rfl rfl rfl (by decide +kernel)
set_option maxRecDepth 65536 in
theorem w_c4 : (Jvm.Cond.code ({ cls := "com/example/gatewarden/gatewarden/bench/HttpConnections$Response", name := "text", desc := "()Ljava/lang/String;" } : Jvm.MethodName) prog_5_method_2_code (1 : Nat) (Option.some (Jvm.ClassFile.FieldType.object "java/lang/String"))).before args0 about1 = true := code_word (m := ⟨3, 1⟩) (meth := k3m1) (c := k3c1) (by decide +kernel) rfl rfl rfl (by decide +kernel)
set_option maxRecDepth 65536 in
theorem w_c5 : (Jvm.Cond.code ({ cls := "java/lang/String", name := "<init>", desc := "([BLjava/nio/charset/Charset;)V" } : Jvm.MethodName) jdk_42_method_49_code (3 : Nat) (Option.none : Option Jvm.ClassFile.FieldType)).before args0 about1 = true := code_word (m := ⟨9, 10⟩) (meth := k9m10) (c := k9c10) (by decide +kernel) rfl rfl rfl (by decide +kernel)
set_option maxRecDepth 65536 in
theorem w_c6 : (Jvm.Cond.code ({ cls := "java/util/Objects", name := "requireNonNull", desc := "(Ljava/lang/Object;)Ljava/lang/Object;" } : Jvm.MethodName) jdk_31_method_10_code (1 : Nat) (Option.some (Jvm.ClassFile.FieldType.object "java/lang/Object"))).before args0 about1 = true := code_word (m := ⟨11, 1⟩) (meth := k11m1) (c := k11c1) (by decide +kernel) rfl rfl rfl (by decide +kernel)
set_option maxRecDepth 65536 in
theorem w_c7 : (Jvm.Cond.code ({ cls := "java/lang/StringCoding", name := "countPositives", desc := "([BII)I" } : Jvm.MethodName) jdk_123_method_3_code (5 : Nat) (Option.some Jvm.ClassFile.FieldType.int)).before args0 about1 = true := code_word (m := ⟨16, 1⟩) (meth := k16m1) (c := k16c1) (by decide +kernel) rfl rfl rfl (by decide +kernel)
set_option maxRecDepth 65536 in
theorem w_c8 : (Jvm.Cond.code ({ cls := "java/util/Arrays", name := "copyOfRange", desc := "([BII)[B" } : Jvm.MethodName) jdk_65_method_132_code (3 : Nat) (Option.some (Jvm.ClassFile.FieldType.array Jvm.ClassFile.FieldType.byte))).before args0 about1 = true := code_word (m := ⟨17, 2⟩) (meth := k17m2) (c := k17c2) (by decide +kernel) rfl rfl rfl (by decide +kernel)
set_option maxRecDepth 65536 in
theorem w_c9 : (Jvm.Cond.code ({ cls := "java/lang/String", name := "<init>", desc := "([C)V" } : Jvm.MethodName) jdk_42_method_3_code (2 : Nat) (Option.none : Option Jvm.ClassFile.FieldType)).before args0 about1 = true := code_word (m := ⟨9, 1⟩) (meth := k9m1) (c := k9c1) (by decide +kernel) rfl rfl rfl (by decide +kernel)
set_option maxRecDepth 65536 in
theorem w_c10 : (Jvm.Cond.code ({ cls := "java/lang/String", name := "<init>", desc := "([CIILjava/lang/Void;)V" } : Jvm.MethodName) jdk_42_method_149_code (6 : Nat) (Option.none : Option Jvm.ClassFile.FieldType)).before args0 about1 = true := code_word (m := ⟨9, 12⟩) (meth := k9m12) (c := k9c12) (by decide +kernel) rfl rfl rfl (by decide +kernel)
set_option maxRecDepth 65536 in
theorem w_c11 : (Jvm.Cond.code ({ cls := "java/lang/StringUTF16", name := "compress", desc := "([CII)[B" } : Jvm.MethodName) jdk_52_method_16_code (6 : Nat) (Option.some (Jvm.ClassFile.FieldType.array Jvm.ClassFile.FieldType.byte))).before args0 about1 = true := code_word (m := ⟨19, 8⟩) (meth := k19m8) (c := k19c8) (by decide +kernel) rfl rfl rfl (by decide +kernel)
set_option maxRecDepth 65536 in
theorem w_c12 : (Jvm.Cond.code ({ cls := "java/lang/StringUTF16", name := "compress", desc := "([CI[BII)I" } : Jvm.MethodName) jdk_52_method_21_code (7 : Nat) (Option.some Jvm.ClassFile.FieldType.int)).before args0 about1 = true := code_word (m := ⟨19, 9⟩) (meth := k19m9) (c := k19c9) (by decide +kernel) rfl rfl rfl (by decide +kernel)
set_option maxRecDepth 65536 in
theorem w_c13 : (Jvm.Cond.code ({ cls := "java/lang/StringUTF16", name := "coderFromArrayLen", desc := "([BI)B" } : Jvm.MethodName) jdk_52_method_15_code (2 : Nat) (Option.some Jvm.ClassFile.FieldType.byte)).before args0 about1 = true := code_word (m := ⟨19, 7⟩) (meth := k19m7) (c := k19c7) (by decide +kernel) rfl rfl rfl (by decide +kernel)
set_option maxRecDepth 65536 in
theorem w_c14 : (Jvm.Cond.code ({ cls := "java/lang/String", name := "equals", desc := "(Ljava/lang/Object;)Z" } : Jvm.MethodName) jdk_42_method_66_code (3 : Nat) (Option.some Jvm.ClassFile.FieldType.boolean)).before args0 about1 = true := code_word (m := ⟨9, 11⟩) (meth := k9m11) (c := k9c11) (by decide +kernel) rfl rfl rfl (by decide +kernel)
set_option maxRecDepth 65536 in
theorem w_c15 : (Jvm.Cond.code ({ cls := "java/lang/StringLatin1", name := "equals", desc := "([B[B)Z" } : Jvm.MethodName) jdk_43_method_13_code (3 : Nat) (Option.some Jvm.ClassFile.FieldType.boolean)).before args0 about1 = true := code_word (m := ⟨20, 1⟩) (meth := k20m1) (c := k20c1) (by decide +kernel) rfl rfl rfl (by decide +kernel)
set_option maxRecDepth 65536 in
theorem w_c16 : (Jvm.Cond.code ({ cls := "java/lang/String", name := "decode2", desc := "(II)C" } : Jvm.MethodName) jdk_42_method_35_code (2 : Nat) (Option.some Jvm.ClassFile.FieldType.char)).before args0 about1 = true := code_word (m := ⟨9, 6⟩) (meth := k9m6) (c := k9c6) (by decide +kernel) rfl rfl rfl (by decide +kernel)
set_option maxRecDepth 65536 in
theorem w_c17 : (Jvm.Cond.code ({ cls := "java/util/Arrays", name := "copyOf", desc := "([BI)[B" } : Jvm.MethodName) jdk_65_method_121_code (3 : Nat) (Option.some (Jvm.ClassFile.FieldType.array Jvm.ClassFile.FieldType.byte))).before args0 about1 = true := code_word (m := ⟨17, 1⟩) (meth := k17m1) (c := k17c1) (by decide +kernel) rfl rfl rfl (by decide +kernel)
set_option maxRecDepth 65536 in
theorem w_c18 : (Jvm.Cond.code ({ cls := "java/lang/Math", name := "min", desc := "(II)I" } : Jvm.MethodName) jdk_29_method_69_code (2 : Nat) (Option.some Jvm.ClassFile.FieldType.int)).before args0 about1 = true := code_word (m := ⟨21, 1⟩) (meth := k21m1) (c := k21c1) (by decide +kernel) rfl rfl rfl (by decide +kernel)
set_option maxRecDepth 65536 in
theorem w_c19 : (Jvm.Cond.code ({ cls := "java/lang/StringUTF16", name := "newBytesFor", desc := "(I)[B" } : Jvm.MethodName) jdk_52_method_2_code (1 : Nat) (Option.some (Jvm.ClassFile.FieldType.array Jvm.ClassFile.FieldType.byte))).before args0 about1 = true := code_word (m := ⟨19, 1⟩) (meth := k19m1) (c := k19c1) (by decide +kernel) rfl rfl rfl (by decide +kernel)
set_option maxRecDepth 65536 in
theorem w_c20 : (Jvm.Cond.code ({ cls := "java/lang/StringUTF16", name := "newBytesLength", desc := "(I)I" } : Jvm.MethodName) jdk_52_method_3_code (1 : Nat) (Option.some Jvm.ClassFile.FieldType.int)).before args0 about1 = true := code_word (m := ⟨19, 2⟩) (meth := k19m2) (c := k19c2) (by decide +kernel) rfl rfl rfl (by decide +kernel)
set_option maxRecDepth 65536 in
theorem w_c21 : (Jvm.Cond.code ({ cls := "java/lang/StringLatin1", name := "inflate", desc := "([BI[BII)V" } : Jvm.MethodName) jdk_43_method_50_code (5 : Nat) (Option.none : Option Jvm.ClassFile.FieldType)).before args0 about1 = true := code_word (m := ⟨20, 2⟩) (meth := k20m2) (c := k20c2) (by decide +kernel) rfl rfl rfl (by decide +kernel)
set_option maxRecDepth 65536 in
theorem w_c22 : (Jvm.Cond.code ({ cls := "java/lang/StringUTF16", name := "inflate", desc := "([BI[BII)V" } : Jvm.MethodName) jdk_52_method_86_code (6 : Nat) (Option.none : Option Jvm.ClassFile.FieldType)).before args0 about1 = true := code_word (m := ⟨19, 10⟩) (meth := k19m10) (c := k19c10) (by decide +kernel) rfl rfl rfl (by decide +kernel)
set_option maxRecDepth 65536 in
theorem w_c23 : (Jvm.Cond.code ({ cls := "java/lang/StringUTF16", name := "checkBoundsOffCount", desc := "(II[B)V" } : Jvm.MethodName) jdk_52_method_94_code (3 : Nat) (Option.none : Option Jvm.ClassFile.FieldType)).before args0 about1 = true := code_word (m := ⟨19, 11⟩) (meth := k19m11) (c := k19c11) (by decide +kernel) rfl rfl rfl (by decide +kernel)
set_option maxRecDepth 65536 in
theorem w_c24 : (Jvm.Cond.code ({ cls := "java/lang/StringUTF16", name := "length", desc := "([B)I" } : Jvm.MethodName) jdk_52_method_6_code (1 : Nat) (Option.some Jvm.ClassFile.FieldType.int)).before args0 about1 = true := code_word (m := ⟨19, 5⟩) (meth := k19m5) (c := k19c5) (by decide +kernel) rfl rfl rfl (by decide +kernel)
set_option maxRecDepth 65536 in
theorem w_c25 : (Jvm.Cond.code ({ cls := "java/lang/String", name := "checkBoundsOffCount", desc := "(III)I" } : Jvm.MethodName) jdk_42_method_157_code (3 : Nat) (Option.some Jvm.ClassFile.FieldType.int)).before args0 about1 = true := code_word (m := ⟨9, 13⟩) (meth := k9m13) (c := k9c13) (by decide +kernel) rfl rfl rfl (by decide +kernel)
set_option maxRecDepth 65536 in
theorem w_c26 : (Jvm.Cond.code ({ cls := "jdk/internal/util/Preconditions", name := "checkFromIndexSize", desc := "(IIILjava/util/function/BiFunction;)I" } : Jvm.MethodName) jdk_41_method_13_code (4 : Nat) (Option.some Jvm.ClassFile.FieldType.int)).before args0 about1 = true := code_word (m := ⟨23, 1⟩) (meth := k23m1) (c := k23c1) (by decide +kernel) rfl rfl rfl (by decide +kernel)
set_option maxRecDepth 65536 in
theorem w_c27 : (Jvm.Cond.code ({ cls := "java/lang/String", name := "decodeUTF8_UTF16", desc := "([BII[BIZ)I" } : Jvm.MethodName) jdk_42_method_38_code (11 : Nat) (Option.some Jvm.ClassFile.FieldType.int)).before args0 about1 = true := code_word (m := ⟨9, 9⟩) (meth := k9m9) (c := k9c9) (by decide +kernel) rfl rfl rfl (by decide +kernel)
set_option maxRecDepth 65536 in
theorem w_c28 : (Jvm.Cond.code ({ cls := "java/lang/String", name := "decode4", desc := "(IIII)I" } : Jvm.MethodName) jdk_42_method_37_code (4 : Nat) (Option.some Jvm.ClassFile.FieldType.int)).before args0 about1 = true := code_word (m := ⟨9, 8⟩) (meth := k9m8) (c := k9c8) (by decide +kernel) rfl rfl rfl (by decide +kernel)
set_option maxRecDepth 65536 in
theorem w_c29 : (Jvm.Cond.code ({ cls := "java/lang/String", name := "isMalformed4", desc := "(III)Z" } : Jvm.MethodName) jdk_42_method_32_code (3 : Nat) (Option.some Jvm.ClassFile.FieldType.boolean)).before args0 about1 = true := code_word (m := ⟨9, 5⟩) (meth := k9m5) (c := k9c5) (by decide +kernel) rfl rfl rfl (by decide +kernel)
set_option maxRecDepth 65536 in
theorem w_c30 : (Jvm.Cond.code ({ cls := "java/lang/Character", name := "isSupplementaryCodePoint", desc := "(I)Z" } : Jvm.MethodName) jdk_89_method_13_code (1 : Nat) (Option.some Jvm.ClassFile.FieldType.boolean)).before args0 about1 = true := code_word (m := ⟨24, 0⟩) (meth := k24m0) (c := k24c0) (by decide +kernel) rfl rfl rfl (by decide +kernel)
set_option maxRecDepth 65536 in
theorem w_c31 : (Jvm.Cond.code ({ cls := "java/lang/Character", name := "highSurrogate", desc := "(I)C" } : Jvm.MethodName) jdk_89_method_28_code (1 : Nat) (Option.some Jvm.ClassFile.FieldType.char)).before args0 about1 = true := code_word (m := ⟨24, 2⟩) (meth := k24m2) (c := k24c2) (by decide +kernel) rfl rfl rfl (by decide +kernel)
set_option maxRecDepth 65536 in
theorem w_c32 : (Jvm.Cond.code ({ cls := "java/lang/StringUTF16", name := "putChar", desc := "([BII)V" } : Jvm.MethodName) jdk_52_method_4_code (3 : Nat) (Option.none : Option Jvm.ClassFile.FieldType)).before args0 about1 = true := code_word (m := ⟨19, 3⟩) (meth := k19m3) (c := k19c3) (by decide +kernel) rfl rfl rfl (by decide +kernel)
set_option maxRecDepth 65536 in
theorem w_c33 : (Jvm.Cond.code ({ cls := "java/lang/Character", name := "lowSurrogate", desc := "(I)C" } : Jvm.MethodName) jdk_89_method_29_code (1 : Nat) (Option.some Jvm.ClassFile.FieldType.char)).before args0 about1 = true := code_word (m := ⟨24, 3⟩) (meth := k24m3) (c := k24c3) (by decide +kernel) rfl rfl rfl (by decide +kernel)
set_option maxRecDepth 65536 in
theorem w_c34 : (Jvm.Cond.code ({ cls := "java/lang/StringUTF16", name := "toBytes", desc := "([CII)[B" } : Jvm.MethodName) jdk_52_method_14_code (5 : Nat) (Option.some (Jvm.ClassFile.FieldType.array Jvm.ClassFile.FieldType.byte))).before args0 about1 = true := code_word (m := ⟨19, 6⟩) (meth := k19m6) (c := k19c6) (by decide +kernel) rfl rfl rfl (by decide +kernel)
set_option maxRecDepth 65536 in
theorem w_c35 : (Jvm.Cond.code ({ cls := "java/lang/StringUTF16", name := "getChar", desc := "([BI)C" } : Jvm.MethodName) jdk_52_method_5_code (2 : Nat) (Option.some Jvm.ClassFile.FieldType.char)).before args0 about1 = true := code_word (m := ⟨19, 4⟩) (meth := k19m4) (c := k19c4) (by decide +kernel) rfl rfl rfl (by decide +kernel)
set_option maxRecDepth 65536 in
theorem w_c36 : (Jvm.Cond.code ({ cls := "java/lang/String", name := "isNotContinuation", desc := "(I)Z" } : Jvm.MethodName) jdk_42_method_29_code (1 : Nat) (Option.some Jvm.ClassFile.FieldType.boolean)).before args0 about1 = true := code_word (m := ⟨9, 3⟩) (meth := k9m3) (c := k9c3) (by decide +kernel) rfl rfl rfl (by decide +kernel)
set_option maxRecDepth 65536 in
theorem w_c37 : (Jvm.Cond.code ({ cls := "java/lang/String", name := "isMalformed3", desc := "(III)Z" } : Jvm.MethodName) jdk_42_method_30_code (3 : Nat) (Option.some Jvm.ClassFile.FieldType.boolean)).before args0 about1 = true := code_word (m := ⟨9, 4⟩) (meth := k9m4) (c := k9c4) (by decide +kernel) rfl rfl rfl (by decide +kernel)
set_option maxRecDepth 65536 in
theorem w_c38 : (Jvm.Cond.code ({ cls := "java/lang/String", name := "decode3", desc := "(III)C" } : Jvm.MethodName) jdk_42_method_36_code (3 : Nat) (Option.some Jvm.ClassFile.FieldType.char)).before args0 about1 = true := code_word (m := ⟨9, 7⟩) (meth := k9m7) (c := k9c7) (by decide +kernel) rfl rfl rfl (by decide +kernel)
set_option maxRecDepth 65536 in
theorem w_c39 : (Jvm.Cond.code ({ cls := "java/lang/Character", name := "isSurrogate", desc := "(C)Z" } : Jvm.MethodName) jdk_89_method_16_code (1 : Nat) (Option.some Jvm.ClassFile.FieldType.boolean)).before args0 about1 = true := code_word (m := ⟨24, 1⟩) (meth := k24m1) (c := k24c1) (by decide +kernel) rfl rfl rfl (by decide +kernel)
def codes1 : List Jvm.Cond := [Jvm.Cond.code x code maxLocals ret, Jvm.Cond.code ({ cls := "com/example/gatewarden/gatewarden/bench/HttpConnections$Response", name := "<init>", desc := "(ILjava/util/Map;[B)V" } : Jvm.MethodName) prog_5_method_1_code (4 : Nat) (Option.none : Option Jvm.ClassFile.FieldType), Jvm.Cond.code ({ cls := "java/lang/Record", name := "<init>", desc := "()V" } : Jvm.MethodName) jdk_30_method_1_code (1 : Nat) (Option.none : Option Jvm.ClassFile.FieldType), Jvm.Cond.code ({ cls := "java/lang/Object", name := "<init>", desc := "()V" } : Jvm.MethodName) object_method_1_code (1 : Nat) (Option.none : Option Jvm.ClassFile.FieldType), Jvm.Cond.code ({ cls := "com/example/gatewarden/gatewarden/bench/HttpConnections$Response", name := "text", desc := "()Ljava/lang/String;" } : Jvm.MethodName) prog_5_method_2_code (1 : Nat) (Option.some (Jvm.ClassFile.FieldType.object "java/lang/String")), Jvm.Cond.code ({ cls := "java/lang/String", name := "<init>", desc := "([BLjava/nio/charset/Charset;)V" } : Jvm.MethodName) jdk_42_method_49_code (3 : Nat) (Option.none : Option Jvm.ClassFile.FieldType), Jvm.Cond.code ({ cls := "java/util/Objects", name := "requireNonNull", desc := "(Ljava/lang/Object;)Ljava/lang/Object;" } : Jvm.MethodName) jdk_31_method_10_code (1 : Nat) (Option.some (Jvm.ClassFile.FieldType.object "java/lang/Object")), Jvm.Cond.codeWith ({ cls := "java/lang/String", name := "<init>", desc := "(Ljava/nio/charset/Charset;[BII)V" } : Jvm.MethodName) jdk_42_method_11_code (11 : Nat) (Option.none : Option Jvm.ClassFile.FieldType) [((800 : Nat), (813 : Nat), (816 : Nat), (202 : Nat))], Jvm.Cond.code ({ cls := "java/lang/StringCoding", name := "countPositives", desc := "([BII)I" } : Jvm.MethodName) jdk_123_method_3_code (5 : Nat) (Option.some Jvm.ClassFile.FieldType.int), Jvm.Cond.code ({ cls := "java/util/Arrays", name := "copyOfRange", desc := "([BII)[B" } : Jvm.MethodName) jdk_65_method_132_code (3 : Nat) (Option.some (Jvm.ClassFile.FieldType.array Jvm.ClassFile.FieldType.byte)), Jvm.Cond.code ({ cls := "java/lang/String", name := "<init>", desc := "([C)V" } : Jvm.MethodName) jdk_42_method_3_code (2 : Nat) (Option.none : Option Jvm.ClassFile.FieldType), Jvm.Cond.code ({ cls := "java/lang/String", name := "<init>", desc := "([CIILjava/lang/Void;)V" } : Jvm.MethodName) jdk_42_method_149_code (6 : Nat) (Option.none : Option Jvm.ClassFile.FieldType), Jvm.Cond.code ({ cls := "java/lang/StringUTF16", name := "compress", desc := "([CII)[B" } : Jvm.MethodName) jdk_52_method_16_code (6 : Nat) (Option.some (Jvm.ClassFile.FieldType.array Jvm.ClassFile.FieldType.byte)), Jvm.Cond.code ({ cls := "java/lang/StringUTF16", name := "compress", desc := "([CI[BII)I" } : Jvm.MethodName) jdk_52_method_21_code (7 : Nat) (Option.some Jvm.ClassFile.FieldType.int), Jvm.Cond.code ({ cls := "java/lang/StringUTF16", name := "coderFromArrayLen", desc := "([BI)B" } : Jvm.MethodName) jdk_52_method_15_code (2 : Nat) (Option.some Jvm.ClassFile.FieldType.byte), Jvm.Cond.code ({ cls := "java/lang/String", name := "equals", desc := "(Ljava/lang/Object;)Z" } : Jvm.MethodName) jdk_42_method_66_code (3 : Nat) (Option.some Jvm.ClassFile.FieldType.boolean), Jvm.Cond.code ({ cls := "java/lang/StringLatin1", name := "equals", desc := "([B[B)Z" } : Jvm.MethodName) jdk_43_method_13_code (3 : Nat) (Option.some Jvm.ClassFile.FieldType.boolean), Jvm.Cond.code ({ cls := "java/lang/String", name := "decode2", desc := "(II)C" } : Jvm.MethodName) jdk_42_method_35_code (2 : Nat) (Option.some Jvm.ClassFile.FieldType.char), Jvm.Cond.code ({ cls := "java/util/Arrays", name := "copyOf", desc := "([BI)[B" } : Jvm.MethodName) jdk_65_method_121_code (3 : Nat) (Option.some (Jvm.ClassFile.FieldType.array Jvm.ClassFile.FieldType.byte)), Jvm.Cond.code ({ cls := "java/lang/Math", name := "min", desc := "(II)I" } : Jvm.MethodName) jdk_29_method_69_code (2 : Nat) (Option.some Jvm.ClassFile.FieldType.int), Jvm.Cond.code ({ cls := "java/lang/StringUTF16", name := "newBytesFor", desc := "(I)[B" } : Jvm.MethodName) jdk_52_method_2_code (1 : Nat) (Option.some (Jvm.ClassFile.FieldType.array Jvm.ClassFile.FieldType.byte)), Jvm.Cond.code ({ cls := "java/lang/StringUTF16", name := "newBytesLength", desc := "(I)I" } : Jvm.MethodName) jdk_52_method_3_code (1 : Nat) (Option.some Jvm.ClassFile.FieldType.int), Jvm.Cond.code ({ cls := "java/lang/StringLatin1", name := "inflate", desc := "([BI[BII)V" } : Jvm.MethodName) jdk_43_method_50_code (5 : Nat) (Option.none : Option Jvm.ClassFile.FieldType), Jvm.Cond.code ({ cls := "java/lang/StringUTF16", name := "inflate", desc := "([BI[BII)V" } : Jvm.MethodName) jdk_52_method_86_code (6 : Nat) (Option.none : Option Jvm.ClassFile.FieldType), Jvm.Cond.code ({ cls := "java/lang/StringUTF16", name := "checkBoundsOffCount", desc := "(II[B)V" } : Jvm.MethodName) jdk_52_method_94_code (3 : Nat) (Option.none : Option Jvm.ClassFile.FieldType), Jvm.Cond.code ({ cls := "java/lang/StringUTF16", name := "length", desc := "([B)I" } : Jvm.MethodName) jdk_52_method_6_code (1 : Nat) (Option.some Jvm.ClassFile.FieldType.int), Jvm.Cond.code ({ cls := "java/lang/String", name := "checkBoundsOffCount", desc := "(III)I" } : Jvm.MethodName) jdk_42_method_157_code (3 : Nat) (Option.some Jvm.ClassFile.FieldType.int), Jvm.Cond.code ({ cls := "jdk/internal/util/Preconditions", name := "checkFromIndexSize", desc := "(IIILjava/util/function/BiFunction;)I" } : Jvm.MethodName) jdk_41_method_13_code (4 : Nat) (Option.some Jvm.ClassFile.FieldType.int), Jvm.Cond.code ({ cls := "java/lang/String", name := "decodeUTF8_UTF16", desc := "([BII[BIZ)I" } : Jvm.MethodName) jdk_42_method_38_code (11 : Nat) (Option.some Jvm.ClassFile.FieldType.int), Jvm.Cond.code ({ cls := "java/lang/String", name := "decode4", desc := "(IIII)I" } : Jvm.MethodName) jdk_42_method_37_code (4 : Nat) (Option.some Jvm.ClassFile.FieldType.int), Jvm.Cond.code ({ cls := "java/lang/String", name := "isMalformed4", desc := "(III)Z" } : Jvm.MethodName) jdk_42_method_32_code (3 : Nat) (Option.some Jvm.ClassFile.FieldType.boolean), Jvm.Cond.code ({ cls := "java/lang/Character", name := "isSupplementaryCodePoint", desc := "(I)Z" } : Jvm.MethodName) jdk_89_method_13_code (1 : Nat) (Option.some Jvm.ClassFile.FieldType.boolean), Jvm.Cond.code ({ cls := "java/lang/Character", name := "highSurrogate", desc := "(I)C" } : Jvm.MethodName) jdk_89_method_28_code (1 : Nat) (Option.some Jvm.ClassFile.FieldType.char), Jvm.Cond.code ({ cls := "java/lang/StringUTF16", name := "putChar", desc := "([BII)V" } : Jvm.MethodName) jdk_52_method_4_code (3 : Nat) (Option.none : Option Jvm.ClassFile.FieldType), Jvm.Cond.code ({ cls := "java/lang/Character", name := "lowSurrogate", desc := "(I)C" } : Jvm.MethodName) jdk_89_method_29_code (1 : Nat) (Option.some Jvm.ClassFile.FieldType.char), Jvm.Cond.code ({ cls := "java/lang/StringUTF16", name := "toBytes", desc := "([CII)[B" } : Jvm.MethodName) jdk_52_method_14_code (5 : Nat) (Option.some (Jvm.ClassFile.FieldType.array Jvm.ClassFile.FieldType.byte)), Jvm.Cond.code ({ cls := "java/lang/StringUTF16", name := "getChar", desc := "([BI)C" } : Jvm.MethodName) jdk_52_method_5_code (2 : Nat) (Option.some Jvm.ClassFile.FieldType.char), Jvm.Cond.code ({ cls := "java/lang/String", name := "isNotContinuation", desc := "(I)Z" } : Jvm.MethodName) jdk_42_method_29_code (1 : Nat) (Option.some Jvm.ClassFile.FieldType.boolean), Jvm.Cond.code ({ cls := "java/lang/String", name := "isMalformed3", desc := "(III)Z" } : Jvm.MethodName) jdk_42_method_30_code (3 : Nat) (Option.some Jvm.ClassFile.FieldType.boolean), Jvm.Cond.code ({ cls := "java/lang/String", name := "decode3", desc := "(III)C" } : Jvm.MethodName) jdk_42_method_36_code (3 : Nat) (Option.some Jvm.ClassFile.FieldType.char), Jvm.Cond.code ({ cls := "java/lang/Character", name := "isSurrogate", desc := "(C)Z" } : Jvm.MethodName) jdk_89_method_16_code (1 : Nat) (Option.some Jvm.ClassFile.FieldType.boolean)]
set_option maxRecDepth 65536 in
theorem codes_eq : words1.filter isCode = codes1 := rfl
theorem codeWith_word {y : MethodName} {bytes : ByteArray} {mx : Nat} {rt : Option FieldType} {hs : List (Nat × Nat × Nat × Nat)} {a : Array Value} {s : State} {m : MethodId} {meth : Method} {c : Code} (h1 : s.methodNamed? y = some m) (h2 : s.vm.method? m = some meth) (h3 : meth.code = some c) (h4 : c.code = bytes)
    (h6 : c.exceptionTable.toList.map (fun h => (h.startPc, h.endPc, h.handlerPc, h.catchType)) = hs) (h5 : (c.maxLocals == mx && decide (c.maxStack ≤ mostOperands) && decide (meth.sig.returnType = rt) && !meth.locks && decide (parseMethodDescriptor y.desc = some meth.sig)) = true) : (Jvm.Cond.codeWith y bytes mx rt hs).before a s = true := by
  simp only [Bool.and_eq_true, beq_iff_eq, Bool.not_eq_true', decide_eq_true_eq] at h5
  obtain ⟨⟨⟨⟨g1, g3⟩, g4⟩, g5⟩, g6⟩ := h5
  subst h6
  simp [Cond.before, Cond.holds, Cond.value, h1, h2, h3, h4, g1, g3, g4, g5, g6]
set_option maxRecDepth 65536 in
theorem w_cw : (Jvm.Cond.codeWith ({ cls := "java/lang/String", name := "<init>", desc := "(Ljava/nio/charset/Charset;[BII)V" } : Jvm.MethodName) jdk_42_method_11_code (11 : Nat) (Option.none : Option Jvm.ClassFile.FieldType) [((800 : Nat), (813 : Nat), (816 : Nat), (202 : Nat))]).before args0 about1 = true := codeWith_word (m := ⟨9, 2⟩) (meth := k9m2) (c := k9c2) (by decide +kernel) rfl rfl rfl rfl (by decide +kernel)
theorem w_codes : ∀ c ∈ words1.filter isCode, c.before args0 about1 = true := by
  rw [codes_eq]
  intro c hc
  simp only [codes1, List.mem_cons, List.not_mem_nil, or_false] at hc
  rcases hc with rfl | rfl | rfl | rfl | rfl | rfl | rfl | rfl | rfl | rfl | rfl | rfl | rfl | rfl | rfl | rfl | rfl | rfl | rfl | rfl | rfl | rfl | rfl | rfl | rfl | rfl | rfl | rfl | rfl | rfl | rfl | rfl | rfl | rfl | rfl | rfl | rfl | rfl | rfl | rfl | rfl
  · exact w_c0
  · exact w_c1
  · exact w_c2
  · exact w_c3
  · exact w_c4
  · exact w_c5
  · exact w_c6
  · exact w_cw
  · exact w_c7
  · exact w_c8
  · exact w_c9
  · exact w_c10
  · exact w_c11
  · exact w_c12
  · exact w_c13
  · exact w_c14
  · exact w_c15
  · exact w_c16
  · exact w_c17
  · exact w_c18
  · exact w_c19
  · exact w_c20
  · exact w_c21
  · exact w_c22
  · exact w_c23
  · exact w_c24
  · exact w_c25
  · exact w_c26
  · exact w_c27
  · exact w_c28
  · exact w_c29
  · exact w_c30
  · exact w_c31
  · exact w_c32
  · exact w_c33
  · exact w_c34
  · exact w_c35
  · exact w_c36
  · exact w_c37
  · exact w_c38
  · exact w_c39
set_option maxRecDepth 65536 in
theorem w_t1 : (words1.take 24).all (fun c => isCode c || c.before args0 about1) = true := by decide +kernel
set_option maxRecDepth 65536 in
theorem w_t2 : ((words1.drop 24).take 24).all (fun c => isCode c || c.before args0 about1) = true := by decide +kernel
set_option maxRecDepth 65536 in
theorem w_t3 : (((words1.drop 24).drop 24).take 24).all (fun c => isCode c || c.before args0 about1) = true := by decide +kernel
set_option maxRecDepth 65536 in
theorem w_t4 : ((((words1.drop 24).drop 24).drop 24).take 24).all (fun c => isCode c || c.before args0 about1) = true := by decide +kernel
set_option maxRecDepth 65536 in
theorem w_t5 : (((((words1.drop 24).drop 24).drop 24).drop 24).take 24).all (fun c => isCode c || c.before args0 about1) = true := by decide +kernel
set_option maxRecDepth 65536 in
theorem w_t6 : ((((((words1.drop 24).drop 24).drop 24).drop 24).drop 24).take 24).all (fun c => isCode c || c.before args0 about1) = true := by decide +kernel
set_option maxRecDepth 65536 in
theorem w_t7 : (((((((words1.drop 24).drop 24).drop 24).drop 24).drop 24).drop 24).take 24).all (fun c => isCode c || c.before args0 about1) = true := by decide +kernel
set_option maxRecDepth 65536 in
theorem w_t8 : ((((((((words1.drop 24).drop 24).drop 24).drop 24).drop 24).drop 24).drop 24).take 24).all (fun c => isCode c || c.before args0 about1) = true := by decide +kernel
set_option maxRecDepth 65536 in
theorem w_t9 : ((((((((words1.drop 24).drop 24).drop 24).drop 24).drop 24).drop 24).drop 24).drop 24).all (fun c => isCode c || c.before args0 about1) = true := by decide +kernel
theorem w_tables : (allAtoms (Jvm.Cond.code x code maxLocals ret :: tables_1)).before args0 about1 = true := by
  rw [allAtoms_all]
  show words1.all (fun c => c.before args0 about1) = true
  refine all_split ?_ w_codes
  rw [← List.take_append_drop 24 words1, List.all_append, w_t1, ← List.take_append_drop 24 (words1.drop 24), List.all_append, w_t2, ← List.take_append_drop 24 ((words1.drop 24).drop 24), List.all_append, w_t3, ← List.take_append_drop 24 (((words1.drop 24).drop 24).drop 24), List.all_append, w_t4, ← List.take_append_drop 24 ((((words1.drop 24).drop 24).drop 24).drop 24), List.all_append, w_t5, ← List.take_append_drop 24 (((((words1.drop 24).drop 24).drop 24).drop 24).drop 24), List.all_append, w_t6, ← List.take_append_drop 24 ((((((words1.drop 24).drop 24).drop 24).drop 24).drop 24).drop 24), List.all_append, w_t7, ← List.take_append_drop 24 (((((((words1.drop 24).drop 24).drop 24).drop 24).drop 24).drop 24).drop 24), List.all_append, w_t8, w_t9]
  rfl
set_option maxRecDepth 65536 in
theorem w_rest : rest_1_c.before args0 about1 = true := by decide +kernel
set_option maxRecDepth 65536 in
theorem w_case : (Jvm.Cond.and given_1 narrow_1).before args0 about1 = true := by decide +kernel
set_option maxRecDepth 65536 in
theorem w_consts : constsHeld consts_1 about1 := Jvm.Lit.constsHeldB_iff.mp (by decide +kernel)
theorem w_applies : (headSpec (Jvm.Cond.code x code maxLocals ret :: tables_1) room_1).applies x e0.platform about1 = true :=
  (Spec.applies_iff w_frames).mpr ⟨w_running, w_runnable, w_alone, w_named, w_hears, w_ripe, w_room, w_tables⟩
theorem atStart : AtStart classFile x code maxLocals ret World_1 tables_1 room_1 Calls_1 rest_1 Pre_1 launch0 p0 e0 about1 theMethod args0 below0 :=
  ⟨lists_1, trivial, launch0.admits_env _ _ _, launch0.least_env, fairChoices_fair.cas, fairChoices_fair.clock, w_frames, w_args, w_heap, w_applies, ⟨w_consts, trivial⟩, w_rest, w_case⟩
end start1
theorem witness_1 : WitnessClaimed_1 := ⟨start1.p0, start1.e0, start1.about1, start1.theMethod, start1.args0, start1.below0, start1.atStart⟩
end Jvm.Pilot.@@N@@
