import JvmDerived
import JvmDerived.Pilot.@@N@@Statement
import JvmDerived.Pilot.@@N@@Code
set_option linter.unusedVariables false
set_option linter.unusedSimpArgs false

namespace Jvm.OwnW
open Sem ClassFile Op Lib Jvm.Stand Jvm.Free Jvm.LawKit Jvm.RoadKit
/-- the instruction i stands at pc, n bytes long; the next one stands at nx -/
def Ins (code : ByteArray) (pc : Nat) (i : Instr) (n nx : Nat) : Prop := decode code pc = .ok (i, n) ∧ pc + n = nx
/-- a jump by o from pc leads to t -/
def Jmp (pc : Nat) (o : Int) (t : Nat) : Prop := 0 ≤ (pc : Int) + o ∧ ((pc : Int) + o).toNat = t
instance {pc : Nat} {o : Int} {t : Nat} : Decidable (Jmp pc o t) := inferInstanceAs (Decidable (_ ∧ _))
/-- what is fixed through a body's walk -/
def Ctx (p : Program) (s : State) (m : MethodId) (meth : Method) (c : Code) (Z : State) (own nm : String) (code : ByteArray) (ml : Nat) (ret : Option FieldType) : Prop :=
  p.tables.exec = Jvm.exec ∧ Z.Warmed39 s.vm ∧ c.code = code ∧ c.maxLocals = ml ∧ s.vm.findClass own = some m.cls ∧ meth.sig.returnType = ret ∧ meth.locks = false ∧ meth.name = nm ∧ ThS Z s.heap
/-- what is carried unseen: the tables since the start; the constants that are held; D: arrays and Strings of our own, which no constant names -/
def Hid (w : Nat) (Z : State) (EL : List (String × Nat)) (D : List Addr) (s : State) (vm0 : Vm) (h : Heap) : Prop :=
  (if w = 0 then vm0 = s.vm else ∃ k0, s.Since vm0 k0 ∧ k0 ≤ h.size) ∧ (∃ a0, EW Z a0 EL) ∧ CHr Z EL s.vm s.heap vm0 h ∧ ∀ x ∈ D, x < h.size ∧ Safe Z EL vm0 h x
def En (w : Nat) (s : State) (o : Outcome) (t : State) (L : List Loc) (k n : Nat) : Prop := if w = 0 then FrameEnd s o t L k n else ReturnedEndW s o t L k n
/-- how a body ends -/
def Done (w : Nat) (Z : State) (EL : List (String × Nat)) (n0 : Nat) (R : Room) (Q : Option Value → Heap → List Addr → Prop) (s : State) (o : Outcome) (t : State) : Prop :=
  ∃ v L D', o = .returned v ∧ Q v t.heap D' ∧ Old Z n0 t.heap ∧ Fr n0 L ∧ (CHr Z EL s.vm s.heap t.vm t.heap ∧ ∀ x ∈ D', x < t.heap.size ∧ Safe Z EL t.vm t.heap x) ∧ En w s o t L R.cells R.slots
/-- what a stack trace asks -/
def Kn (w : Nat) (Z : State) (below : List Frame) : Prop := w = 2 → Z.vm.MethodsKnown ∧ Z.vm.FramesKnown below
/-- from pc, with these locals, this stack and this heap, the body comes to an end that Q allows -/
def Runs (w : Nat) (l : Launch) (Z : State) (EL : List (String × Nat)) (n0 : Nat) (own nm : String) (code : ByteArray) (ml : Nat) (ret : Option FieldType) (R : Room) (Q : Option Value → Heap → List Addr → Prop) (D : List Addr) (h : Heap) (kc ks pc : Nat) (ls : Array Slot) (st : List Value) : Prop :=
  ∀ (p : Program) (e : Env) (s : State) (vm0 : Vm) (m : MethodId) (args : Array Value) (below : List Frame) (meth : Method) (c : Code) (T : State) (locs : List Loc),
    Ctx p (s.setVm vm0) m meth c Z own nm code ml ret → Stand p l e R (s.setVm vm0) m args below meth c T locs kc ks → T.heap = h → Fr n0 locs → Old Z n0 h → Hid w Z EL D s vm0 h → Kn w Z below →
    ∃ s₂ o, Steps p.tables e below (T.setTop (mkF m pc ls st)) s₂ ∧ s₂.status = .running ∧ Ended s₂ below o ∧ Done w Z EL n0 R Q s o s₂
/-- a method's contract -/
def Con (w : Nat) (l : Launch) (Z : State) (EL : List (String × Nat)) (n0 : Nat) (y : MethodName) (code : ByteArray) (ml : Nat) (ret : Option FieldType) (R : Room) (as' : Array Value) (D : List Addr) (h : Heap) (Q : Option Value → Heap → List Addr → Prop) : Prop :=
  ∀ ws : List Jvm.Cond, MetFree l y (head1 (Jvm.Cond.code y code ml ret :: ws) R) (fun a U => a = as' ∧ Z.Warmed39 U.vm ∧ U.heap = h ∧ Old Z n0 h ∧ (∃ a0, EW Z a0 EL) ∧ CHv Z EL U.vm h ∧ ∀ x ∈ D, x < h.size ∧ Safe Z EL U.vm h x) (fun _ _ bl _ _ => Kn w Z bl) (fun _ U o U' => Done w Z EL n0 R Q U o U')
section W
variable {w : Nat} {l : Launch} {Z : State} {EL : List (String × Nat)} {n0 : Nat} {own nm : String} {code : ByteArray} {ml : Nat} {ret : Option FieldType} {R : Room} {Q : Option Value → Heap → List Addr → Prop} {D : List Addr} {h : Heap} {kc ks pc pc' : Nat} {ls ls' : Array Slot} {st st' rest : List Value} {a0 : Array Value}
theorem Con.of_runs {y : MethodName} {as' : Array Value} (hp : plainFor y = true) (he : ∀ m, entryFrame m as' ml = mkF m 0 ls []) (K : Runs w l Z EL n0 y.cls y.name code ml ret R Q D h 0 0 0 ls []) : Con w l Z EL n0 y code ml ret R as' D h Q := by
  intro ws
  refine MetFree.of_bodySF hp hisR ?_
  intro p e s m args below meth c s₁ Bd hml0 hP hK
  obtain ⟨rfl, hZ, hh, hO, hE, hC, hD⟩ := hP
  have hnm := (name_of_methodNamed Bd.named Bd.method).1
  have hown : s.vm.findClass y.cls = some m.cls := findClass_of_methodNamed Bd.named
  have X0 : Stand p l e R s m args below meth c s₁ [] 0 0 := Stand.of_body Bd
  have e0 : s₁.heap = h := by rw [← hh, Bd.state]; rfl
  obtain ⟨s₂, o, S, r1, r2, r3⟩ := K p e s s.vm m args below meth c s₁ [] ⟨Bd.exec, hZ, Bd.bytes, hml0, hown, Bd.returns, Bd.notSynchronized, hnm, by show ThS Z s.heap; rw [hh]; exact ThS.start.ext hO.2⟩ X0 e0 (Fr.nil n0) hO
    ⟨by split; rfl; exact ⟨0, (State.WarmedH.refl s).since 0, Nat.zero_le _⟩, hE, by rw [← hh] at hC ⊢; exact CHr.refl hC, hD⟩ hK
  exact ⟨s₂, o, castTop (he m) S, r1, r2, r3⟩
theorem Runs.plain (K : Runs w l Z EL n0 own nm code ml ret R Q D h kc ks pc' ls' st')
    (f : ∀ (p : Program) (e : Env) (m : MethodId) (below : List Frame) (c : Code) (T target : State), p.tables.exec = Jvm.exec → c.code = code → At T m c below → Steps p.tables e below (T.setTop (mkF m pc' ls' st')) target → Steps p.tables e below (T.setTop (mkF m pc ls st)) target) : Runs w l Z EL n0 own nm code ml ret R Q D h kc ks pc ls st := by
  intro p e s vm0 m args below meth c T locs C X eT N O H Kw
  obtain ⟨s₂, o, S, r⟩ := K p e s vm0 m args below meth c T locs C X eT N O H Kw
  exact ⟨s₂, o, f p e m below c T s₂ C.1 C.2.2.1 X.here S, r⟩
/-- a step whose law moves the tables alone -/
theorem Runs.warm (K : Runs w l Z EL n0 own nm code ml ret R Q D h kc ks pc' ls' st')
    (f : ∀ (p : Program) (e : Env) (s : State) (m : MethodId) (args : Array Value) (below : List Frame) (meth : Method) (c : Code) (T : State) (locs : List Loc), Ctx p s m meth c Z own nm code ml ret → Stand p l e R s m args below meth c T locs kc ks → T.heap = h → Old Z n0 h →
      ∃ T', Stand p l e R s m args below meth c T' locs kc ks ∧ T'.heap = h ∧ ∀ target, Steps p.tables e below (T'.setTop (mkF m pc' ls' st')) target → Steps p.tables e below (T.setTop (mkF m pc ls st)) target) : Runs w l Z EL n0 own nm code ml ret R Q D h kc ks pc ls st := by
  intro p e s vm0 m args below meth c T locs C X eT N O H Kw
  obtain ⟨T', X', e', S'⟩ := f p e _ m args below meth c T locs C X eT O
  obtain ⟨s₂, o, S, r⟩ := K p e s vm0 m args below meth c T' locs C X' e' N O H Kw
  exact ⟨s₂, o, S' _ S, r⟩
theorem Runs.old (K : Old Z n0 h → Runs w l Z EL n0 own nm code ml ret R Q D h kc ks pc ls st) : Runs w l Z EL n0 own nm code ml ret R Q D h kc ks pc ls st :=
  fun p e s vm0 m args below meth c T locs C X eT N O H Kw => K O p e s vm0 m args below meth c T locs C X eT N O H Kw
theorem Runs.weak {D1 : List Addr} (hs : ∀ x ∈ D1, x ∈ D) (K : Runs w l Z EL n0 own nm code ml ret R Q D1 h kc ks pc ls st) : Runs w l Z EL n0 own nm code ml ret R Q D h kc ks pc ls st :=
  fun p e s vm0 m args below meth c T locs C X eT N O H Kw => K p e s vm0 m args below meth c T locs C X eT N O ⟨H.1, H.2.1, H.2.2.1, fun x hx => H.2.2.2 x (hs x hx)⟩ Kw
/-- fewer cells, fewer slots made: at most more -/
theorem Runs.mono {kc' ks' : Nat} (h1 : kc ≤ kc') (h2 : ks ≤ ks') (K : Runs w l Z EL n0 own nm code ml ret R Q D h kc' ks' pc ls st) : Runs w l Z EL n0 own nm code ml ret R Q D h kc ks pc ls st :=
  fun p e s vm0 m args below meth c T locs C X eT N O H Kw => K p e s vm0 m args below meth c T locs C (X.mono h1 h2) eT N O H Kw

theorem Runs.iloadN {k : Fin 4} {v : Int32} (hd : Ins code pc (.iload_n k) 1 pc') (hl : ls[k.val]? = some (.val (.int v))) (K : Runs w l Z EL n0 own nm code ml ret R Q D h kc ks pc' ls (.int v :: st)) : Runs w l Z EL n0 own nm code ml ret R Q D h kc ks pc ls st := by
  obtain ⟨hd, rfl⟩ := hd
  exact K.plain fun p e m below c T t hx hb X S => XS.iloadN (g := mkF m pc ls st) X hx rfl (Jvm.hb hb hd) hl S
theorem Runs.iload {k : Nat} {v : Int32} (hd : Ins code pc (.iload k) 2 pc') (hl : ls[k]? = some (.val (.int v))) (K : Runs w l Z EL n0 own nm code ml ret R Q D h kc ks pc' ls (.int v :: st)) : Runs w l Z EL n0 own nm code ml ret R Q D h kc ks pc ls st := by
  obtain ⟨hd, rfl⟩ := hd
  exact K.plain fun p e m below c T t hx hb X S => XS.iload (g := mkF m pc ls st) X hx rfl (Jvm.hb hb hd) hl S
theorem Runs.istoreN {k : Fin 4} {x : Int32} (hd : Ins code pc (.istore_n k) 1 pc') (hl : storeLocals ls k.val (.int x) = some ls') (K : Runs w l Z EL n0 own nm code ml ret R Q D h kc ks pc' ls' rest) : Runs w l Z EL n0 own nm code ml ret R Q D h kc ks pc ls (.int x :: rest) := by
  obtain ⟨hd, rfl⟩ := hd
  exact K.plain fun p e m below c T t hx hb X S => XS.istoreN (g := mkF m pc ls (.int x :: rest)) X hx rfl (Jvm.hb hb hd) rfl hl S
theorem Runs.istore {k : Nat} {x : Int32} (hd : Ins code pc (.istore k) 2 pc') (hl : storeLocals ls k (.int x) = some ls') (K : Runs w l Z EL n0 own nm code ml ret R Q D h kc ks pc' ls' rest) : Runs w l Z EL n0 own nm code ml ret R Q D h kc ks pc ls (.int x :: rest) := by
  obtain ⟨hd, rfl⟩ := hd
  exact K.plain fun p e m below c T t hx hb X S => XS.istore (g := mkF m pc ls (.int x :: rest)) X hx rfl (Jvm.hb hb hd) rfl hl S
theorem Runs.lloadN {k : Fin 4} {v : Int64} (hd : Ins code pc (.lload_n k) 1 pc') (hl : ls[k.val]? = some (.val (.long v))) (K : Runs w l Z EL n0 own nm code ml ret R Q D h kc ks pc' ls (.long v :: st)) : Runs w l Z EL n0 own nm code ml ret R Q D h kc ks pc ls st := by
  obtain ⟨hd, rfl⟩ := hd
  exact K.plain fun p e m below c T t hx hb X S => XT.lloadN (g := mkF m pc ls st) X hx rfl (Jvm.hb hb hd) hl S
theorem Runs.lload {k : Nat} {v : Int64} (hd : Ins code pc (.lload k) 2 pc') (hl : ls[k]? = some (.val (.long v))) (K : Runs w l Z EL n0 own nm code ml ret R Q D h kc ks pc' ls (.long v :: st)) : Runs w l Z EL n0 own nm code ml ret R Q D h kc ks pc ls st := by
  obtain ⟨hd, rfl⟩ := hd
  exact K.plain fun p e m below c T t hx hb X S => XT.lload (g := mkF m pc ls st) X hx rfl (Jvm.hb hb hd) hl S
theorem Runs.lstoreN {k : Fin 4} {x : Int64} (hd : Ins code pc (.lstore_n k) 1 pc') (hl : storeLocals ls k.val (.long x) = some ls') (K : Runs w l Z EL n0 own nm code ml ret R Q D h kc ks pc' ls' rest) : Runs w l Z EL n0 own nm code ml ret R Q D h kc ks pc ls (.long x :: rest) := by
  obtain ⟨hd, rfl⟩ := hd
  exact K.plain fun p e m below c T t hx hb X S => XT.lstoreN (g := mkF m pc ls (.long x :: rest)) X hx rfl (Jvm.hb hb hd) rfl hl S
theorem Runs.lstore {k : Nat} {x : Int64} (hd : Ins code pc (.lstore k) 2 pc') (hl : storeLocals ls k (.long x) = some ls') (K : Runs w l Z EL n0 own nm code ml ret R Q D h kc ks pc' ls' rest) : Runs w l Z EL n0 own nm code ml ret R Q D h kc ks pc ls (.long x :: rest) := by
  obtain ⟨hd, rfl⟩ := hd
  exact K.plain fun p e m below c T t hx hb X S => XT.lstore (g := mkF m pc ls (.long x :: rest)) X hx rfl (Jvm.hb hb hd) rfl hl S
theorem Runs.aloadN {k : Fin 4} {v : Value} (hd : Ins code pc (.aload_n k) 1 pc') (hl : ls[k.val]? = some (.val v)) (hv : v.isRef = true) (K : Runs w l Z EL n0 own nm code ml ret R Q D h kc ks pc' ls (v :: st)) : Runs w l Z EL n0 own nm code ml ret R Q D h kc ks pc ls st := by
  obtain ⟨hd, rfl⟩ := hd
  exact K.plain fun p e m below c T t hx hb X S => XS.aloadN (g := mkF m pc ls st) X hx rfl (Jvm.hb hb hd) hl hv S
theorem Runs.aload {k : Nat} {v : Value} (hd : Ins code pc (.aload k) 2 pc') (hl : ls[k]? = some (.val v)) (hv : v.isRef = true) (K : Runs w l Z EL n0 own nm code ml ret R Q D h kc ks pc' ls (v :: st)) : Runs w l Z EL n0 own nm code ml ret R Q D h kc ks pc ls st := by
  obtain ⟨hd, rfl⟩ := hd
  exact K.plain fun p e m below c T t hx hb X S => XS.aload (g := mkF m pc ls st) X hx rfl (Jvm.hb hb hd) hl hv S
theorem Runs.astoreN {k : Fin 4} {x : Value} (hd : Ins code pc (.astore_n k) 1 pc') (hv : x.isRef = true) (hl : storeLocals ls k.val x = some ls') (K : Runs w l Z EL n0 own nm code ml ret R Q D h kc ks pc' ls' rest) : Runs w l Z EL n0 own nm code ml ret R Q D h kc ks pc ls (x :: rest) := by
  obtain ⟨hd, rfl⟩ := hd
  exact K.plain fun p e m below c T t hx hb X S => XS.astoreN (g := mkF m pc ls (x :: rest)) X hx rfl (Jvm.hb hb hd) rfl hv hl S
theorem Runs.astore {k : Nat} {x : Value} (hd : Ins code pc (.astore k) 2 pc') (hv : x.isRef = true) (hl : storeLocals ls k x = some ls') (K : Runs w l Z EL n0 own nm code ml ret R Q D h kc ks pc' ls' rest) : Runs w l Z EL n0 own nm code ml ret R Q D h kc ks pc ls (x :: rest) := by
  obtain ⟨hd, rfl⟩ := hd
  exact K.plain fun p e m below c T t hx hb X S => XS.astore (g := mkF m pc ls (x :: rest)) X hx rfl (Jvm.hb hb hd) rfl hv hl S
theorem Runs.iconst {i : Int} {v : Int32} (hd : Ins code pc (.iconst i) 1 pc') (hz : Int32.ofInt i = v) (K : Runs w l Z EL n0 own nm code ml ret R Q D h kc ks pc' ls (.int v :: st)) : Runs w l Z EL n0 own nm code ml ret R Q D h kc ks pc ls st := by
  obtain ⟨hd, rfl⟩ := hd
  subst hz
  exact K.plain fun p e m below c T t hx hb X S => XS.iconst (g := mkF m pc ls st) X hx rfl (Jvm.hb hb hd) S
theorem Runs.bipush {i : Int} {v : Int32} (hd : Ins code pc (.bipush i) 2 pc') (hz : (Int8.ofInt i).toInt32 = v) (K : Runs w l Z EL n0 own nm code ml ret R Q D h kc ks pc' ls (.int v :: st)) : Runs w l Z EL n0 own nm code ml ret R Q D h kc ks pc ls st := by
  obtain ⟨hd, rfl⟩ := hd
  subst hz
  exact K.plain fun p e m below c T t hx hb X S => XS.bipush (g := mkF m pc ls st) X hx rfl (Jvm.hb hb hd) S
theorem Runs.sipush {i : Int} {v : Int32} (hd : Ins code pc (.sipush i) 3 pc') (hz : (Int16.ofInt i).toInt32 = v) (K : Runs w l Z EL n0 own nm code ml ret R Q D h kc ks pc' ls (.int v :: st)) : Runs w l Z EL n0 own nm code ml ret R Q D h kc ks pc ls st := by
  obtain ⟨hd, rfl⟩ := hd
  subst hz
  exact K.plain fun p e m below c T t hx hb X S => XS.sipush (g := mkF m pc ls st) X hx rfl (Jvm.hb hb hd) S
theorem Runs.lconst {k : Fin 2} {v : Int64} (hd : Ins code pc (.lconst k) 1 pc') (hz : Int64.ofNat k = v) (K : Runs w l Z EL n0 own nm code ml ret R Q D h kc ks pc' ls (.long v :: st)) : Runs w l Z EL n0 own nm code ml ret R Q D h kc ks pc ls st := by
  obtain ⟨hd, rfl⟩ := hd
  subst hz
  exact K.plain fun p e m below c T t hx hb X S => XT.lconst (g := mkF m pc ls st) X hx rfl (Jvm.hb hb hd) S
theorem Runs.aconstNull  (hd : Ins code pc (.aconst_null) 1 pc')  (K : Runs w l Z EL n0 own nm code ml ret R Q D h kc ks pc' ls (.null :: st)) : Runs w l Z EL n0 own nm code ml ret R Q D h kc ks pc ls st := by
  obtain ⟨hd, rfl⟩ := hd
  exact K.plain fun p e m below c T t hx hb X S => XS.aconstNull (g := mkF m pc ls st) X hx rfl (Jvm.hb hb hd) S
theorem Runs.iadd {x y z : Int32} (hd : Ins code pc (.iadd) 1 pc') (hz : x + y = z) (K : Runs w l Z EL n0 own nm code ml ret R Q D h kc ks pc' ls (.int z :: rest)) : Runs w l Z EL n0 own nm code ml ret R Q D h kc ks pc ls (.int y :: .int x :: rest) := by
  obtain ⟨hd, rfl⟩ := hd
  subst hz
  exact K.plain fun p e m below c T t hx hb X S => XS.iadd (g := mkF m pc ls (.int y :: .int x :: rest)) X hx rfl (Jvm.hb hb hd) rfl S
theorem Runs.isub {x y z : Int32} (hd : Ins code pc (.isub) 1 pc') (hz : x - y = z) (K : Runs w l Z EL n0 own nm code ml ret R Q D h kc ks pc' ls (.int z :: rest)) : Runs w l Z EL n0 own nm code ml ret R Q D h kc ks pc ls (.int y :: .int x :: rest) := by
  obtain ⟨hd, rfl⟩ := hd
  subst hz
  exact K.plain fun p e m below c T t hx hb X S => XS.isub (g := mkF m pc ls (.int y :: .int x :: rest)) X hx rfl (Jvm.hb hb hd) rfl S
theorem Runs.imul {x y z : Int32} (hd : Ins code pc (.imul) 1 pc') (hz : x * y = z) (K : Runs w l Z EL n0 own nm code ml ret R Q D h kc ks pc' ls (.int z :: rest)) : Runs w l Z EL n0 own nm code ml ret R Q D h kc ks pc ls (.int y :: .int x :: rest) := by
  obtain ⟨hd, rfl⟩ := hd
  subst hz
  exact K.plain fun p e m below c T t hx hb X S => XS.imul (g := mkF m pc ls (.int y :: .int x :: rest)) X hx rfl (Jvm.hb hb hd) rfl S
theorem Runs.iand {x y z : Int32} (hd : Ins code pc (.iand) 1 pc') (hz : x &&& y = z) (K : Runs w l Z EL n0 own nm code ml ret R Q D h kc ks pc' ls (.int z :: rest)) : Runs w l Z EL n0 own nm code ml ret R Q D h kc ks pc ls (.int y :: .int x :: rest) := by
  obtain ⟨hd, rfl⟩ := hd
  subst hz
  exact K.plain fun p e m below c T t hx hb X S => XS.iand (g := mkF m pc ls (.int y :: .int x :: rest)) X hx rfl (Jvm.hb hb hd) rfl S
theorem Runs.ior {x y z : Int32} (hd : Ins code pc (.ior) 1 pc') (hz : x ||| y = z) (K : Runs w l Z EL n0 own nm code ml ret R Q D h kc ks pc' ls (.int z :: rest)) : Runs w l Z EL n0 own nm code ml ret R Q D h kc ks pc ls (.int y :: .int x :: rest) := by
  obtain ⟨hd, rfl⟩ := hd
  subst hz
  exact K.plain fun p e m below c T t hx hb X S => XT.ior (g := mkF m pc ls (.int y :: .int x :: rest)) X hx rfl (Jvm.hb hb hd) rfl S
theorem Runs.ixor {x y z : Int32} (hd : Ins code pc (.ixor) 1 pc') (hz : x ^^^ y = z) (K : Runs w l Z EL n0 own nm code ml ret R Q D h kc ks pc' ls (.int z :: rest)) : Runs w l Z EL n0 own nm code ml ret R Q D h kc ks pc ls (.int y :: .int x :: rest) := by
  obtain ⟨hd, rfl⟩ := hd
  subst hz
  exact K.plain fun p e m below c T t hx hb X S => XT.ixor (g := mkF m pc ls (.int y :: .int x :: rest)) X hx rfl (Jvm.hb hb hd) rfl S
theorem Runs.ishl {x y z : Int32} (hd : Ins code pc (.ishl) 1 pc') (hz : x <<< (y &&& 31) = z) (K : Runs w l Z EL n0 own nm code ml ret R Q D h kc ks pc' ls (.int z :: rest)) : Runs w l Z EL n0 own nm code ml ret R Q D h kc ks pc ls (.int y :: .int x :: rest) := by
  obtain ⟨hd, rfl⟩ := hd
  subst hz
  exact K.plain fun p e m below c T t hx hb X S => XT.ishl (g := mkF m pc ls (.int y :: .int x :: rest)) X hx rfl (Jvm.hb hb hd) rfl S
theorem Runs.ishr {x y z : Int32} (hd : Ins code pc (.ishr) 1 pc') (hz : x >>> (y &&& 31) = z) (K : Runs w l Z EL n0 own nm code ml ret R Q D h kc ks pc' ls (.int z :: rest)) : Runs w l Z EL n0 own nm code ml ret R Q D h kc ks pc ls (.int y :: .int x :: rest) := by
  obtain ⟨hd, rfl⟩ := hd
  subst hz
  exact K.plain fun p e m below c T t hx hb X S => XT.ishr (g := mkF m pc ls (.int y :: .int x :: rest)) X hx rfl (Jvm.hb hb hd) rfl S
theorem Runs.iushr {x y z : Int32} (hd : Ins code pc (.iushr) 1 pc') (hz : XT.ushr x y = z) (K : Runs w l Z EL n0 own nm code ml ret R Q D h kc ks pc' ls (.int z :: rest)) : Runs w l Z EL n0 own nm code ml ret R Q D h kc ks pc ls (.int y :: .int x :: rest) := by
  obtain ⟨hd, rfl⟩ := hd
  subst hz
  exact K.plain fun p e m below c T t hx hb X S => XT.iushr (g := mkF m pc ls (.int y :: .int x :: rest)) X hx rfl (Jvm.hb hb hd) rfl S
theorem Runs.ladd {x y z : Int64} (hd : Ins code pc (.ladd) 1 pc') (hz : x + y = z) (K : Runs w l Z EL n0 own nm code ml ret R Q D h kc ks pc' ls (.long z :: rest)) : Runs w l Z EL n0 own nm code ml ret R Q D h kc ks pc ls (.long y :: .long x :: rest) := by
  obtain ⟨hd, rfl⟩ := hd
  subst hz
  exact K.plain fun p e m below c T t hx hb X S => XT.ladd (g := mkF m pc ls (.long y :: .long x :: rest)) X hx rfl (Jvm.hb hb hd) rfl S
theorem Runs.lsub {x y z : Int64} (hd : Ins code pc (.lsub) 1 pc') (hz : x - y = z) (K : Runs w l Z EL n0 own nm code ml ret R Q D h kc ks pc' ls (.long z :: rest)) : Runs w l Z EL n0 own nm code ml ret R Q D h kc ks pc ls (.long y :: .long x :: rest) := by
  obtain ⟨hd, rfl⟩ := hd
  subst hz
  exact K.plain fun p e m below c T t hx hb X S => XT.lsub (g := mkF m pc ls (.long y :: .long x :: rest)) X hx rfl (Jvm.hb hb hd) rfl S
theorem Runs.lmul {x y z : Int64} (hd : Ins code pc (.lmul) 1 pc') (hz : x * y = z) (K : Runs w l Z EL n0 own nm code ml ret R Q D h kc ks pc' ls (.long z :: rest)) : Runs w l Z EL n0 own nm code ml ret R Q D h kc ks pc ls (.long y :: .long x :: rest) := by
  obtain ⟨hd, rfl⟩ := hd
  subst hz
  exact K.plain fun p e m below c T t hx hb X S => XT.lmul (g := mkF m pc ls (.long y :: .long x :: rest)) X hx rfl (Jvm.hb hb hd) rfl S
theorem Runs.land {x y z : Int64} (hd : Ins code pc (.land) 1 pc') (hz : x &&& y = z) (K : Runs w l Z EL n0 own nm code ml ret R Q D h kc ks pc' ls (.long z :: rest)) : Runs w l Z EL n0 own nm code ml ret R Q D h kc ks pc ls (.long y :: .long x :: rest) := by
  obtain ⟨hd, rfl⟩ := hd
  subst hz
  exact K.plain fun p e m below c T t hx hb X S => XT.land (g := mkF m pc ls (.long y :: .long x :: rest)) X hx rfl (Jvm.hb hb hd) rfl S
theorem Runs.lor {x y z : Int64} (hd : Ins code pc (.lor) 1 pc') (hz : x ||| y = z) (K : Runs w l Z EL n0 own nm code ml ret R Q D h kc ks pc' ls (.long z :: rest)) : Runs w l Z EL n0 own nm code ml ret R Q D h kc ks pc ls (.long y :: .long x :: rest) := by
  obtain ⟨hd, rfl⟩ := hd
  subst hz
  exact K.plain fun p e m below c T t hx hb X S => XT.lor (g := mkF m pc ls (.long y :: .long x :: rest)) X hx rfl (Jvm.hb hb hd) rfl S
theorem Runs.lxor {x y z : Int64} (hd : Ins code pc (.lxor) 1 pc') (hz : x ^^^ y = z) (K : Runs w l Z EL n0 own nm code ml ret R Q D h kc ks pc' ls (.long z :: rest)) : Runs w l Z EL n0 own nm code ml ret R Q D h kc ks pc ls (.long y :: .long x :: rest) := by
  obtain ⟨hd, rfl⟩ := hd
  subst hz
  exact K.plain fun p e m below c T t hx hb X S => XT.lxor (g := mkF m pc ls (.long y :: .long x :: rest)) X hx rfl (Jvm.hb hb hd) rfl S
theorem Runs.irem {x y z : Int32} (hd : Ins code pc (.irem) 1 pc') (hy : y ≠ 0) (hz : x % y = z) (K : Runs w l Z EL n0 own nm code ml ret R Q D h kc ks pc' ls (.int z :: rest)) : Runs w l Z EL n0 own nm code ml ret R Q D h kc ks pc ls (.int y :: .int x :: rest) := by
  obtain ⟨hd, rfl⟩ := hd
  subst hz
  exact K.plain fun p e m below c T t hx hb X S => XS.irem (g := mkF m pc ls (.int y :: .int x :: rest)) X hx rfl (Jvm.hb hb hd) rfl hy (by rw [show x - x / y * y = x % y from irem_eq_mod x y]; exact S)
theorem Runs.idiv {x y z : Int32} (hd : Ins code pc (.idiv) 1 pc') (hy : y ≠ 0) (hz : x / y = z) (K : Runs w l Z EL n0 own nm code ml ret R Q D h kc ks pc' ls (.int z :: rest)) : Runs w l Z EL n0 own nm code ml ret R Q D h kc ks pc ls (.int y :: .int x :: rest) := by
  obtain ⟨hd, rfl⟩ := hd
  subst hz
  exact K.plain fun p e m below c T t hx hb X S => XS.idiv (g := mkF m pc ls (.int y :: .int x :: rest)) X hx rfl (Jvm.hb hb hd) rfl hy S
theorem Runs.lcmp {x y : Int64} {z : Int32} (hd : Ins code pc (.lcmp) 1 pc') (hz : XT.cmpL x y = z) (K : Runs w l Z EL n0 own nm code ml ret R Q D h kc ks pc' ls (.int z :: rest)) : Runs w l Z EL n0 own nm code ml ret R Q D h kc ks pc ls (.long y :: .long x :: rest) := by
  obtain ⟨hd, rfl⟩ := hd
  subst hz
  exact K.plain fun p e m below c T t hx hb X S => XT.lcmp (g := mkF m pc ls (.long y :: .long x :: rest)) X hx rfl (Jvm.hb hb hd) rfl S
theorem Runs.ineg {x : Int32} {z : Int32} (hd : Ins code pc (.ineg) 1 pc') (hz : -x = z) (K : Runs w l Z EL n0 own nm code ml ret R Q D h kc ks pc' ls (.int z :: rest)) : Runs w l Z EL n0 own nm code ml ret R Q D h kc ks pc ls (.int x :: rest) := by
  obtain ⟨hd, rfl⟩ := hd
  subst hz
  exact K.plain fun p e m below c T t hx hb X S => XS.ineg (g := mkF m pc ls (.int x :: rest)) X hx rfl (Jvm.hb hb hd) rfl S
theorem Runs.i2l {x : Int32} {z : Int64} (hd : Ins code pc (.i2l) 1 pc') (hz : x.toInt64 = z) (K : Runs w l Z EL n0 own nm code ml ret R Q D h kc ks pc' ls (.long z :: rest)) : Runs w l Z EL n0 own nm code ml ret R Q D h kc ks pc ls (.int x :: rest) := by
  obtain ⟨hd, rfl⟩ := hd
  subst hz
  exact K.plain fun p e m below c T t hx hb X S => XT.i2l (g := mkF m pc ls (.int x :: rest)) X hx rfl (Jvm.hb hb hd) rfl S
theorem Runs.l2i {x : Int64} {z : Int32} (hd : Ins code pc (.l2i) 1 pc') (hz : x.toInt32 = z) (K : Runs w l Z EL n0 own nm code ml ret R Q D h kc ks pc' ls (.int z :: rest)) : Runs w l Z EL n0 own nm code ml ret R Q D h kc ks pc ls (.long x :: rest) := by
  obtain ⟨hd, rfl⟩ := hd
  subst hz
  exact K.plain fun p e m below c T t hx hb X S => XT.l2i (g := mkF m pc ls (.long x :: rest)) X hx rfl (Jvm.hb hb hd) rfl S
theorem Runs.i2b {x : Int32} {z : Int32} (hd : Ins code pc (.i2b) 1 pc') (hz : x.toInt8.toInt32 = z) (K : Runs w l Z EL n0 own nm code ml ret R Q D h kc ks pc' ls (.int z :: rest)) : Runs w l Z EL n0 own nm code ml ret R Q D h kc ks pc ls (.int x :: rest) := by
  obtain ⟨hd, rfl⟩ := hd
  subst hz
  exact K.plain fun p e m below c T t hx hb X S => XT.i2b (g := mkF m pc ls (.int x :: rest)) X hx rfl (Jvm.hb hb hd) rfl S
theorem Runs.i2c {x : Int32} {z : Int32} (hd : Ins code pc (.i2c) 1 pc') (hz : x.toUInt32.toUInt16.toUInt32.toInt32 = z) (K : Runs w l Z EL n0 own nm code ml ret R Q D h kc ks pc' ls (.int z :: rest)) : Runs w l Z EL n0 own nm code ml ret R Q D h kc ks pc ls (.int x :: rest) := by
  obtain ⟨hd, rfl⟩ := hd
  subst hz
  exact K.plain fun p e m below c T t hx hb X S => XT.i2c (g := mkF m pc ls (.int x :: rest)) X hx rfl (Jvm.hb hb hd) rfl S
theorem Runs.i2s {x : Int32} {z : Int32} (hd : Ins code pc (.i2s) 1 pc') (hz : x.toInt16.toInt32 = z) (K : Runs w l Z EL n0 own nm code ml ret R Q D h kc ks pc' ls (.int z :: rest)) : Runs w l Z EL n0 own nm code ml ret R Q D h kc ks pc ls (.int x :: rest) := by
  obtain ⟨hd, rfl⟩ := hd
  subst hz
  exact K.plain fun p e m below c T t hx hb X S => XT.i2s (g := mkF m pc ls (.int x :: rest)) X hx rfl (Jvm.hb hb hd) rfl S
theorem Runs.lneg {x : Int64} {z : Int64} (hd : Ins code pc (.lneg) 1 pc') (hz : -x = z) (K : Runs w l Z EL n0 own nm code ml ret R Q D h kc ks pc' ls (.long z :: rest)) : Runs w l Z EL n0 own nm code ml ret R Q D h kc ks pc ls (.long x :: rest) := by
  obtain ⟨hd, rfl⟩ := hd
  subst hz
  exact K.plain fun p e m below c T t hx hb X S => XT.lneg (g := mkF m pc ls (.long x :: rest)) X hx rfl (Jvm.hb hb hd) rfl S
theorem Runs.iinc {k : Nat} {cst : Int} {x z : Int32} (hd : Ins code pc (.iinc k cst) 3 pc') (hl : ls[k]? = some (.val (.int x))) (hz : x + Int32.ofInt cst = z) (hl' : storeLocals ls k (.int z) = some ls') (K : Runs w l Z EL n0 own nm code ml ret R Q D h kc ks pc' ls' st) : Runs w l Z EL n0 own nm code ml ret R Q D h kc ks pc ls st := by
  obtain ⟨hd, rfl⟩ := hd
  subst hz
  exact K.plain fun p e m below c T t hx hb X S => XS.iinc (g := mkF m pc ls st) X hx rfl (Jvm.hb hb hd) hl hl' S
theorem Runs.dup {x : Value} (hd : Ins code pc (.dup) 1 pc') (hc : x.category = 1) (K : Runs w l Z EL n0 own nm code ml ret R Q D h kc ks pc' ls (x :: x :: rest)) : Runs w l Z EL n0 own nm code ml ret R Q D h kc ks pc ls (x :: rest) := by
  obtain ⟨hd, rfl⟩ := hd
  exact K.plain fun p e m below c T t hx hb X S => XS.dup (g := mkF m pc ls (x :: rest)) X hx rfl (Jvm.hb hb hd) rfl hc S
theorem Runs.pop {x : Value} (hd : Ins code pc (.pop) 1 pc') (hc : x.category = 1) (K : Runs w l Z EL n0 own nm code ml ret R Q D h kc ks pc' ls rest) : Runs w l Z EL n0 own nm code ml ret R Q D h kc ks pc ls (x :: rest) := by
  obtain ⟨hd, rfl⟩ := hd
  exact K.plain fun p e m below c T t hx hb X S => XT.pop (g := mkF m pc ls (x :: rest)) X hx rfl (Jvm.hb hb hd) rfl hc S
theorem Runs.dupX1 {x y : Value} (hd : Ins code pc (.dup_x1) 1 pc') (hc : x.category = 1) (hc' : y.category = 1) (K : Runs w l Z EL n0 own nm code ml ret R Q D h kc ks pc' ls (x :: y :: x :: rest)) : Runs w l Z EL n0 own nm code ml ret R Q D h kc ks pc ls (x :: y :: rest) := by
  obtain ⟨hd, rfl⟩ := hd
  exact K.plain fun p e m below c T t hx hb X S => XT.dupX1 (g := mkF m pc ls (x :: y :: rest)) X hx rfl (Jvm.hb hb hd) rfl hc hc' S
theorem Runs.dup2 {x y : Value} (hd : Ins code pc (.dup2) 1 pc') (hc : x.category = 1) (hc' : y.category = 1) (K : Runs w l Z EL n0 own nm code ml ret R Q D h kc ks pc' ls (x :: y :: x :: y :: rest)) : Runs w l Z EL n0 own nm code ml ret R Q D h kc ks pc ls (x :: y :: rest) := by
  obtain ⟨hd, rfl⟩ := hd
  exact K.plain fun p e m below c T t hx hb X S => XT.dup2 (g := mkF m pc ls (x :: y :: rest)) X hx rfl (Jvm.hb hb hd) rfl hc hc' S
theorem Runs.goto  {o : Int} {t nx : Nat} (hd : Ins code pc (.goto o) 3 nx) (hj : Jmp pc o t)  (K : Runs w l Z EL n0 own nm code ml ret R Q D h kc ks t ls st) : Runs w l Z EL n0 own nm code ml ret R Q D h kc ks pc ls st :=
  K.plain fun p e m below c T tg hx hb X S => XS.goto (g := mkF m pc ls st) X hx rfl (pc0 := pc) rfl (Jvm.hb hb hd.1) hj.1 hj.2 S
theorem Runs.ifY {cd : ClassFile.Cond} {x : Int32} {o : Int} {t nx : Nat} (hd : Ins code pc (.ifCond cd o) 3 nx) (hj : Jmp pc o t) (hc : if_icmp.holds cd x 0 = true) (K : Runs w l Z EL n0 own nm code ml ret R Q D h kc ks t ls rest) : Runs w l Z EL n0 own nm code ml ret R Q D h kc ks pc ls (.int x :: rest) :=
  K.plain fun p e m below c T tg hx hb X S => XS.ifYes (g := mkF m pc ls (.int x :: rest)) X hx rfl (pc0 := pc) rfl (Jvm.hb hb hd.1) rfl ((if0 cd x).trans hc) hj.1 hj.2 S
theorem Runs.icY {cd : ClassFile.Cond} {x y : Int32} {o : Int} {t nx : Nat} (hd : Ins code pc (.if_icmp cd o) 3 nx) (hj : Jmp pc o t) (hc : if_icmp.holds cd x y = true) (K : Runs w l Z EL n0 own nm code ml ret R Q D h kc ks t ls rest) : Runs w l Z EL n0 own nm code ml ret R Q D h kc ks pc ls (.int y :: .int x :: rest) :=
  K.plain fun p e m below c T tg hx hb X S => XS.icmpYes (g := mkF m pc ls (.int y :: .int x :: rest)) X hx rfl (pc0 := pc) rfl (Jvm.hb hb hd.1) rfl hc hj.1 hj.2 S
theorem Runs.nullY  {o : Int} {t nx : Nat} (hd : Ins code pc (.ifnull o) 3 nx) (hj : Jmp pc o t)  (K : Runs w l Z EL n0 own nm code ml ret R Q D h kc ks t ls rest) : Runs w l Z EL n0 own nm code ml ret R Q D h kc ks pc ls (.null :: rest) :=
  K.plain fun p e m below c T tg hx hb X S => XS.ifnullYes (g := mkF m pc ls (.null :: rest)) X hx rfl (pc0 := pc) rfl (Jvm.hb hb hd.1) rfl hj.1 hj.2 S
theorem Runs.nnullY {b : Addr} {o : Int} {t nx : Nat} (hd : Ins code pc (.ifnonnull o) 3 nx) (hj : Jmp pc o t)  (K : Runs w l Z EL n0 own nm code ml ret R Q D h kc ks t ls rest) : Runs w l Z EL n0 own nm code ml ret R Q D h kc ks pc ls (.ref b :: rest) :=
  K.plain fun p e m below c T tg hx hb X S => XT.ifnonnullYes (g := mkF m pc ls (.ref b :: rest)) X hx rfl (pc0 := pc) rfl (Jvm.hb hb hd.1) rfl hj.1 hj.2 S
theorem Runs.acY {cd : ClassFile.ACond} {x y : Value} {o : Int} {t nx : Nat} (hd : Ins code pc (.if_acmp cd o) 3 nx) (hj : Jmp pc o t) (hx' : x.isRef = true) (hy' : y.isRef = true) (hc : XT.acmp cd x y = true) (K : Runs w l Z EL n0 own nm code ml ret R Q D h kc ks t ls rest) : Runs w l Z EL n0 own nm code ml ret R Q D h kc ks pc ls (y :: x :: rest) :=
  K.plain fun p e m below c T tg hx hb X S => XT.acmpYes (g := mkF m pc ls (y :: x :: rest)) X hx rfl (pc0 := pc) rfl (Jvm.hb hb hd.1) rfl hx' hy' hc hj.1 hj.2 S
theorem Runs.ifN {cd : ClassFile.Cond} {o : Int} {x : Int32} (hd : Ins code pc (.ifCond cd o) 3 pc') (hc : if_icmp.holds cd x 0 = false) (K : Runs w l Z EL n0 own nm code ml ret R Q D h kc ks pc' ls rest) : Runs w l Z EL n0 own nm code ml ret R Q D h kc ks pc ls (.int x :: rest) := by
  obtain ⟨hd, rfl⟩ := hd
  exact K.plain fun p e m below c T t hx hb X S => XS.ifNo (g := mkF m pc ls (.int x :: rest)) X hx rfl (Jvm.hb hb hd) rfl ((if0 cd x).trans hc) S
theorem Runs.icN {cd : ClassFile.Cond} {o : Int} {x y : Int32} (hd : Ins code pc (.if_icmp cd o) 3 pc') (hc : if_icmp.holds cd x y = false) (K : Runs w l Z EL n0 own nm code ml ret R Q D h kc ks pc' ls rest) : Runs w l Z EL n0 own nm code ml ret R Q D h kc ks pc ls (.int y :: .int x :: rest) := by
  obtain ⟨hd, rfl⟩ := hd
  exact K.plain fun p e m below c T t hx hb X S => XS.icmpNo (g := mkF m pc ls (.int y :: .int x :: rest)) X hx rfl (Jvm.hb hb hd) rfl hc S
theorem Runs.nullN {o : Int} {b : Addr} (hd : Ins code pc (.ifnull o) 3 pc')  (K : Runs w l Z EL n0 own nm code ml ret R Q D h kc ks pc' ls rest) : Runs w l Z EL n0 own nm code ml ret R Q D h kc ks pc ls (.ref b :: rest) := by
  obtain ⟨hd, rfl⟩ := hd
  exact K.plain fun p e m below c T t hx hb X S => XS.ifnullNo (g := mkF m pc ls (.ref b :: rest)) X hx rfl (Jvm.hb hb hd) rfl S
theorem Runs.nnullN {o : Int} (hd : Ins code pc (.ifnonnull o) 3 pc')  (K : Runs w l Z EL n0 own nm code ml ret R Q D h kc ks pc' ls rest) : Runs w l Z EL n0 own nm code ml ret R Q D h kc ks pc ls (.null :: rest) := by
  obtain ⟨hd, rfl⟩ := hd
  exact K.plain fun p e m below c T t hx hb X S => XT.ifnonnullNo (g := mkF m pc ls (.null :: rest)) X hx rfl (Jvm.hb hb hd) rfl S
theorem Runs.acN {cd : ClassFile.ACond} {o : Int} {x y : Value} (hd : Ins code pc (.if_acmp cd o) 3 pc') (hx' : x.isRef = true) (hy' : y.isRef = true) (hc : XT.acmp cd x y = false) (K : Runs w l Z EL n0 own nm code ml ret R Q D h kc ks pc' ls rest) : Runs w l Z EL n0 own nm code ml ret R Q D h kc ks pc ls (y :: x :: rest) := by
  obtain ⟨hd, rfl⟩ := hd
  exact K.plain fun p e m below c T t hx hb X S => XT.acmpNo (g := mkF m pc ls (y :: x :: rest)) X hx rfl (Jvm.hb hb hd) rfl hx' hy' hc S

/-! the returns -/
theorem Runs.leave {v : Option Value} (hv : ret = none → v = none)
    (f : ∀ (p : Program) (e : Env) (s : State) (m : MethodId) (args : Array Value) (below : List Frame) (meth : Method) (c : Code) (T : State) (locs : List Loc), Ctx p s m meth c Z own nm code ml ret → Stand p l e R s m args below meth c T locs kc ks → ∀ fs : List Frame,
      (∀ (f : JFrame) (acts : List Action), f.method = m → f.locked = none → f.entered = [] → (doReturn e (T.setTop f) acts v).1 = T.setFrames fs) → Steps p.tables e below (T.setTop (mkF m pc ls st)) (T.setFrames fs))
    (hc : kc ≤ R.cells) (hk : ks ≤ R.slots) (hQ : Q v h D) : Runs w l Z EL n0 own nm code ml ret R Q D h kc ks pc ls st := by
  intro p e s vm0 m args below meth c T locs C X eT N O H Kw
  have hlk : meth.locks = false := C.2.2.2.2.2.2.1
  have hr : meth.sig.returnType = ret := C.2.2.2.2.2.1
  obtain ⟨H1, ⟨a0, H2⟩, H3, H4⟩ := H
  have A := CHv.at X C.2.1 H2 H3.1
  have hs : ∀ x ∈ D, x < h.size ∧ Safe Z EL T.vm h x := fun x hx => ⟨(H4 x hx).1, A.safe (H4 x hx).1 (H4 x hx).2⟩
  have A' := H3.trans A
  subst eT
  by_cases w0 : w = 0
  · have e1 : vm0 = s.vm := by rw [if_pos w0] at H1; exact H1
    subst e1
    obtain ⟨fs, h1, h2, h3, h4, h5⟩ := X.leave (v := v) (fun q => hv (hr ▸ q)) hlk
    exact ⟨_, _, f p e _ m args below meth c T locs C X fs h1, h2, h3, v, locs, D, rfl, hQ, O, N, ⟨A', hs⟩, by unfold En; rw [if_pos w0]; exact ⟨⟨v, rfl⟩, h4, h5.mono hc hk⟩⟩
  · rw [if_neg w0] at H1
    obtain ⟨k0, hS, hk0⟩ := H1
    obtain ⟨fs, h1, h2, h3, ⟨g1, g2, g3, g4⟩⟩ := X.leaveW hS hk0 (v := v) (fun q => hv (hr ▸ q)) hlk
    exact ⟨_, _, f p e _ m args below meth c T locs C X fs h1, h2, h3, v, locs, D, rfl, hQ, O, N, ⟨A', hs⟩, by unfold En; rw [if_neg w0]; exact ⟨g1, g2, g3, g4.mono hc hk⟩⟩
theorem Runs.retV {nx : Nat} (hd : Ins code pc .return_ 1 nx) (hr : ret = none) (hc : kc ≤ R.cells) (hk : ks ≤ R.slots) (hQ : Q none h D) : Runs w l Z EL n0 own nm code ml ret R Q D h kc ks pc ls [] :=
  Runs.leave (v := none) (fun _ => rfl) (fun p e s m args below meth c T locs C X fs hl => X.returnOut C.1 (C.2.2.2.2.2.1.trans hr) (Jvm.hb C.2.2.1 hd.1) hl) hc hk hQ
theorem Runs.retI {nx : Nat} {t : FieldType} {x z : Int32} (hd : Ins code pc .ireturn 1 nx) (hr : ret = some t) (ht : t = .int ∨ t = .boolean ∨ t = .byte ∨ t = .char ∨ t = .short) (hn : narrow t (.int x) = .int z) (hc : kc ≤ R.cells) (hk : ks ≤ R.slots) (hQ : Q (some (.int z)) h D) : Runs w l Z EL n0 own nm code ml ret R Q D h kc ks pc ls [.int x] :=
  Runs.leave (v := some (.int z)) (fun q => by rw [hr] at q; cases q) (fun p e s m args below meth c T locs C X fs hl => by
    have hm' : T.vm.method? m = some meth := X.method'
    have hx := C.1
    have hd' := Jvm.hb C.2.2.1 hd.1
    have hret : meth.sig.returnType = some t := C.2.2.2.2.2.1.trans hr
    show Steps p.tables e below (T.setTop { method := m, pc := pc, locals := ls, stack := [_], locked := none }) _
    rcases ht with rfl | rfl | rfl | rfl | rfl
    all_goals
      jvm_step X.here [X.here.top, hx, hd', hm', hret, hn]
      first | (intro acts; rw [hl _ acts rfl rfl rfl]) | rw [hl _ _ rfl rfl rfl]
      exact Steps.refl _) hc hk hQ
theorem Runs.retA {nx : Nat} {t : FieldType} {x : Value} (hd : Ins code pc .areturn 1 nx) (hr : ret = some t) (ht : t.isReference = true) (hx : x.isRef = true) (hc : kc ≤ R.cells) (hk : ks ≤ R.slots) (hQ : Q (some x) h D) : Runs w l Z EL n0 own nm code ml ret R Q D h kc ks pc ls [x] :=
  Runs.leave (v := some x) (fun q => by rw [hr] at q; cases q) (fun p e s m args below meth c T locs C X fs hl =>
    RoadKit.retOut X C.1 (C.2.2.2.2.2.1.trans hr) (by cases x <;> first | rfl | (simp [Value.isRef] at hx; done) | (cases t <;> first | rfl | (simp [FieldType.isReference] at ht; done))) (Or.inr (Or.inr (Or.inr (Or.inr ⟨rfl, ht, hx⟩)))) (Jvm.hb C.2.2.1 hd.1) hl) hc hk hQ
theorem Runs.retJ {nx : Nat} {x : Int64} (hd : Ins code pc .lreturn 1 nx) (hr : ret = some .long) (hc : kc ≤ R.cells) (hk : ks ≤ R.slots) (hQ : Q (some (.long x)) h D) : Runs w l Z EL n0 own nm code ml ret R Q D h kc ks pc ls [.long x] :=
  Runs.leave (v := some (.long x)) (fun q => by rw [hr] at q; cases q) (fun p e s m args below meth c T locs C X fs hl =>
    RoadKit.retOut X C.1 (C.2.2.2.2.2.1.trans hr) rfl (Or.inr (Or.inl ⟨rfl, rfl, x, rfl⟩)) (Jvm.hb C.2.2.1 hd.1) hl) hc hk hQ
/-! statics, fields, constants -/
theorem Runs.getS {R0 O n d : String} {index : Nat} {v : Value} (hd : Ins code pc (.getstatic index) 3 pc') (wl : (Cond.fieldLink own index R0 n d).before a0 Z = true) (via : Via Z R0 O n d) (F : Sta Z Z.heap O n d v) (K : Runs w l Z EL n0 own nm code ml ret R Q D h kc ks pc' ls (v :: st)) : Runs w l Z EL n0 own nm code ml ret R Q D h kc ks pc ls st := by
  obtain ⟨hd, rfl⟩ := hd
  exact K.warm fun p e s m args below meth c T locs C X eT O => RoadKit.getS (host := "") X C.1 C.2.1 C.2.2.2.2.1 wl via eT (F.ext O.2) (g := mkF m pc ls st) rfl (Jvm.hb C.2.2.1 hd)
theorem Runs.getSN {R0 O n d host : String} {index : Nat} {v : Value} (hd : Ins code pc (.getstatic index) 3 pc') (wl : (Cond.fieldLinkNest own index R0 n d host).before a0 Z = true) (via : Via Z R0 O n d) (F : Sta Z Z.heap O n d v) (K : Runs w l Z EL n0 own nm code ml ret R Q D h kc ks pc' ls (v :: st)) : Runs w l Z EL n0 own nm code ml ret R Q D h kc ks pc ls st := by
  obtain ⟨hd, rfl⟩ := hd
  exact K.warm fun p e s m args below meth c T locs C X eT O => RoadKit.getS2 (host := host) X C.1 C.2.1 C.2.2.2.2.1 (Or.inr wl) via eT (F.ext O.2) (g := mkF m pc ls st) rfl (Jvm.hb C.2.2.1 hd)
theorem Runs.getF {R0 O n d host : String} {index : Nat} {a : Addr} {v : Value} (hd : Ins code pc (.getfield index) 3 pc') (wl : (Cond.fieldLink own index R0 n d).before a0 Z = true ∨ (Cond.fieldLinkNest own index R0 n d host).before a0 Z = true) (via : Via Z R0 O n d) (F : Fld Z h a O n d v) (K : Runs w l Z EL n0 own nm code ml ret R Q D h kc ks pc' ls (v :: rest)) : Runs w l Z EL n0 own nm code ml ret R Q D h kc ks pc ls (.ref a :: rest) := by
  obtain ⟨hd, rfl⟩ := hd
  exact K.warm fun p e s m args below meth c T locs C X eT O => RoadKit.getF X C.1 C.2.1 C.2.2.2.2.1 wl via eT F (g := mkF m pc ls (.ref a :: rest)) rfl rfl (Jvm.hb C.2.2.1 hd)
theorem Runs.ldcI {index : Nat} {v : Int32} (hd : Ins code pc (.ldc index) 2 pc') (wl : (Cond.constant own index v).before a0 Z = true) (K : Runs w l Z EL n0 own nm code ml ret R Q D h kc ks pc' ls (.int v :: st)) : Runs w l Z EL n0 own nm code ml ret R Q D h kc ks pc ls st := by
  obtain ⟨hd, rfl⟩ := hd
  exact K.warm fun p e s m args below meth c T locs C X eT O => ⟨T, X, eT, fun t S => X.ldcI C.1 C.2.2.2.2.1 (mv C.2.1 wl) (g := mkF m pc ls st) rfl (Jvm.hb C.2.2.1 hd) S⟩
theorem Runs.ldcJ {index : Nat} {v : Int64} (hd : Ins code pc (.ldc2_w index) 3 pc') (wl : (Cond.constantLong own index v).before a0 Z = true) (K : Runs w l Z EL n0 own nm code ml ret R Q D h kc ks pc' ls (.long v :: st)) : Runs w l Z EL n0 own nm code ml ret R Q D h kc ks pc ls st := by
  obtain ⟨hd, rfl⟩ := hd
  exact K.warm fun p e s m args below meth c T locs C X eT O => ⟨T, X, eT, fun t S => X.ldc2J C.1 C.2.2.2.2.1 (mv C.2.1 wl) (g := mkF m pc ls st) rfl (Jvm.hb C.2.2.1 hd) S⟩
end W


/-! objects, arrays -/
abbrev FV := String × String × String × Value
def FV.key (f : FV) : String × String × String := (f.1, f.2.1, f.2.2.1)
/-- the object at a is exactly a C; its fields fs hold what they say -/
def Obj (Z : State) (h : Heap) (a : Addr) (C : String) (fs : List FV) : Prop := Exa Z h a C ∧ ∀ f ∈ fs, Fld Z h a f.1 f.2.1 f.2.2.1 f.2.2.2
/-- the fields of a C, at their first values -/
def LayD (Z : State) (a0 : Array Value) (C : String) (dl : List FV) : Prop := (∀ f ∈ dl, Laid Z a0 C f.1 f.2.1 f.2.2.1 ∧ ∃ t, parseFieldDescriptor f.2.2.1 = some t ∧ defaultValue t = f.2.2.2) ∧ (dl.map fun f => f.2.1).Nodup
section H
variable {Z : State} {h h' : Heap} {a b : Addr} {C : String} {fs dl : List FV} {ws : List Addr} {a0 : Array Value}
theorem Obj.fld {i : Nat} {o n d : String} {v : Value} (O : Obj Z h a C fs) (hi : fs[i]? = some (o, n, d, v)) : Fld Z h a o n d v := O.2 _ (List.mem_of_getElem? hi)
theorem Obj.keep (O : Obj Z h a C fs) (K : Keep h h' ws) (q : a ∉ ws) : Obj Z h' a C fs := ⟨O.1.keep K, fun f hf => (O.2 f hf).keep K q⟩
theorem Obj.ext (O : Obj Z h a C fs) (E : Ext h h') : Obj Z h' a C fs := ⟨O.1.ext E, fun f hf => (O.2 f hf).ext E⟩
theorem Obj.lt (O : Obj Z h a C fs) : a < h.size := O.1.lt
theorem Obj.sub {gs : List FV} (O : Obj Z h a C fs) (q : ∀ f ∈ gs, f ∈ fs) : Obj Z h a C gs := ⟨O.1, fun f hf => O.2 f (q f hf)⟩
theorem keepE (E : Ext h h') : Keep h h' ws := (Keep.refl h ws).ext E
theorem Keep.sub {ws' : List Addr} (K : Keep h h' ws) (q : ∀ x ∈ ws, x ∈ ws') : Keep h h' ws' := ⟨K.1, fun x c e r => K.2.1 x c e fun z => r (q x z), K.2.2⟩
theorem nodup_key : ∀ {dl : List FV} {i j : Nat} {f g : FV}, (dl.map fun f => f.2.1).Nodup → dl[i]? = some f → dl[j]? = some g → i ≠ j → f.2.1 ≠ g.2.1 := by
  intro dl i j f g hn hi hj hij he
  obtain ⟨h1, e1⟩ := List.getElem?_eq_some_iff.mp hi
  obtain ⟨h2, e2⟩ := List.getElem?_eq_some_iff.mp hj
  have hp := List.pairwise_iff_getElem.mp hn
  rcases Nat.lt_or_gt_of_ne hij with q | q
  · exact hp i j (by simpa using h1) (by simpa using h2) q (by simp only [List.getElem_map, e1, e2]; exact he)
  · exact hp j i (by simpa using h2) (by simpa using h1) q (by simp only [List.getElem_map, e1, e2]; exact he.symm)
theorem Obj.put {i : Nat} {o n d : String} {old v : Value} (O : Obj Z h a C fs) (hi : fs[i]? = some (o, n, d, old)) (L : LayD Z a0 C dl) (hk : fs.map FV.key = dl.map FV.key) (W : Wr h h' a (RoadKit.slotOf Z o n d) v) : Obj Z h' a C (fs.set i (o, n, d, v)) := by
  refine ⟨O.1.wr W, fun f hf => ?_⟩
  obtain ⟨j, hj⟩ := List.mem_iff_getElem?.mp hf
  by_cases e : i = j
  · subst e
    rw [List.getElem?_set_self (by exact (List.getElem?_eq_some_iff.mp hi).1)] at hj
    cases hj
    exact (O.fld hi).same W
  · rw [List.getElem?_set_ne e] at hj
    obtain ⟨o', n', d', v'⟩ := f
    have F := O.fld hj
    have key : ∀ {k : Nat} {g : FV}, fs[k]? = some g → ∃ g' : FV, dl[k]? = some g' ∧ g'.key = g.key := fun {k g} q => by
      have q' : (fs.map FV.key)[k]? = some g.key := by simp [q]
      rw [hk, List.getElem?_map] at q'
      cases hd : dl[k]? with
      | none => simp [hd] at q'
      | some g' => exact ⟨g', rfl, by simpa [hd] using q'⟩
    obtain ⟨f1, q1, k1⟩ := key hi
    obtain ⟨f2, q2, k2⟩ := key hj
    have hne := nodup_key L.2 q1 q2 e
    obtain ⟨L1, t1, p1, -⟩ := L.1 f1 (List.mem_of_getElem? q1)
    obtain ⟨L2, t2, p2, -⟩ := L.1 f2 (List.mem_of_getElem? q2)
    simp only [FV.key, Prod.mk.injEq] at k1 k2
    obtain ⟨a1, b1, c1⟩ := k1
    obtain ⟨a2, b2, c2⟩ := k2
    rw [a1, b1, c1] at L1; rw [a2, b2, c2] at L2; rw [c1] at p1; rw [c2] at p2
    exact F.other W (Or.inr (slot_ne L2 L1 (by rw [← b1, ← b2]; exact fun z => hne z.symm) p2 p1))
end H
section W2
variable {w : Nat} {l : Launch} {Z : State} {EL : List (String × Nat)} {n0 : Nat} {own nm : String} {code : ByteArray} {ml : Nat} {ret : Option FieldType} {R : Room} {Q : Option Value → Heap → List Addr → Prop} {D : List Addr} {h h' : Heap} {kc ks pc pc' : Nat} {ls ls' : Array Slot} {st st' rest : List Value} {a0 : Array Value} {s : State} {vm0 : Vm}
theorem Hid.keep {ws : List Addr} (H : Hid w Z EL D s vm0 h) (K : Keep h h' ws) (q : ∀ x ∈ ws, Safe Z EL vm0 h x) : Hid w Z EL D s vm0 h' := by
  obtain ⟨H1, H2, H3, H4⟩ := H
  refine ⟨?_, H2, H3.trans (CHr.keep K q H3.1), fun x hx => ⟨Nat.lt_of_lt_of_le (H4 x hx).1 K.1, (H4 x hx).2.keep K q H3.1⟩⟩
  split
  · rename_i e; rw [if_pos e] at H1; exact H1
  · rename_i e; rw [if_neg e] at H1; obtain ⟨k0, g1, g2⟩ := H1; exact ⟨k0, g1, Nat.le_trans g2 K.1⟩
theorem Hid.more {b : Addr} (H : Hid w Z EL D s vm0 h) (E : Ext h h') (hb : h.size ≤ b) (hb' : b < h'.size) : Hid w Z EL (b :: D) s vm0 h' := by
  have H' := H.keep (keepE (ws := []) E) (fun x q => nomatch q)
  refine ⟨H'.1, H'.2.1, H'.2.2.1, fun x hx => ?_⟩
  rcases List.mem_cons.mp hx with rfl | hx
  · exact ⟨hb', (Safe.new hb).ext E H.2.2.1.1⟩
  · exact H'.2.2.2 x hx
/-- a step that writes one old place, or none -/
theorem Runs.write {ws : List Addr} {P : Heap → Prop} (hg : ∀ x ∈ ws, n0 ≤ x) (hs : ∀ vm0 : Vm, Z.vm.Alike vm0 → (∀ x ∈ D, Safe Z EL vm0 h x) → ∀ x ∈ ws, Safe Z EL vm0 h x)
    (K : ∀ h', Keep h h' ws → P h' → Runs w l Z EL n0 own nm code ml ret R Q D h' kc ks pc' ls' st')
    (f : ∀ (p : Program) (e : Env) (s : State) (m : MethodId) (args : Array Value) (below : List Frame) (meth : Method) (c : Code) (T : State) (locs : List Loc), Ctx p s m meth c Z own nm code ml ret → Stand p l e R s m args below meth c T locs kc ks → T.heap = h → Old Z n0 h → Fr n0 locs →
      ∃ T' locs', Stand p l e R s m args below meth c T' locs' kc ks ∧ Fr n0 locs' ∧ Keep h T'.heap ws ∧ P T'.heap ∧ ∀ target, Steps p.tables e below (T'.setTop (mkF m pc' ls' st')) target → Steps p.tables e below (T.setTop (mkF m pc ls st)) target) : Runs w l Z EL n0 own nm code ml ret R Q D h kc ks pc ls st := by
  intro p e s vm0 m args below meth c T locs C X eT N O H Kw
  obtain ⟨T', locs', X', N', K', P', S'⟩ := f p e _ m args below meth c T locs C X eT O N
  obtain ⟨s₂, o, S, r⟩ := K _ K' P' p e s vm0 m args below meth c T' locs' C X' rfl N' (O.keep K' hg) (H.keep K' (hs vm0 C.2.1.alike (fun x hx => (H.2.2.2 x hx).2))) Kw
  exact ⟨s₂, o, S' _ S, r⟩
theorem safeC {a : Addr} {C : String} (E : Exa Z h a C) (hs : a ∈ D ∨ (C ≠ "java/lang/String" ∧ C ≠ "[B")) : ∀ vm0 : Vm, Z.vm.Alike vm0 → (∀ x ∈ D, Safe Z EL vm0 h x) → ∀ x ∈ [a], Safe Z EL vm0 h x := fun vm0 hal hD x hx => by
  cases List.mem_singleton.mp hx
  rcases hs with hs | hs
  · exact hD _ hs
  · exact Safe.exa hal E hs.1 hs.2
theorem safeA {a : Addr} {k : ClassId} {ty : FieldType} {z : Int32} {vs : List Value} {d : Value} (A : Arv Z h a k ty z vs d) (hs : a ∈ D ∨ ty ≠ .byte) : ∀ vm0 : Vm, Z.vm.Alike vm0 → (∀ x ∈ D, Safe Z EL vm0 h x) → ∀ x ∈ [a], Safe Z EL vm0 h x := fun vm0 hal hD x hx => by
  cases List.mem_singleton.mp hx
  rcases hs with hs | hs
  · exact hD _ hs
  · exact Safe.arv hal A hs
theorem one_ge {a : Addr} (hg : n0 ≤ a) : ∀ x ∈ [a], n0 ≤ x := fun x hx => by cases List.mem_singleton.mp hx; exact hg
theorem Runs.putF {R0 O n d host C : String} {index kk i : Nat} {ty : FieldType} {a : Addr} {v old : Value} {fs dl : List FV} (hd : Ins code pc (.putfield index) 3 pc') (wl : (Cond.fieldLink own index R0 n d).before a0 Z = true ∨ (Cond.fieldLinkNest own index R0 n d host).before a0 Z = true) (via : Via Z R0 O n d)
    (B : Obj Z h a C fs) (hi : fs[i]? = some (O, n, d, old)) (LD : LayD Z a0 C dl) (hk : fs.map FV.key = dl.map FV.key) (L : (Cond.lays C O n d).before a0 Z = true ∨ ((Cond.laysFinal C O n d).before a0 Z = true ∧ own = O ∧ nm = "<init>")) (wi : (Cond.instantiable C kk).before a0 Z = true)
    (hty : parseFieldDescriptor d = some ty) (hn : narrow ty v = v) (hf : fits ty v = true) (hg : n0 ≤ a) (hs : a ∈ D ∨ (C ≠ "java/lang/String" ∧ C ≠ "[B"))
    (K : ∀ h', Keep h h' [a] → Obj Z h' a C (fs.set i (O, n, d, v)) → Runs w l Z EL n0 own nm code ml ret R Q D h' kc ks pc' ls rest) : Runs w l Z EL n0 own nm code ml ret R Q D h kc ks pc ls (v :: .ref a :: rest) := by
  obtain ⟨hd, rfl⟩ := hd
  refine Runs.write (P := fun h' => Obj Z h' a C (fs.set i (O, n, d, v))) (one_ge hg) (safeC B.1 hs) K fun p e s m args below meth c T locs Cx X eT Ol N => ?_
  obtain ⟨T', h1, X', e1, W1, S1⟩ := RoadKit.putF X Cx.1 Cx.2.1 Cx.2.2.2.2.1 wl via eT (B.fld hi) B.1 (L.imp id fun q => ⟨q.1, q.2.1, Cx.2.2.2.2.2.2.2.1.trans q.2.2⟩) wi hty hn hf (g := mkF m pc ls (v :: .ref a :: rest)) rfl rfl (Jvm.hb Cx.2.2.1 hd)
  subst e1
  exact ⟨T', _, X', Fr.snoc X' N hg, Keep.of_wr W1, B.put hi LD hk W1, S1⟩
theorem Runs.newO {C : String} {index n : Nat} {dl : List FV} (hd : Ins code pc (.new index) 3 pc') (w1 : (Cond.classLink own index C).before a0 Z = true) (w2 : (Cond.instantiable C n).before a0 Z = true) (w3 : (Cond.initialized C).before a0 Z = true) (LD : LayD Z a0 C dl) (hc : kc + 1 ≤ R.cells) (hl : ks + n ≤ R.slots)
    (K : ∀ h' b, h.size ≤ b → n0 ≤ b → Keep h h' [] → Obj Z h' b C dl → Unt h' b → Runs w l Z EL n0 own nm code ml ret R Q (b :: D) h' (kc + 1) (ks + n) pc' ls (.ref b :: st)) : Runs w l Z EL n0 own nm code ml ret R Q D h kc ks pc ls st := by
  obtain ⟨hd, rfl⟩ := hd
  intro p e s vm0 m args below meth c T locs C' X eT N O H Kw
  obtain ⟨T', h1, X', e1, E1, A1, D1, U1, S1⟩ := RoadKit.newO X C'.1 C'.2.1 C'.2.2.2.2.1 w1 w2 w3 eT (g := mkF m pc ls st) rfl (Jvm.hb C'.2.2.1 hd) hc hl
  subst e1
  have hO : n0 ≤ h.size := by rw [← O.1]; exact O.2.1
  obtain ⟨s₂, o, S, r⟩ := K _ h.size (Nat.le_refl _) hO (keepE E1) ⟨A1, fun f hf => by obtain ⟨L1, t, p1, d1⟩ := LD.1 f hf; rw [← d1]; exact D1 L1 p1⟩ U1 p e s vm0 m args below meth c T' locs C' X' rfl N (O.ext E1) (H.more E1 (Nat.le_refl _) A1.lt) Kw
  exact ⟨s₂, o, S1 _ S, r⟩
theorem Runs.newP {aty : ArrayType} {n : Int32} {cap : Nat} {ad : String} (hd : Ins code pc (.newarray aty) 2 pc') (w1 : (Cond.arrayClass (newarray.typeOf aty)).before a0 Z = true) (hn : ¬ n < 0) (hcap : n.toNatClampNeg ≤ cap) (hb : cap * 8 ≤ 536870912) (hc : kc + 1 ≤ R.cells) (hl : ks + cap ≤ R.slots) (had : "[" ++ (newarray.typeOf aty).toString = ad)
    (K : ∀ h' b k, h.size ≤ b → n0 ≤ b → Keep h h' [] → Arv Z h' b k (newarray.typeOf aty) n [] (defaultValue (newarray.typeOf aty)) → Exa Z h' b ad → Runs w l Z EL n0 own nm code ml ret R Q (b :: D) h' (kc + 1) (ks + cap) pc' ls (.ref b :: rest)) : Runs w l Z EL n0 own nm code ml ret R Q D h kc ks pc ls (.int n :: rest) := by
  obtain ⟨hd, rfl⟩ := hd
  intro p e s vm0 m args below meth c T locs C' X eT N O H Kw
  obtain ⟨T', h1, cA, X', e1, E1, A1, x1, S1⟩ := RoadKit.newPE X C'.1 C'.2.1 w1 eT (g := mkF m pc ls (.int n :: rest)) rfl (Jvm.hb C'.2.2.1 hd) rfl hn hcap hb hc hl had
  subst e1
  have hO : n0 ≤ h.size := by rw [← O.1]; exact O.2.1
  obtain ⟨s₂, o, S, r⟩ := K _ h.size cA (Nat.le_refl _) hO (keepE E1) (Arv.new A1 hn) x1 p e s vm0 m args below meth c T' locs C' X' rfl N (O.ext E1) (H.more E1 (Nat.le_refl _) x1.lt) Kw
  exact ⟨s₂, o, S1 _ S, r⟩
theorem Runs.arrlen {a : Addr} {k : ClassId} {ty : FieldType} {z : Int32} {vs : List Value} {d : Value} (hd : Ins code pc .arraylength 1 pc') (A : Arv Z h a k ty z vs d) (K : Runs w l Z EL n0 own nm code ml ret R Q D h kc ks pc' ls (.int z :: rest)) : Runs w l Z EL n0 own nm code ml ret R Q D h kc ks pc ls (.ref a :: rest) := by
  obtain ⟨hd, rfl⟩ := hd
  obtain ⟨cl, A1, -, S1, q, -⟩ := A
  refine K.warm fun p e s m args below meth c T locs C X eT O => ⟨T, X, eT, fun t S => X.arraylength C.1 (by rw [eT]; exact A1.1) (State.isArrayOf_alike C.2.1.alike A1.2.1) (g := mkF m pc ls (.ref a :: rest)) rfl rfl (Jvm.hb C.2.2.1 hd) t ?_⟩
  rw [len_of S1 q]; exact S

theorem Runs.baload {a : Addr} {k : ClassId} {z j : Int32} {vs : List Value} {d v : Value} (hd : Ins code pc .baload 1 pc') (A : Arv Z h a k .byte z vs d) (hj : ¬ j < 0 ∧ j < z) (hv : vs.getD j.toNatClampNeg d = v) (K : Runs w l Z EL n0 own nm code ml ret R Q D h kc ks pc' ls (v :: rest)) : Runs w l Z EL n0 own nm code ml ret R Q D h kc ks pc ls (.int j :: .ref a :: rest) := by
  obtain ⟨hd, rfl⟩ := hd
  obtain ⟨cl, A1, -, S1, q, H1, -⟩ := A
  have hin := inb_of S1 hj
  exact K.warm fun p e s m args below meth c T locs C X eT O => ⟨T, X, eT, fun t S => X.baloadBytes C.1 (by rw [eT]; exact A1.1) (State.isArrayOf_alike C.2.1.alike A1.2.1) A1.2.2 hin (H1.at hin hv) (g := mkF m pc ls (.int j :: .ref a :: rest)) rfl rfl (Jvm.hb C.2.2.1 hd) t S⟩
theorem Runs.caload {a : Addr} {k : ClassId} {z j : Int32} {vs : List Value} {d v : Value} (hd : Ins code pc .caload 1 pc') (A : Arv Z h a k .char z vs d) (hj : ¬ j < 0 ∧ j < z) (hv : vs.getD j.toNatClampNeg d = v) (K : Runs w l Z EL n0 own nm code ml ret R Q D h kc ks pc' ls (v :: rest)) : Runs w l Z EL n0 own nm code ml ret R Q D h kc ks pc ls (.int j :: .ref a :: rest) := by
  obtain ⟨hd, rfl⟩ := hd
  obtain ⟨cl, A1, -, S1, q, H1, -⟩ := A
  have hin := inb_of S1 hj
  exact K.warm fun p e s m args below meth c T locs C X eT O => ⟨T, X, eT, fun t S => X.caload C.1 (by rw [eT]; exact A1.1) (State.isArrayOf_alike C.2.1.alike A1.2.1) A1.2.2 hin (H1.at hin hv) (g := mkF m pc ls (.int j :: .ref a :: rest)) rfl rfl (Jvm.hb C.2.2.1 hd) t S⟩
theorem Runs.iaload {a : Addr} {k : ClassId} {z j : Int32} {vs : List Value} {d v : Value} (hd : Ins code pc .iaload 1 pc') (A : Arv Z h a k .int z vs d) (hj : ¬ j < 0 ∧ j < z) (hv : vs.getD j.toNatClampNeg d = v) (K : Runs w l Z EL n0 own nm code ml ret R Q D h kc ks pc' ls (v :: rest)) : Runs w l Z EL n0 own nm code ml ret R Q D h kc ks pc ls (.int j :: .ref a :: rest) := by
  obtain ⟨hd, rfl⟩ := hd
  obtain ⟨cl, A1, -, S1, q, H1, -⟩ := A
  have hin := inb_of S1 hj
  exact K.warm fun p e s m args below meth c T locs C X eT O => ⟨T, X, eT, fun t S => X.iaload C.1 (by rw [eT]; exact A1.1) (State.isArrayOf_alike C.2.1.alike A1.2.1) A1.2.2 hin (H1.at hin hv) (g := mkF m pc ls (.int j :: .ref a :: rest)) rfl rfl (Jvm.hb C.2.2.1 hd) t S⟩
theorem Runs.aaload {a : Addr} {k : ClassId} {z j : Int32} {vs : List Value} {d v : Value} {ty : FieldType} (hd : Ins code pc .aaload 1 pc') (A : Arv Z h a k ty z vs d) (hty : ty.isReference = true) (hj : ¬ j < 0 ∧ j < z) (hv : vs.getD j.toNatClampNeg d = v) (K : Runs w l Z EL n0 own nm code ml ret R Q D h kc ks pc' ls (v :: rest)) : Runs w l Z EL n0 own nm code ml ret R Q D h kc ks pc ls (.int j :: .ref a :: rest) := by
  obtain ⟨hd, rfl⟩ := hd
  obtain ⟨cl, A1, -, S1, q, H1, -⟩ := A
  have hin := inb_of S1 hj
  exact K.warm fun p e s m args below meth c T locs C X eT O => ⟨T, X, eT, fun t S => X.aaload C.1 (by rw [eT]; exact A1.1) (State.isArrayOf_alike C.2.1.alike A1.2.1) hty A1.2.2 hin (H1.at hin hv) (g := mkF m pc ls (.int j :: .ref a :: rest)) rfl rfl (Jvm.hb C.2.2.1 hd) t S⟩
theorem Runs.bastore {a : Addr} {k : ClassId} {z j x y : Int32} {vs : List Value} {d : Value} {i : Nat} (hd : Ins code pc .bastore 1 pc') (A : Arv Z h a k .byte z vs d) (hj : ¬ j < 0 ∧ j < z) (hi : j.toNatClampNeg = i) (hil : i < vs.length) (hy : x.toInt8.toInt32 = y) (hg : n0 ≤ a) (hs : a ∈ D ∨ (.byte : FieldType) ≠ .byte) (K : ∀ h', Keep h h' [a] → Arv Z h' a k .byte z (vs.set i (.int y)) d → Runs w l Z EL n0 own nm code ml ret R Q D h' kc ks pc' ls rest) : Runs w l Z EL n0 own nm code ml ret R Q D h kc ks pc ls (.int x :: .int j :: .ref a :: rest) := by
  obtain ⟨hd, rfl⟩ := hd
  subst hy
  refine Runs.write (P := fun h' => Arv Z h' a k .byte z (vs.set i (.int (x.toInt8.toInt32))) d) (one_ge hg) (safeA A hs) K fun p e s m args below meth c T locs Cx X eT Ol N => ?_
  obtain ⟨cl, A1, q1, S1, q, H1, G1⟩ := A
  obtain ⟨T', h1, X', e1, W1, st1⟩ := RoadKit.stB X Cx.1 Cx.2.1 eT A1 (inb_of S1 hj) (g := mkF m pc ls (.int x :: .int j :: .ref a :: rest)) rfl rfl (Jvm.hb Cx.2.2.1 hd)
  subst e1
  exact ⟨T', _, X', Fr.snoc X' N hg, Keep.of_wr W1, Arv.set A1 q1 S1 q H1 G1 (fits_nar_byte x) W1 i hi hil, st1⟩
theorem Runs.castore {a : Addr} {k : ClassId} {z j x y : Int32} {vs : List Value} {d : Value} {i : Nat} (hd : Ins code pc .castore 1 pc') (A : Arv Z h a k .char z vs d) (hj : ¬ j < 0 ∧ j < z) (hi : j.toNatClampNeg = i) (hil : i < vs.length) (hy : nar .char x = y) (hg : n0 ≤ a) (hs : a ∈ D ∨ (.char : FieldType) ≠ .byte) (K : ∀ h', Keep h h' [a] → Arv Z h' a k .char z (vs.set i (.int y)) d → Runs w l Z EL n0 own nm code ml ret R Q D h' kc ks pc' ls rest) : Runs w l Z EL n0 own nm code ml ret R Q D h kc ks pc ls (.int x :: .int j :: .ref a :: rest) := by
  obtain ⟨hd, rfl⟩ := hd
  subst hy
  refine Runs.write (P := fun h' => Arv Z h' a k .char z (vs.set i (.int (nar .char x))) d) (one_ge hg) (safeA A hs) K fun p e s m args below meth c T locs Cx X eT Ol N => ?_
  obtain ⟨cl, A1, q1, S1, q, H1, G1⟩ := A
  obtain ⟨T', h1, X', e1, W1, st1⟩ := RoadKit.stC X Cx.1 Cx.2.1 eT A1 (inb_of S1 hj) (g := mkF m pc ls (.int x :: .int j :: .ref a :: rest)) rfl rfl (Jvm.hb Cx.2.2.1 hd)
  subst e1
  exact ⟨T', _, X', Fr.snoc X' N hg, Keep.of_wr W1, Arv.set A1 q1 S1 q H1 G1 (fits_nar_char x) W1 i hi hil, st1⟩
theorem Runs.iastore {a : Addr} {k : ClassId} {z j x y : Int32} {vs : List Value} {d : Value} {i : Nat} (hd : Ins code pc .iastore 1 pc') (A : Arv Z h a k .int z vs d) (hj : ¬ j < 0 ∧ j < z) (hi : j.toNatClampNeg = i) (hil : i < vs.length) (hy : x = y) (hg : n0 ≤ a) (hs : a ∈ D ∨ (.int : FieldType) ≠ .byte) (K : ∀ h', Keep h h' [a] → Arv Z h' a k .int z (vs.set i (.int y)) d → Runs w l Z EL n0 own nm code ml ret R Q D h' kc ks pc' ls rest) : Runs w l Z EL n0 own nm code ml ret R Q D h kc ks pc ls (.int x :: .int j :: .ref a :: rest) := by
  obtain ⟨hd, rfl⟩ := hd
  subst hy
  refine Runs.write (P := fun h' => Arv Z h' a k .int z (vs.set i (.int (x))) d) (one_ge hg) (safeA A hs) K fun p e s m args below meth c T locs Cx X eT Ol N => ?_
  obtain ⟨cl, A1, q1, S1, q, H1, G1⟩ := A
  obtain ⟨T', h1, X', e1, W1, st1⟩ := RoadKit.stI X Cx.1 Cx.2.1 eT A1 (inb_of S1 hj) (g := mkF m pc ls (.int x :: .int j :: .ref a :: rest)) rfl rfl (Jvm.hb Cx.2.2.1 hd)
  subst e1
  exact ⟨T', _, X', Fr.snoc X' N hg, Keep.of_wr W1, Arv.set A1 q1 S1 q H1 G1 (rfl) W1 i hi hil, st1⟩

theorem Runs.initO {idx W : Nat} {a : Addr} (hd : Ins code pc (.invokespecial idx) 3 pc') (w1 : (Cond.methodLink own idx Lib.objectInit).before a0 Z = true) (w2 : (Cond.instanceMethod Lib.objectInit).before a0 Z = true) (w3 : (Cond.code Lib.objectInit ⟨#[0xb1]⟩ 1 none).before a0 Z = true) (hls : ls.size = ml) (hf : 1 ≤ R.frames) (hW : (rest.map fun v => v.category).sum = W) (hl : W + 12 ≤ R.locals)
    (K : Runs w l Z EL n0 own nm code ml ret R Q D h kc ks pc' ls rest) : Runs w l Z EL n0 own nm code ml ret R Q D h kc ks pc ls (.ref a :: rest) := by
  obtain ⟨hd, rfl⟩ := hd
  exact K.warm fun p e s m args below meth c T locs C X eT O => RoadKit.initO X C.1 C.2.1 C.2.2.2.2.1 w1 w2 w3 eT (g := mkF m pc ls (.ref a :: rest)) rfl (by rw [C.2.2.2.1]; exact hls) rfl (Jvm.hb C.2.2.1 hd) hf (W := W) (by show 2 * 0 + _ ≤ _; omega) hl
end W2


/-! calls by a contract: no constant is interned (w = false) -/
section P
variable {l : Launch} {Z : State} {n0 : Nat} {own nm : String} {code : ByteArray} {ml : Nat} {ret : Option FieldType} {R : Room} {Q : Option Value → Heap → List Addr → Prop} {D : List Addr} {h : Heap} {kc ks pc pc' : Nat} {ls : Array Slot} {st rest : List Value} {a0 : Array Value}
theorem ch0 {vm : Vm} {h : Heap} : CHv Z [] vm h := fun p hp => by cases hp
theorem safe0 {vm : Vm} {h : Heap} {x : Addr} : Safe Z [] vm h x := fun ⟨p, hp, _⟩ => by cases hp
theorem chr0 {vm vm1 : Vm} {h h1 : Heap} (q : h.size ≤ h1.size) : CHr Z [] vm h vm1 h1 := ⟨ch0, q, fun _ ⟨p, hp, _⟩ => by cases hp⟩
theorem hid0 {s : State} {h : Heap} (q : s.heap.size ≤ h.size) (hD : ∀ x ∈ D, x < h.size) : Hid 0 Z [] D s s.vm h := ⟨rfl, ⟨#[], EW.nil⟩, chr0 q, fun x hx => ⟨hD x hx, safe0⟩⟩
/-- a callee's contract as what the call laws ask -/
theorem Con.back {p : Program} {e : Env} {s : State} {args : Array Value} {below : List Frame} {y : MethodName} {bytes : ByteArray} {maxL : Nat} {rt : Option FieldType} {rm : Room} {as' : Array Value} {Q' : Option Value → Heap → List Addr → Prop} {len W : Nat}
    (H : Con 0 l Z [] n0 y bytes maxL rt rm as' D h Q') (hO : Old Z n0 h) (hD : ∀ x ∈ D, x < h.size) (hZ : Z.Warmed39 s.vm) (wc : (Cond.code y bytes maxL rt).before a0 Z = true) (wz : (Cond.initialized y.cls).before a0 Z = true) (hf : rm.frames + 1 ≤ R.frames) (hl : W + (maxL + 11) + rm.locals ≤ R.locals) :
    Back l R p e below s args y len W (fun A a => a = as' ∧ A.U.heap = h ∧ A.cells + rm.cells ≤ R.cells ∧ A.slots + rm.slots ≤ R.slots)
      (fun A _ v B => ∃ L D', Q' v B.U.heap D' ∧ Old Z n0 B.U.heap ∧ Fr n0 L ∧ h.size ≤ B.U.heap.size ∧ (∀ x ∈ D', x < B.U.heap.size) ∧ B.locs = A.locs ++ L ∧ B.cells = A.cells + rm.cells ∧ B.slots = A.slots + rm.slots) :=
  Back.of_free (bytes := bytes) (maxL := maxL) (ret := rt) (E := fun _ first o t L k n => k = rm.cells ∧ n = rm.slots ∧ ∃ v D', o = .returned v ∧ Q' v t.heap D' ∧ Old Z n0 t.heap ∧ Fr n0 L ∧ first.heap.size ≤ t.heap.size ∧ ∀ x ∈ D', x < t.heap.size) (H []) hf hl
    (fun m meth c A a Y hp => have hU : Z.Warmed39 A.U.vm := wtrans hZ Y.warmed
      ⟨by show (Cond.and _ .tt).before a A.U = true; rw [Cond.before_and, mv hU wc]; rfl, mv hU wc, mv hU wz, hp.2.2.1, hp.2.2.2⟩)
    (fun m meth c A a g mk Y hp => ⟨hp.1, wtrans hZ Y.warmed, hp.2.1, hO, ⟨#[], EW.nil⟩, ch0, fun x hx => ⟨hD x hx, safe0⟩⟩) (fun _ _ _ _ _ _ _ _ _ q => absurd q (by decide))
    (fun _ _ _ _ ⟨v, L, D', h1, h2, h3, h4, h5, h6⟩ => ⟨L, _, _, h6, rfl, rfl, v, D', h1, h2, h3, h4, h5.1.2.1, fun x hx => (h5.2 x hx).1⟩)
    (fun m meth c A a g mk v t L k n Y hp _ _ ⟨e1, e2, v', D', e3, e4, e5, e6, e7, e8⟩ => by
      cases e3; subst e1 e2
      exact ⟨L, D', e4, e5, e6, by rw [← hp.2.1]; exact e7, e8, rfl, rfl, rfl⟩)
/-- the walk goes on behind a call -/
theorem goOn {p : Program} {e : Env} {s : State} {m : MethodId} {args : Array Value} {below : List Frame} {meth : Method} {c : Code} {T : State} {locs : List Loc} {Q' : Option Value → Heap → List Addr → Prop} {kc' ks' : Nat}
    (K : ∀ v h' D', Q' v h' D' → h.size ≤ h'.size → Runs 0 l Z [] n0 own nm code ml ret R Q (D' ++ D) h' kc' ks' pc' ls (v.toList ++ rest))
    (C : Ctx p s m meth c Z own nm code ml ret) (hs : s.heap.size ≤ h.size) (hD : ∀ x ∈ D, x < h.size) (N : Fr n0 locs) {v : Option Value} {B : Pt} (X : Stand p l e R s m args below meth c B.U B.locs B.cells B.slots)
    (P : ∃ L D', Q' v B.U.heap D' ∧ Old Z n0 B.U.heap ∧ Fr n0 L ∧ h.size ≤ B.U.heap.size ∧ (∀ x ∈ D', x < B.U.heap.size) ∧ B.locs = locs ++ L ∧ B.cells = kc' ∧ B.slots = ks')
    (S : ∀ target, Steps p.tables e below (B.U.setTop (mkF m pc' ls (v.toList ++ rest))) target → Steps p.tables e below (T.setTop (mkF m pc ls st)) target) :
    ∃ s₂ o, Steps p.tables e below (T.setTop (mkF m pc ls st)) s₂ ∧ s₂.status = .running ∧ Ended s₂ below o ∧ Done 0 Z [] n0 R Q s o s₂ := by
  obtain ⟨L, D', h1, h2, h3, h4, h5, h6, h7, h8⟩ := P
  obtain ⟨U, Ls, kk, nn⟩ := B
  dsimp only [Pt.U, Pt.locs, Pt.cells, Pt.slots] at *
  subst h6 h7 h8
  obtain ⟨s₂, o, S₂, r⟩ := K v U.heap D' h1 h4 p e s s.vm m args below meth c U _ C X rfl (N.app h3) h2 (hid0 (Nat.le_trans hs h4) (fun x hx => (List.mem_append.mp hx).elim (h5 x) (fun q => Nat.lt_of_lt_of_le (hD x q) h4))) (fun q => absurd q (by decide))
  exact ⟨s₂, o, S _ S₂, r⟩
theorem Runs.callS {y : MethodName} {index : Nat} {bytes : ByteArray} {maxL : Nat} {rt : Option FieldType} {rm : Room} {argsL : List Value} {Q' : Option Value → Heap → List Addr → Prop} {W : Nat} {ps : List FieldType} {rr : Option FieldType}
    (hd : Ins code pc (.invokestatic index) 3 pc') (w1 : (Cond.methodLink own index y).before a0 Z = true) (w2 : (Cond.static y).before a0 Z = true) (w3 : (Cond.initialized y.cls).before a0 Z = true) (w4 : (Cond.code y bytes maxL rt).before a0 Z = true) (hy : y.cls ≠ "java/lang/invoke/MethodHandle" ∧ y.cls ≠ "java/lang/invoke/VarHandle")
    (pd : parseMethodDescriptor y.desc = some ⟨ps, rr⟩) (hn : argsL.length = ps.length) (hls : ls.size = ml) (hst : st = argsL.reverse ++ rest) (hW : (rest.map fun v => v.category).sum = W) (hf : rm.frames + 1 ≤ R.frames) (hl : W + (maxL + 11) + rm.locals ≤ R.locals) (hc : kc + rm.cells ≤ R.cells) (hs : ks + rm.slots ≤ R.slots)
    {D0 : List Addr} (hD0 : ∀ x ∈ D0, x ∈ D) (H : Con 0 l Z [] n0 y bytes maxL rt rm argsL.toArray D0 h Q')
    (K : ∀ v h' D', Q' v h' D' → h.size ≤ h'.size → Runs 0 l Z [] n0 own nm code ml ret R Q (D' ++ D) h' (kc + rm.cells) (ks + rm.slots) pc' ls (v.toList ++ rest)) : Runs 0 l Z [] n0 own nm code ml ret R Q D h kc ks pc ls st := by
  obtain ⟨hd, rfl⟩ := hd
  intro p e s vm0 m args below meth c T locs C X eT N O Hd Kw
  obtain ⟨e1, -, H3, H4⟩ := Hd
  have e1 : vm0 = s.vm := e1
  subst e1
  have hD : ∀ x ∈ D, x < h.size := fun x hx => (H4 x hx).1
  have C' : Ctx p s m meth c Z own nm code ml ret := C
  have X' : Stand p l e R s m args below meth c T locs kc ks := X
  obtain ⟨v, vm₁, B, -, XB, P, S⟩ := Jvm.LawKit.callS X' C'.1 (y := y) C'.2.2.2.2.1 (mvT C'.2.1 w1) (mvT C'.2.1 w2) (mvT C'.2.1 w3) (mvT C'.2.1 w4) hy (H.back (W := W) O (fun x hx => hD x (hD0 x hx)) C'.2.1 w4 w3 hf hl) (g := mkF m pc ls st) rfl (by rw [C'.2.2.2.1]; exact hls) (argsL := argsL) (rest := rest) (lenOf pd hn) hst (by show 2 * 0 + _ ≤ _; omega) (Jvm.hb C'.2.2.1 hd) (fun _ _ => ⟨rfl, eT, hc, hs⟩)
  exact goOn K C' H3.2.1 hD N XB P S
theorem Runs.callV {y z : MethodName} {index : Nat} {CC : String} {bytes : ByteArray} {maxL : Nat} {rt : Option FieldType} {rm : Room} {b : Addr} {argsL : List Value} {Q' : Option Value → Heap → List Addr → Prop} {W : Nat} {ps : List FieldType} {rr : Option FieldType}
    (hd : Ins code pc (.invokevirtual index) 3 pc') (w1 : (Cond.methodLink own index y).before a0 Z = true) (w2 : (Cond.declares y).before a0 Z = true) (nf : ∀ s : State, Z.Warmed39 s.vm → NotFace s y) (w3 : (Cond.selects CC y z).before a0 Z = true) (w4 : (Cond.instanceMethod z).before a0 Z = true) (w5 : (Cond.code z bytes maxL rt).before a0 Z = true) (w6 : (Cond.initialized z.cls).before a0 Z = true) (hy : y.cls ≠ "java/lang/invoke/MethodHandle" ∧ y.cls ≠ "java/lang/invoke/VarHandle")
    (E : Exa Z h b CC) (pd : parseMethodDescriptor y.desc = some ⟨ps, rr⟩) (hn : argsL.length = ps.length) (hls : ls.size = ml) (hst : st = argsL.reverse ++ .ref b :: rest) (hW : (rest.map fun v => v.category).sum = W) (hf : rm.frames + 1 ≤ R.frames) (hl : W + (maxL + 11) + rm.locals ≤ R.locals) (hc : kc + rm.cells ≤ R.cells) (hs : ks + rm.slots ≤ R.slots)
    {D0 : List Addr} (hD0 : ∀ x ∈ D0, x ∈ D) (H : Con 0 l Z [] n0 z bytes maxL rt rm (.ref b :: argsL).toArray D0 h Q')
    (K : ∀ v h' D', Q' v h' D' → h.size ≤ h'.size → Runs 0 l Z [] n0 own nm code ml ret R Q (D' ++ D) h' (kc + rm.cells) (ks + rm.slots) pc' ls (v.toList ++ rest)) : Runs 0 l Z [] n0 own nm code ml ret R Q D h kc ks pc ls st := by
  obtain ⟨hd, rfl⟩ := hd
  intro p e s vm0 m args below meth c T locs C X eT N O Hd Kw
  obtain ⟨e1, -, H3, H4⟩ := Hd
  have e1 : vm0 = s.vm := e1
  subst e1
  have hD : ∀ x ∈ D, x < h.size := fun x hx => (H4 x hx).1
  have C' : Ctx p s m meth c Z own nm code ml ret := C
  have X' : Stand p l e R s m args below meth c T locs kc ks := X
  obtain ⟨cB, kB, q1, -, q3⟩ := isOf C'.2.1 eT E
  obtain ⟨v, vm₁, B, -, XB, P, S⟩ := X'.virtualBack C'.1 (y := y) (z := z) C'.2.2.2.2.1 (mvT C'.2.1 w1) (mvT C'.2.1 w2) (nf s C'.2.1) (mvT C'.2.1 w3) (mvT C'.2.1 w4) hy (H.back (W := W) O (fun x hx => hD x (hD0 x hx)) C'.2.1 w5 w6 hf hl) q1 q3 (g := mkF m pc ls st) rfl (by rw [C'.2.2.2.1]; exact hls) (Steps.refl _) (argsL := argsL) (rest := rest) (lenOf pd hn) hst (by show 2 * 0 + _ ≤ _; omega) (Jvm.hb C'.2.2.1 hd) (fun _ _ => ⟨rfl, eT, hc, hs⟩)
  exact goOn K C' H3.2.1 hD N XB P (fun t k => S.trans k)
theorem Runs.callC {y : MethodName} {index : Nat} {bytes : ByteArray} {maxL : Nat} {rm : Room} {b : Addr} {argsL : List Value} {Q' : Option Value → Heap → List Addr → Prop} {W : Nat} {ps : List FieldType} {rr : Option FieldType}
    (hd : Ins code pc (.invokespecial index) 3 pc') (hi : y.name = "<init>") (w1 : (Cond.methodLink own index y).before a0 Z = true) (w2 : (Cond.instanceMethod y).before a0 Z = true) (w3 : (Cond.code y bytes maxL none).before a0 Z = true) (w4 : (Cond.initialized y.cls).before a0 Z = true) (hy : y.cls ≠ "java/lang/invoke/MethodHandle" ∧ y.cls ≠ "java/lang/invoke/VarHandle")
    (pd : parseMethodDescriptor y.desc = some ⟨ps, rr⟩) (hn : argsL.length = ps.length) (hls : ls.size = ml) (hst : st = argsL.reverse ++ .ref b :: rest) (hW : (rest.map fun v => v.category).sum = W) (hf : rm.frames + 1 ≤ R.frames) (hl : W + (maxL + 11) + rm.locals ≤ R.locals) (hc : kc + rm.cells ≤ R.cells) (hs : ks + rm.slots ≤ R.slots)
    {D0 : List Addr} (hD0 : ∀ x ∈ D0, x ∈ D) (H : Con 0 l Z [] n0 y bytes maxL none rm (.ref b :: argsL).toArray D0 h Q')
    (K : ∀ v h' D', Q' v h' D' → h.size ≤ h'.size → Runs 0 l Z [] n0 own nm code ml ret R Q (D' ++ D) h' (kc + rm.cells) (ks + rm.slots) pc' ls (v.toList ++ rest)) : Runs 0 l Z [] n0 own nm code ml ret R Q D h kc ks pc ls st := by
  obtain ⟨hd, rfl⟩ := hd
  intro p e s vm0 m args below meth c T locs C X eT N O Hd Kw
  obtain ⟨e1, -, H3, H4⟩ := Hd
  have e1 : vm0 = s.vm := e1
  subst e1
  have hD : ∀ x ∈ D, x < h.size := fun x hx => (H4 x hx).1
  have C' : Ctx p s m meth c Z own nm code ml ret := C
  have X' : Stand p l e R s m args below meth c T locs kc ks := X
  obtain ⟨v, vm₁, B, -, XB, P, S⟩ := X'.specialBack C'.1 (y := y) hi C'.2.2.2.2.1 (mvT C'.2.1 w1) (mvT C'.2.1 w2) (mvT C'.2.1 w3) hy (H.back (W := W) O (fun x hx => hD x (hD0 x hx)) C'.2.1 w3 w4 hf hl) (g := mkF m pc ls st) rfl (by rw [C'.2.2.2.1]; exact hls) (Steps.refl _) (a := b) (argsL := argsL) (rest := rest) (lenOf pd hn) hst (by show 2 * 0 + _ ≤ _; omega) (Jvm.hb C'.2.2.1 hd) (fun _ _ => ⟨rfl, eT, hc, hs⟩)
  exact goOn K C' H3.2.1 hD N XB P (fun t k => S.trans k)
end P


/-! the wide walk (w = true): constants of strings may come to be interned -/
section Wd
variable {w : Nat} {l : Launch} {Z : State} {EL : List (String × Nat)} {n0 : Nat} {own nm : String} {code : ByteArray} {ml : Nat} {ret : Option FieldType} {R : Room} {Q : Option Value → Heap → List Addr → Prop} {D : List Addr} {h : Heap} {kc ks pc pc' : Nat} {ls : Array Slot} {st rest : List Value} {a0 : Array Value}
theorem Ctx.later {p : Program} {s : State} {vm0 vm1 : Vm} {n : Nat} {m : MethodId} {meth : Method} {c : Code} (C : Ctx p (s.setVm vm0) m meth c Z own nm code ml ret) (h1 : (s.setVm vm0).Since vm1 n) : Ctx p (s.setVm vm1) m meth c Z own nm code ml ret :=
  ⟨C.1, State.Warmed39.trans (t := s.setVm vm0) C.2.1 h1.1, C.2.2.1, C.2.2.2.1, by rw [show (s.setVm vm1).vm = vm1 from rfl, h1.1.alike.findClass]; exact C.2.2.2.2.1, C.2.2.2.2.2⟩
theorem Con.backW {p : Program} {e : Env} {s : State} {vm0 : Vm} {args : Array Value} {below : List Frame} {y : MethodName} {bytes : ByteArray} {maxL : Nat} {rt : Option FieldType} {rm : Room} {as' : Array Value} {D0 : List Addr} {Q' : Option Value → Heap → List Addr → Prop} {len W : Nat}
    (w0 : w ≠ 0) (Kw : Kn w Z below) (H : Con w l Z EL n0 y bytes maxL rt rm as' D0 h Q') (hO : Old Z n0 h) (hE : ∃ a0, EW Z a0 EL) (hC : CHv Z EL vm0 h) (hD : ∀ x ∈ D0, x < h.size ∧ Safe Z EL vm0 h x) (hZ : Z.Warmed39 vm0) (wc : (Cond.code y bytes maxL rt).before a0 Z = true) (wz : (Cond.initialized y.cls).before a0 Z = true) (hf : rm.frames + 1 ≤ R.frames) (hl : W + (maxL + 11) + rm.locals ≤ R.locals) :
    BackS l R p e below (s.setVm vm0) args y len W (fun A a => a = as' ∧ A.U.heap = h ∧ A.cells + rm.cells ≤ R.cells ∧ A.slots + rm.slots ≤ R.slots)
      (fun A _ v B => ∃ L D', Q' v B.U.heap D' ∧ Old Z n0 B.U.heap ∧ Fr n0 L ∧ CHr Z EL vm0 h B.U.vm B.U.heap ∧ (∀ x ∈ D', x < B.U.heap.size ∧ Safe Z EL B.U.vm B.U.heap x) ∧ B.locs = A.locs ++ L ∧ B.cells = A.cells + rm.cells ∧ B.slots = A.slots + rm.slots) := by
  obtain ⟨a1, hE1⟩ := id hE
  exact BackS.of_freeWG (bytes := bytes) (maxL := maxL) (ret := rt) (E := fun _ first o t L k n => k = rm.cells ∧ n = rm.slots ∧ ∃ v D', o = .returned v ∧ Q' v t.heap D' ∧ Old Z n0 t.heap ∧ Fr n0 L ∧ CHr Z EL first.vm first.heap t.vm t.heap ∧ ∀ x ∈ D', x < t.heap.size ∧ Safe Z EL t.vm t.heap x) (H []) hf hl
    (fun m meth c A a Y hp => have hU : Z.Warmed39 A.U.vm := wtrans (s := s.setVm vm0) hZ Y.warmed
      ⟨by show (Cond.and _ .tt).before a A.U = true; rw [Cond.before_and, mv hU wc]; rfl, mv hU wc, mv hU wz, hp.2.2.1, hp.2.2.2⟩)
    (fun m meth c A a g mk Y hp => ⟨hp.1, wtrans (s := s.setVm vm0) hZ Y.warmed, hp.2.1, hO, hE, (CHv.at Y hZ hE1 hC).1, fun x hx => ⟨(hD x hx).1, (CHv.at Y hZ hE1 hC).safe (hD x hx).1 (hD x hx).2⟩⟩) (fun m meth c A a g mk Y _ hg q => by
      have hal : Z.vm.Alike A.U.vm := (wtrans (s := s.setVm vm0) hZ Y.warmed).alike
      have kk := known_frames Y hg (Vm.MethodsKnown.alikeC hZ.alike (Kw q).1) (Vm.FramesKnown.alikeC hZ.alike (Kw q).2)
      exact ⟨Vm.MethodsKnown.alikeC hal.symm kk.1, Vm.FramesKnown.alikeC hal.symm kk.2⟩)
    (fun _ _ _ _ ⟨v, L, D', h1, h2, h3, h4, h5, h6⟩ => ⟨L, _, _, by unfold En at h6; rw [if_neg w0] at h6; exact h6, rfl, rfl, v, D', h1, h2, h3, h4, h5.1, h5.2⟩)
    (fun m meth c A a g mk v t L k n Y hp _ _ ⟨e1, e2, v', D', e3, e4, e5, e6, e7, e8⟩ => by
      cases e3; subst e1 e2
      refine ⟨L, D', e4, e5, e6, (CHv.at Y hZ hE1 hC).trans ?_, e8, rfl, rfl, rfl⟩
      rw [← hp.2.1]; exact e7)
theorem goOnW {p : Program} {e : Env} {s : State} {vm0 : Vm} {m : MethodId} {args : Array Value} {below : List Frame} {meth : Method} {c : Code} {T : State} {locs : List Loc} {Q' : Option Value → Heap → List Addr → Prop} {kc' ks' : Nat}
    (K : ∀ v h' D', Q' v h' D' → h.size ≤ h'.size → Runs w l Z EL n0 own nm code ml ret R Q (D' ++ D) h' kc' ks' pc' ls (v.toList ++ rest))
    (w0 : w ≠ 0) (Kw : Kn w Z below) (C : Ctx p (s.setVm vm0) m meth c Z own nm code ml ret) (H : Hid w Z EL D s vm0 h) (N : Fr n0 locs) {v : Option Value} {B : Pt} (X : Stand p l e R ((s.setVm vm0).setVm B.U.vm) m args below meth c B.U B.locs B.cells B.slots)
    (hS : (s.setVm vm0).Since B.U.vm B.U.heap.size)
    (P : ∃ L D', Q' v B.U.heap D' ∧ Old Z n0 B.U.heap ∧ Fr n0 L ∧ CHr Z EL vm0 h B.U.vm B.U.heap ∧ (∀ x ∈ D', x < B.U.heap.size ∧ Safe Z EL B.U.vm B.U.heap x) ∧ B.locs = locs ++ L ∧ B.cells = kc' ∧ B.slots = ks')
    (S : Steps p.tables e below (T.setTop (mkF m pc ls st)) (B.U.setTop (mkF m pc' ls (v.toList ++ rest)))) :
    ∃ s₂ o, Steps p.tables e below (T.setTop (mkF m pc ls st)) s₂ ∧ s₂.status = .running ∧ Ended s₂ below o ∧ Done w Z EL n0 R Q s o s₂ := by
  obtain ⟨L, D', h1, h2, h3, h4, h5, h6, h7, h8⟩ := P
  obtain ⟨U, Ls, kk, nn⟩ := B
  dsimp only [Pt.U, Pt.locs, Pt.cells, Pt.slots] at *
  subst h6 h7 h8
  obtain ⟨H1, H2, H3, H4⟩ := H
  obtain ⟨k0, g1, g2⟩ : ∃ k0, s.Since vm0 k0 ∧ k0 ≤ h.size := by rw [if_neg w0] at H1; exact H1
  have hsz : h.size ≤ U.heap.size := h4.2.1
  have C1 : Ctx p (s.setVm U.vm) m meth c Z own nm code ml ret := C.later hS
  have X1 : Stand p l e R (s.setVm U.vm) m args below meth c U (locs ++ L) kk nn := X
  have HN : Hid w Z EL (D' ++ D) s U.vm U.heap := ⟨by rw [if_neg w0]; exact ⟨U.heap.size, g1.trans hS (Nat.le_trans g2 hsz), Nat.le_refl _⟩, H2, H3.trans h4, fun x hx => by
    rcases List.mem_append.mp hx with q | q
    · exact h5 x q
    · exact ⟨Nat.lt_of_lt_of_le (H4 x q).1 hsz, h4.safe (H4 x q).1 (H4 x q).2⟩⟩
  obtain ⟨s₂, o, S₂, r⟩ := K v U.heap D' h1 hsz p e s U.vm m args below meth c U _ C1 X1 rfl (N.app h3) h2 HN Kw
  exact ⟨s₂, o, S.trans S₂, r⟩
theorem Runs.callSW {y : MethodName} {index : Nat} {bytes : ByteArray} {maxL : Nat} {rt : Option FieldType} {rm : Room} {argsL : List Value} {Q' : Option Value → Heap → List Addr → Prop} {W : Nat} {ps : List FieldType} {rr : Option FieldType}
    (hd : Ins code pc (.invokestatic index) 3 pc') (w1 : (Cond.methodLink own index y).before a0 Z = true) (w2 : (Cond.static y).before a0 Z = true) (w3 : (Cond.initialized y.cls).before a0 Z = true) (w4 : (Cond.code y bytes maxL rt).before a0 Z = true) (hy : y.cls ≠ "java/lang/invoke/MethodHandle" ∧ y.cls ≠ "java/lang/invoke/VarHandle")
    (pd : parseMethodDescriptor y.desc = some ⟨ps, rr⟩) (hn : argsL.length = ps.length) (hls : ls.size = ml) (hst : st = argsL.reverse ++ rest) (hW : (rest.map fun v => v.category).sum = W) (hf : rm.frames + 1 ≤ R.frames) (hl : W + (maxL + 11) + rm.locals ≤ R.locals) (hc : kc + rm.cells ≤ R.cells) (hs : ks + rm.slots ≤ R.slots)
    {D0 : List Addr} (hD0 : ∀ x ∈ D0, x ∈ D) (w0 : w ≠ 0) (H : Con w l Z EL n0 y bytes maxL rt rm argsL.toArray D0 h Q')
    (K : ∀ v h' D', Q' v h' D' → h.size ≤ h'.size → Runs w l Z EL n0 own nm code ml ret R Q (D' ++ D) h' (kc + rm.cells) (ks + rm.slots) pc' ls (v.toList ++ rest)) : Runs w l Z EL n0 own nm code ml ret R Q D h kc ks pc ls st := by
  obtain ⟨hd, rfl⟩ := hd
  intro p e s vm0 m args below meth c T locs C X eT N O Hd Kw
  obtain ⟨v, vm₁, B, -, XB, hS, -, P, S⟩ := callSS X C.1 (y := y) C.2.2.2.2.1 (mvT C.2.1 w1) (mvT C.2.1 w2) (mvT C.2.1 w3) (mvT C.2.1 w4) hy (H.backW w0 Kw (W := W) O Hd.2.1 Hd.2.2.1.1 (fun x hx => Hd.2.2.2 x (hD0 x hx)) C.2.1 w4 w3 hf hl) (g := mkF m pc ls st) rfl (by rw [C.2.2.2.1]; exact hls) (argsL := argsL) (rest := rest) (lenOf pd hn) hst (by show 2 * 0 + _ ≤ _; omega) (Jvm.hb C.2.2.1 hd) (fun _ _ => ⟨rfl, eT, hc, hs⟩)
  exact goOnW K w0 Kw C Hd N XB hS P S
theorem Runs.callVW {y z : MethodName} {index : Nat} {CC : String} {bytes : ByteArray} {maxL : Nat} {rt : Option FieldType} {rm : Room} {b : Addr} {argsL : List Value} {Q' : Option Value → Heap → List Addr → Prop} {W : Nat} {ps : List FieldType} {rr : Option FieldType}
    (hd : Ins code pc (.invokevirtual index) 3 pc') (w1 : (Cond.methodLink own index y).before a0 Z = true) (w2 : (Cond.declares y).before a0 Z = true) (nf : ∀ s : State, Z.Warmed39 s.vm → NotFace s y) (w3 : (Cond.selects CC y z).before a0 Z = true) (w4 : (Cond.instanceMethod z).before a0 Z = true) (w5 : (Cond.code z bytes maxL rt).before a0 Z = true) (w6 : (Cond.initialized z.cls).before a0 Z = true) (hy : y.cls ≠ "java/lang/invoke/MethodHandle" ∧ y.cls ≠ "java/lang/invoke/VarHandle")
    (E : Exa Z h b CC) (pd : parseMethodDescriptor y.desc = some ⟨ps, rr⟩) (hn : argsL.length = ps.length) (hls : ls.size = ml) (hst : st = argsL.reverse ++ .ref b :: rest) (hW : (rest.map fun v => v.category).sum = W) (hf : rm.frames + 1 ≤ R.frames) (hl : W + (maxL + 11) + rm.locals ≤ R.locals) (hc : kc + rm.cells ≤ R.cells) (hs : ks + rm.slots ≤ R.slots)
    {D0 : List Addr} (hD0 : ∀ x ∈ D0, x ∈ D) (w0 : w ≠ 0) (H : Con w l Z EL n0 z bytes maxL rt rm (.ref b :: argsL).toArray D0 h Q')
    (K : ∀ v h' D', Q' v h' D' → h.size ≤ h'.size → Runs w l Z EL n0 own nm code ml ret R Q (D' ++ D) h' (kc + rm.cells) (ks + rm.slots) pc' ls (v.toList ++ rest)) : Runs w l Z EL n0 own nm code ml ret R Q D h kc ks pc ls st := by
  obtain ⟨hd, rfl⟩ := hd
  intro p e s vm0 m args below meth c T locs C X eT N O Hd Kw
  obtain ⟨cB, kB, q1, -, q3⟩ := isOf C.2.1 eT E
  obtain ⟨v, vm₁, B, -, XB, hS, -, P, S⟩ := X.virtualBackS C.1 (y := y) (z := z) C.2.2.2.2.1 (mvT C.2.1 w1) (mvT C.2.1 w2) (nf _ C.2.1) (mvT C.2.1 w3) (mvT C.2.1 w4) hy (H.backW w0 Kw (W := W) O Hd.2.1 Hd.2.2.1.1 (fun x hx => Hd.2.2.2 x (hD0 x hx)) C.2.1 w5 w6 hf hl) q1 q3 (g := mkF m pc ls st) rfl (by rw [C.2.2.2.1]; exact hls) (Steps.refl _) (argsL := argsL) (rest := rest) (lenOf pd hn) hst (by show 2 * 0 + _ ≤ _; omega) (Jvm.hb C.2.2.1 hd) (fun _ _ => ⟨rfl, eT, hc, hs⟩)
  exact goOnW K w0 Kw C Hd N XB hS P S
theorem Runs.callCW {y : MethodName} {index : Nat} {bytes : ByteArray} {maxL : Nat} {rm : Room} {b : Addr} {argsL : List Value} {Q' : Option Value → Heap → List Addr → Prop} {W : Nat} {ps : List FieldType} {rr : Option FieldType}
    (hd : Ins code pc (.invokespecial index) 3 pc') (hi : y.name = "<init>") (w1 : (Cond.methodLink own index y).before a0 Z = true) (w2 : (Cond.instanceMethod y).before a0 Z = true) (w3 : (Cond.code y bytes maxL none).before a0 Z = true) (w4 : (Cond.initialized y.cls).before a0 Z = true) (hy : y.cls ≠ "java/lang/invoke/MethodHandle" ∧ y.cls ≠ "java/lang/invoke/VarHandle")
    (pd : parseMethodDescriptor y.desc = some ⟨ps, rr⟩) (hn : argsL.length = ps.length) (hls : ls.size = ml) (hst : st = argsL.reverse ++ .ref b :: rest) (hW : (rest.map fun v => v.category).sum = W) (hf : rm.frames + 1 ≤ R.frames) (hl : W + (maxL + 11) + rm.locals ≤ R.locals) (hc : kc + rm.cells ≤ R.cells) (hs : ks + rm.slots ≤ R.slots)
    {D0 : List Addr} (hD0 : ∀ x ∈ D0, x ∈ D) (w0 : w ≠ 0) (H : Con w l Z EL n0 y bytes maxL none rm (.ref b :: argsL).toArray D0 h Q')
    (K : ∀ v h' D', Q' v h' D' → h.size ≤ h'.size → Runs w l Z EL n0 own nm code ml ret R Q (D' ++ D) h' (kc + rm.cells) (ks + rm.slots) pc' ls (v.toList ++ rest)) : Runs w l Z EL n0 own nm code ml ret R Q D h kc ks pc ls st := by
  obtain ⟨hd, rfl⟩ := hd
  intro p e s vm0 m args below meth c T locs C X eT N O Hd Kw
  obtain ⟨v, vm₁, B, -, XB, hS, -, P, S⟩ := X.specialBackS C.1 (y := y) hi C.2.2.2.2.1 (mvT C.2.1 w1) (mvT C.2.1 w2) (mvT C.2.1 w3) hy (H.backW w0 Kw (W := W) O Hd.2.1 Hd.2.2.1.1 (fun x hx => Hd.2.2.2 x (hD0 x hx)) C.2.1 w3 w4 hf hl) (g := mkF m pc ls st) rfl (by rw [C.2.2.2.1]; exact hls) (Steps.refl _) (a := b) (argsL := argsL) (rest := rest) (lenOf pd hn) hst (by show 2 * 0 + _ ≤ _; omega) (Jvm.hb C.2.2.1 hd) (fun _ _ => ⟨rfl, eT, hc, hs⟩)
  exact goOnW K w0 Kw C Hd N XB hS P S
theorem declares_of {y : MethodName} {bytes : ByteArray} {maxL : Nat} {rt : Option FieldType} (w1 : (Cond.instanceMethod y).before a0 Z = true) (w2 : (Cond.code y bytes maxL rt).before a0 Z = true) : (Cond.declares y).before a0 Z = true := by
  obtain ⟨m, meth, h1, h2, h3, -⟩ := Cond.instanceMethod_spec w1
  obtain ⟨meth', c, g1, -, -, -, -, -, -, g2⟩ := Cond.code_spec h1 w2
  cases h2.symm.trans g1
  simp [Cond.before, Cond.holds, Cond.value, h1, h2, h3, g2]
theorem nf_same {s : State} {y y' : MethodName} (h : NotFace s y) (w1 : (Cond.instanceMethod y).before a0 s = true) (e : y'.cls = y.cls) : NotFace s y' := fun r0 h0 => by
  obtain ⟨m, meth, h1, -⟩ := Cond.instanceMethod_spec w1
  obtain ⟨kr, k1, k2⟩ := h m h1
  have c1 := findClass_of_methodNamed h1
  have c0 := findClass_of_methodNamed h0
  rw [e] at c0
  have e1 : m.cls = r0.cls := Option.some.inj (c1.symm.trans c0)
  exact ⟨kr, e1 ▸ k1, k2⟩
theorem same_of {y : MethodName} (w1 : (Cond.declares y).before a0 Z = true) (nf : NotFace Z y) (hy : y.cls ≠ "java/lang/invoke/MethodHandle" ∧ y.cls ≠ "java/lang/invoke/VarHandle") : (Cond.sameMethod y.cls y.cls y.name y.desc).before a0 Z = true := by
  obtain ⟨m, meth, h1, h2, -⟩ := Cond.declares_spec w1
  obtain ⟨kr, k1, k2⟩ := nf m h1
  have hf := State.methodFound?_of_named h1 hy
  have hc := findClass_of_methodNamed h1
  have h1' : Z.methodNamed? ⟨y.cls, y.name, y.desc⟩ = some m := h1
  simp [Cond.before, Cond.holds, Cond.value, hc, hf, h1', k1, k2]
theorem Runs.callUW {y : MethodName} {index : Nat} {K : String} {bytes : ByteArray} {maxL : Nat} {rt : Option FieldType} {rm : Room} {b : Addr} {argsL : List Value} {Q' : Option Value → Heap → List Addr → Prop} {W : Nat} {ps : List FieldType} {rr : Option FieldType}
    (hd : Ins code pc (.invokespecial index) 3 pc') (w1 : (Cond.methodLink own index y).before a0 Z = true) (w2 : (Cond.sameMethod y.cls y.cls y.name y.desc).before a0 Z = true) (w3 : (Cond.instanceMethod y).before a0 Z = true) (w4 : (Cond.superclass own y.cls).before a0 Z = true) (w5 : (Cond.code y bytes maxL rt).before a0 Z = true) (w6 : (Cond.initialized y.cls).before a0 Z = true) (hi : y.name ≠ "<init>")
    (E : Exa Z h b K) (pd : parseMethodDescriptor y.desc = some ⟨ps, rr⟩) (hn : argsL.length = ps.length) (hls : ls.size = ml) (hst : st = argsL.reverse ++ .ref b :: rest) (hW : (rest.map fun v => v.category).sum = W) (hf : rm.frames + 1 ≤ R.frames) (hl : W + (maxL + 11) + rm.locals ≤ R.locals) (hc : kc + rm.cells ≤ R.cells) (hs : ks + rm.slots ≤ R.slots)
    {D0 : List Addr} (hD0 : ∀ x ∈ D0, x ∈ D) (w0 : w ≠ 0) (H : Con w l Z EL n0 y bytes maxL rt rm (.ref b :: argsL).toArray D0 h Q')
    (K' : ∀ v h' D', Q' v h' D' → h.size ≤ h'.size → Runs w l Z EL n0 own nm code ml ret R Q (D' ++ D) h' (kc + rm.cells) (ks + rm.slots) pc' ls (v.toList ++ rest)) : Runs w l Z EL n0 own nm code ml ret R Q D h kc ks pc ls st := by
  obtain ⟨hd, rfl⟩ := hd
  intro p e s vm0 m args below meth c T locs C X eT N O Hd Kw
  obtain ⟨v, vm₁, B, -, XB, hS, -, P, S⟩ := superBackS X C.1 C.2.1 (y := y) C.2.2.2.2.1 w1 w2 w3 w4 hi (H.backW w0 Kw (W := W) O Hd.2.1 Hd.2.2.1.1 (fun x hx => Hd.2.2.2 x (hD0 x hx)) C.2.1 w5 w6 hf hl) eT (RoadKit.Ins.self E) (g := mkF m pc ls st) rfl (by rw [C.2.2.2.1]; exact hls) w5 (argsL := argsL) (rest := rest) (lenOf pd hn) hst (by show 2 * 0 + _ ≤ _; omega) (Jvm.hb C.2.2.1 hd) (fun _ _ => ⟨rfl, eT, hc, hs⟩)
  exact goOnW K' w0 Kw C Hd N XB hS P S
/-- ldc of a String constant: a String, no more is said -/
theorem Runs.ldcS {text : String} {index n : Nat} (w0 : w ≠ 0) (hd : Ins code pc (.ldc index) 2 pc') (wl : (Cond.stringLink own index text).before a0 Z = true) (wS : ∀ a ∈ Bundle.stringAtoms, a.before a0 Z = true) (hEL : EW Z a0 EL) (hn : 4 * text.toList.length ≤ n) (hbig : n ≤ 536870912) (hc : kc + 2 ≤ R.cells) (hl : ks + (n + 4) ≤ R.slots)
    (K : ∀ h' a, Keep h h' [] → Runs w l Z EL n0 own nm code ml ret R Q D h' (kc + 2) (ks + (n + 4)) pc' ls (.ref a :: st)) : Runs w l Z EL n0 own nm code ml ret R Q D h kc ks pc ls st := by
  obtain ⟨hd, rfl⟩ := hd
  intro p e s vm0 m args below meth c T locs C X eT N O Hd Kw
  obtain ⟨H1, H2, H3, H4⟩ := Hd
  obtain ⟨k0, g1, g2⟩ : ∃ k0, s.Since vm0 k0 ∧ k0 ≤ h.size := by rw [if_neg w0] at H1; exact H1
  obtain ⟨a, T', h', k1, X', e', E', S1, hk1, W1, F1, C1, -, st1⟩ := ldcOH X C.1 C.2.1 C.2.2.2.2.1 wl wS eT g1 g2 hEL H3.1 (g := mkF m pc ls st) rfl (Jvm.hb C.2.2.1 hd) hn hbig hc hl
  subst e'
  obtain ⟨s₂, o, S, r⟩ := K _ a (keepE E') p e s T'.vm m args below meth c T' locs ⟨C.1, W1, C.2.2.1, C.2.2.2.1, F1, C.2.2.2.2.2⟩ X' rfl N (O.ext E') ⟨by rw [if_neg w0]; exact ⟨k1, S1, hk1⟩, H2, H3.trans C1, fun x hx => ⟨Nat.lt_of_lt_of_le (H4 x hx).1 E'.1, C1.safe (H4 x hx).1 (H4 x hx).2⟩⟩ Kw
  exact ⟨s₂, o, st1 _ S, r⟩
/-- ldc of a String constant that is held: its text -/
theorem Runs.ldcT {text : String} {index n : Nat} {vs : List Value} {z : Int32} (w0 : w ≠ 0) (hd : Ins code pc (.ldc index) 2 pc') (wl : (Cond.stringLink own index text).before a0 Z = true) (wS : ∀ a ∈ Bundle.stringAtoms, a.before a0 Z = true) (hEL : EW Z a0 EL) (hmem : (own, index) ∈ EL)
    (ht : (∀ c ∈ text.toList, c.toNat < 256) ∧ text.toList.map (fun c => Value.int (Jvm.Lit.byteI c.toNat.toUInt16)) = vs) (hz : ¬ z < 0) (hzl : z.toNatClampNeg = vs.length) (hn : 4 * text.toList.length ≤ n) (hbig : n ≤ 536870912) (hc : kc + 2 ≤ R.cells) (hl : ks + (n + 4) ≤ R.slots)
    (K : ∀ h' a b k, Keep h h' [] → Obj Z h' a "java/lang/String" [("java/lang/String", "value", "[B", .ref b), ("java/lang/String", "coder", "B", .int 0)] → Arv Z h' b k .byte z vs (.int 0) → (∀ x ∈ D, x ≠ a ∧ x ≠ b) → Runs w l Z EL n0 own nm code ml ret R Q D h' (kc + 2) (ks + (n + 4)) pc' ls (.ref a :: st)) : Runs w l Z EL n0 own nm code ml ret R Q D h kc ks pc ls st := by
  obtain ⟨hd, rfl⟩ := hd
  intro p e s vm0 m args below meth c T locs C X eT N O Hd Kw
  obtain ⟨H1, H2, H3, H4⟩ := Hd
  obtain ⟨k0, g1, g2⟩ : ∃ k0, s.Since vm0 k0 ∧ k0 ≤ h.size := by rw [if_neg w0] at H1; exact H1
  obtain ⟨a, T', h', k1, b, k, X', e', E', S1, hk1, W1, F1, x1, x2, x3, x4, -, -, C1, -, D1, st1⟩ := ldcCH X C.1 C.2.1 C.2.2.2.2.1 wl wS eT g1 g2 hEL hmem H3.1 ht hz hzl (g := mkF m pc ls st) rfl (Jvm.hb C.2.2.1 hd) hn hbig hc hl
  subst e'
  have hD : ∀ x ∈ D, x < T'.heap.size ∧ Safe Z EL T'.vm T'.heap x := fun x hx => ⟨Nat.lt_of_lt_of_le (H4 x hx).1 E'.1, C1.safe (H4 x hx).1 (H4 x hx).2⟩
  obtain ⟨s₂, o, S, r⟩ := K _ a b k (keepE E') ⟨x1, fun f hf => by simp only [List.mem_cons, List.not_mem_nil, or_false] at hf; rcases hf with rfl | rfl; exact x3; exact x2⟩ x4 (fun x hx => D1 x (hD x hx).2) p e s T'.vm m args below meth c T' locs ⟨C.1, W1, C.2.2.1, C.2.2.2.1, F1, C.2.2.2.2.2⟩ X' rfl N (O.ext E') ⟨by rw [if_neg w0]; exact ⟨k1, S1, hk1⟩, H2, H3.trans C1, hD⟩ Kw
  exact ⟨s₂, o, st1 _ S, r⟩
end Wd


section W3
variable {w : Nat} {l : Launch} {Z : State} {EL : List (String × Nat)} {n0 : Nat} {own nm : String} {code : ByteArray} {ml : Nat} {ret : Option FieldType} {R : Room} {Q : Option Value → Heap → List Addr → Prop} {D : List Addr} {h h' : Heap} {kc ks pc pc' : Nat} {ls ls' : Array Slot} {st st' rest : List Value} {a0 : Array Value}
theorem Runs.instY {K : String} {index : Nat} {a : Addr} (hd : Ins code pc (.instanceof index) 3 pc') (wl : (Cond.classLink own index K).before a0 Z = true) (F : RoadKit.Ins Z h a K true) (k : Runs w l Z EL n0 own nm code ml ret R Q D h kc ks pc' ls (.int 1 :: rest)) : Runs w l Z EL n0 own nm code ml ret R Q D h kc ks pc ls (.ref a :: rest) := by
  obtain ⟨hd, rfl⟩ := hd
  exact k.warm fun p e s m args below meth c T locs C X eT O => RoadKit.instY X C.1 C.2.1 C.2.2.2.2.1 wl eT F (g := mkF m pc ls (.ref a :: rest)) rfl rfl (Jvm.hb C.2.2.1 hd)
theorem Runs.instN {K CC : String} {index : Nat} {a : Addr} (hd : Ins code pc (.instanceof index) 3 pc') (wl : (Cond.classLink own index K).before a0 Z = true) (E : Exa Z h a CC) (F : ∃ c t, Z.vm.findClass CC = some c ∧ Z.vm.findClass K = some t ∧ Z.vm.assignable c t = false) (k : Runs w l Z EL n0 own nm code ml ret R Q D h kc ks pc' ls (.int 0 :: rest)) : Runs w l Z EL n0 own nm code ml ret R Q D h kc ks pc ls (.ref a :: rest) := by
  obtain ⟨hd, rfl⟩ := hd
  exact k.warm fun p e s m args below meth c T locs C X eT O => RoadKit.instNo X C.1 C.2.1 C.2.2.2.2.1 wl eT E F (g := mkF m pc ls (.ref a :: rest)) rfl rfl (Jvm.hb C.2.2.1 hd)
theorem Runs.inst0 {index : Nat} (hd : Ins code pc (.instanceof index) 3 pc') (k : Runs w l Z EL n0 own nm code ml ret R Q D h kc ks pc' ls (.int 0 :: rest)) : Runs w l Z EL n0 own nm code ml ret R Q D h kc ks pc ls (.null :: rest) := by
  obtain ⟨hd, rfl⟩ := hd
  exact k.warm fun p e s m args below meth c T locs C X eT O => ⟨T, X, eT, fun t S => X.instanceofNull C.1 (g := mkF m pc ls (.null :: rest)) rfl rfl (Jvm.hb C.2.2.1 hd) t S⟩
theorem Runs.castY {K : String} {index : Nat} {a : Addr} (hd : Ins code pc (.checkcast index) 3 pc') (wl : (Cond.classLink own index K).before a0 Z = true) (F : RoadKit.Ins Z h a K true) (k : Runs w l Z EL n0 own nm code ml ret R Q D h kc ks pc' ls (.ref a :: rest)) : Runs w l Z EL n0 own nm code ml ret R Q D h kc ks pc ls (.ref a :: rest) := by
  obtain ⟨hd, rfl⟩ := hd
  exact k.warm fun p e s m args below meth c T locs C X eT O => RoadKit.castY X C.1 C.2.1 C.2.2.2.2.1 wl eT F (g := mkF m pc ls (.ref a :: rest)) rfl rfl (Jvm.hb C.2.2.1 hd)
/-- C is no K: C's superclass has none, and neither of them is K, which is a class that can be made -/
theorem notInst {C S K : String} {n : Nat} (wC : (Cond.superclass C S).before a0 Z = true) (wS : (Cond.noSuperclass S).before a0 Z = true) (wK : (Cond.instantiable K n).before a0 Z = true) (h1 : C ≠ K) (h2 : S ≠ K) : ∃ c t, Z.vm.findClass C = some c ∧ Z.vm.findClass K = some t ∧ Z.vm.assignable c t = false := by
  obtain ⟨cs, k0, f1, f2, f3, -, -⟩ := Cond.noSuperclass_spec wS
  obtain ⟨t, kt, g1, g2, g3, g4, -⟩ := Cond.instantiable_spec wK
  obtain ⟨c, h0⟩ := found_sup wC
  obtain ⟨p, k, kp, e1, e2, e3, e4, e5, -, e7⟩ := Cond.superclass_spec h0 wC
  cases f1.symm.trans e1
  have ne := ids_ne h0 g1 h1
  have ne2 := ids_ne f1 g1 h2
  have gi : kt.isInterface = false := by simp only [Bool.or_eq_false_iff] at g4; exact g4.1
  have key : ∀ fuel, Z.vm.isSubclassAux fuel c t = false := fun fuel => by
    cases fuel with
    | zero => rfl
    | succ f =>
      cases f with
      | zero => simp [Vm.isSubclassAux, ne, e2, e4]
      | succ f => simp [Vm.isSubclassAux, ne, e2, e4, ne2, f2, f3]
  refine ⟨c, t, h0, g1, ?_⟩
  show Z.vm.assignableAux (255 + 1) c t = false
  simp [Vm.assignableAux, ne, e2, g2, e5, g3, gi, Vm.isSubclass, key]
end W3


section W4
variable {w : Nat} {l : Launch} {Z : State} {EL : List (String × Nat)} {n0 : Nat} {own nm : String} {code : ByteArray} {ml : Nat} {ret : Option FieldType} {R : Room} {Q : Option Value → Heap → List Addr → Prop} {D : List Addr} {h h' : Heap} {kc ks pc pc' : Nat} {ls ls' : Array Slot} {st st' rest : List Value} {a0 : Array Value}
/-- System.arraycopy of bytes, chars or ints -/
theorem Runs.acopy {index W : Nat} {a b : Addr} {k k' : ClassId} {ty : FieldType} {z z' sp dp nn : Int32} {vs vd us : List Value} {dv dd : Value} (hd : Ins code pc (.invokestatic index) 3 pc')
    (w1 : (Cond.methodLink own index Jvm.Stand.acN).before a0 Z = true) (w2 : (Cond.native Jvm.Stand.acN).before a0 Z = true) (w3 : (Cond.static Jvm.Stand.acN).before a0 Z = true) (w4 : (Cond.initialized "java/lang/System").before a0 Z = true)
    (A : Arv Z h a k ty z vs dv) (B : Arv Z h b k' ty z' vd dd) (hty : refKind ty = false) (h1 : ¬ sp < 0) (h2 : ¬ dp < 0) (h3 : ¬ nn < 0) (h4 : sp.toNatClampNeg + nn.toNatClampNeg ≤ z.toNatClampNeg) (h5 : dp.toNatClampNeg + nn.toNatClampNeg ≤ z'.toNatClampNeg)
    (hus : us = (List.range nn.toNatClampNeg).map fun i => vs.getD (sp.toNatClampNeg + i) dv) (hlv : dp.toNatClampNeg + nn.toNatClampNeg ≤ vd.length) (hg : n0 ≤ b) (hs : b ∈ D ∨ ty ≠ .byte) (hls : ls.size = ml) (hf : 1 ≤ R.frames) (hW : (rest.map fun v => v.category).sum = W) (hlo : W + (nativeFrameWords "java/lang/System" "arraycopy" 5 + 11) ≤ R.locals)
    (K : ∀ h', Keep h h' [b] → Arv Z h' b k' ty z' (vd.take dp.toNatClampNeg ++ us ++ vd.drop (dp.toNatClampNeg + nn.toNatClampNeg)) dd → Runs w l Z EL n0 own nm code ml ret R Q D h' kc ks pc' ls rest) : Runs w l Z EL n0 own nm code ml ret R Q D h kc ks pc ls (.int nn :: .int dp :: .ref b :: .int sp :: .ref a :: rest) := by
  obtain ⟨hd, rfl⟩ := hd
  refine Runs.write (P := fun h' => Arv Z h' b k' ty z' (vd.take dp.toNatClampNeg ++ us ++ vd.drop (dp.toNatClampNeg + nn.toNatClampNeg)) dd) (one_ge hg) (safeA B hs) K fun p e s m args below meth c T locs C X eT Ol N => ?_
  obtain ⟨T', h1', L', X', e1, N', K', A', S'⟩ := cpA X C.1 C.2.1 C.2.2.2.2.1 w1 w2 w3 w4 eT A B (Or.inl ⟨rfl, hty⟩) h1 h2 h3 h4 h5 hus hlv N hg (g := mkF m pc ls (.int nn :: .int dp :: .ref b :: .int sp :: .ref a :: rest)) rfl (by rw [C.2.2.2.1]; exact hls) rfl (Jvm.hb C.2.2.1 hd) hf (W := W) (by show 2 * 0 + _ ≤ _; omega) hlo
  subst e1
  exact ⟨T', L', X', N', K', A', S'⟩
/-- the clone of an array -/
theorem Runs.clone {index W cap : Nat} {ad : String} {a : Addr} {k : ClassId} {ty : FieldType} {z : Int32} {vs : List Value} {dv : Value} (hd : Ins code pc (.invokevirtual index) 3 pc')
    (w1 : (Cond.methodLink own index ⟨ad, "clone", "()Ljava/lang/Object;"⟩).before a0 Z = true) (w2 : (Cond.sameMethod ad "java/lang/Object" "clone" "()Ljava/lang/Object;").before a0 Z = true) (w3 : (Cond.native ⟨"java/lang/Object", "clone", "()Ljava/lang/Object;"⟩).before a0 Z = true)
    (w4 : (Cond.instanceMethod ⟨"java/lang/Object", "clone", "()Ljava/lang/Object;"⟩).before a0 Z = true) (w5 : (Cond.selects ad ⟨ad, "clone", "()Ljava/lang/Object;"⟩ ⟨"java/lang/Object", "clone", "()Ljava/lang/Object;"⟩).before a0 Z = true) (w6 : (Cond.castable ad "java/lang/Cloneable").before a0 Z = true)
    (A : Arv Z h a k ty z vs dv) (E : Exa Z h a ad) (hls : ls.size = ml) (hf : 1 ≤ R.frames) (hW : (rest.map fun v => v.category).sum = W) (hlo : W + 14 ≤ R.locals) (hcap : z.toNatClampNeg ≤ cap) (hc : kc + 1 ≤ R.cells) (hl : ks + cap ≤ R.slots)
    (K : ∀ h' b, h.size ≤ b → n0 ≤ b → Keep h h' [] → Arv Z h' b k ty z vs dv → Exa Z h' b ad → Runs w l Z EL n0 own nm code ml ret R Q (b :: D) h' (kc + 1) (ks + cap) pc' ls (.ref b :: rest)) : Runs w l Z EL n0 own nm code ml ret R Q D h kc ks pc ls (.ref a :: rest) := by
  obtain ⟨hd, rfl⟩ := hd
  intro p e s vm0 m args below meth c T locs C X eT N O H Kw
  obtain ⟨T', h1, X', e1, E1, F1, x1, S1⟩ := cloneH X C.1 C.2.1 C.2.2.2.2.1 w1 w2 w3 w4 w5 w6 eT (hs := []) (vs := vs) (dv := dv) (by obtain ⟨cl, q1, q2, q3, q4, q5, q6⟩ := A; exact ⟨cl, q1, q2, q3, q4, fun i hi => q5 i hi, fun i hi => q6 i hi⟩) E (g := mkF m pc ls (.ref a :: rest)) rfl (by rw [C.2.2.2.1]; exact hls) rfl (Jvm.hb C.2.2.1 hd) hf (W := W) (by show 2 * 0 + _ ≤ _; omega) hlo hcap hc hl
  subst e1
  have hO : n0 ≤ h.size := by rw [← O.1]; exact O.2.1
  obtain ⟨s₂, o, S, r⟩ := K _ h.size (Nat.le_refl _) hO (keepE E1) (by obtain ⟨cl, q1, q2, q3, q4, q5, q6⟩ := F1; exact ⟨cl, q1, q2, q3, q4, fun i hi => q5 i hi, fun i hi => q6 i hi⟩) x1 p e s vm0 m args below meth c T' locs C X' rfl N (O.ext E1) (H.more E1 (Nat.le_refl _) x1.lt) Kw
  exact ⟨s₂, o, S1 _ S, r⟩
end W4


section W5
variable {w : Nat} {l : Launch} {Z : State} {EL : List (String × Nat)} {n0 : Nat} {own nm : String} {code : ByteArray} {ml : Nat} {ret : Option FieldType} {R : Room} {Q : Option Value → Heap → List Addr → Prop} {D : List Addr} {h : Heap} {kc ks pc pc' : Nat} {ls : Array Slot} {st rest : List Value} {a0 : Array Value}
/-- a virtual call of a method that a class above the named one declares -/
theorem Runs.callVUW {x z : MethodName} {owner : String} {index : Nat} {CC : String} {bytes : ByteArray} {maxL : Nat} {rt : Option FieldType} {rm : Room} {b : Addr} {argsL : List Value} {Q' : Option Value → Heap → List Addr → Prop} {W : Nat} {ps : List FieldType} {rr : Option FieldType}
    (hd : Ins code pc (.invokevirtual index) 3 pc') (w1 : (Cond.methodLink own index x).before a0 Z = true) (w2 : (Cond.sameMethod x.cls owner x.name x.desc).before a0 Z = true) (w2' : (Cond.declares ⟨owner, x.name, x.desc⟩).before a0 Z = true) (hy : owner ≠ "java/lang/invoke/MethodHandle" ∧ owner ≠ "java/lang/invoke/VarHandle") (w3 : (Cond.selects CC x z).before a0 Z = true) (w4 : (Cond.instanceMethod z).before a0 Z = true) (w5 : (Cond.code z bytes maxL rt).before a0 Z = true) (w6 : (Cond.initialized z.cls).before a0 Z = true)
    (E : Exa Z h b CC) (pd : parseMethodDescriptor x.desc = some ⟨ps, rr⟩) (hn : argsL.length = ps.length) (hls : ls.size = ml) (hst : st = argsL.reverse ++ .ref b :: rest) (hW : (rest.map fun v => v.category).sum = W) (hf : rm.frames + 1 ≤ R.frames) (hl : W + (maxL + 11) + rm.locals ≤ R.locals) (hc : kc + rm.cells ≤ R.cells) (hs : ks + rm.slots ≤ R.slots)
    {D0 : List Addr} (hD0 : ∀ x ∈ D0, x ∈ D) (w0 : w ≠ 0) (H : Con w l Z EL n0 z bytes maxL rt rm (.ref b :: argsL).toArray D0 h Q')
    (K : ∀ v h' D', Q' v h' D' → h.size ≤ h'.size → Runs w l Z EL n0 own nm code ml ret R Q (D' ++ D) h' (kc + rm.cells) (ks + rm.slots) pc' ls (v.toList ++ rest)) : Runs w l Z EL n0 own nm code ml ret R Q D h kc ks pc ls st := by
  obtain ⟨hd, rfl⟩ := hd
  intro p e s vm0 m args below meth c T locs C X eT N O Hd Kw
  obtain ⟨cB, kB, q1, -, q3⟩ := isOf C.2.1 eT E
  obtain ⟨v, vm₁, B, -, XB, hS, -, P, S⟩ := X.virtualBackUpS C.1 (x := x) (y := z) C.2.2.2.2.1 (mvT C.2.1 w1) (mvT C.2.1 w2) (mvT C.2.1 w2') hy (mvT C.2.1 w3) (mvT C.2.1 w4) (H.backW w0 Kw (W := W) O Hd.2.1 Hd.2.2.1.1 (fun x hx => Hd.2.2.2 x (hD0 x hx)) C.2.1 w5 w6 hf hl) q1 q3 (g := mkF m pc ls st) rfl (by rw [C.2.2.2.1]; exact hls) (Steps.refl _) (argsL := argsL) (rest := rest) (lenOf pd hn) hst (by show 2 * 0 + _ ≤ _; omega) (Jvm.hb C.2.2.1 hd) (fun _ _ => ⟨rfl, eT, hc, hs⟩)
  exact goOnW K w0 Kw C Hd N XB hS P S
theorem keepKp {h' : Heap} {a : Addr} (K : Kp Z h h' a) : Keep h h' [a] := ⟨K.1, fun x c hx hn => by
    obtain ⟨c', q1, -, -, q4, -⟩ := K.2 x c hx
    rw [q1, q4 (fun e => hn (List.mem_singleton.mpr e))], fun x c hx => by
    obtain ⟨c', q1, q2, q3, -⟩ := K.2 x c hx
    exact ⟨c', q1, by rw [q2], by rw [q2], q3⟩⟩
/-- new X(message): the chain of constructors up to Throwable's -/
theorem Runs.exc1 {rc : String} {links : List Jvm.Free.Exc.Link} {ic n W : Nat} {a : Addr} {msg : Value} (hd : Ins code pc (.invokespecial ic) 3 pc') (hl : l.stackTraces = true) (hw2 : w = 2) (hok : Jvm.Free.Exc.linksOk 1 links = true)
    (w1 : (Cond.methodLink own ic (Jvm.Free.Exc.ctor 1 (Jvm.Free.Exc.headName links))).before a0 Z = true) (w2 : (Cond.instanceMethod (Jvm.Free.Exc.ctor 1 (Jvm.Free.Exc.headName links))).before a0 Z = true) (wT : (Jvm.Free.Exc.chainTab 1 rc links).before a0 Z = true) (wi : (Cond.instantiable rc n).before a0 Z = true) (r : ∀ d ∈ twoRefs, d.before a0 Z = true)
    (E : Exa Z h a rc) (N0 : Unt h a) (B : Fld Z h a "java/lang/Throwable" "backtrace" "Ljava/lang/Object;" .null) (B2 : Fld Z h a "java/lang/Throwable" "detailMessage" "Ljava/lang/String;" .null) (hmsg : msg.isRef = true) (ga : n0 ≤ a) (hs : rc ≠ "java/lang/String" ∧ rc ≠ "[B") (hls : ls.size = ml) (hW : (rest.map fun v => v.category).sum = W)
    (hf : 4 + links.length ≤ R.frames) (hlo : W + (56 + 14 * links.length) ≤ R.locals) (hc : kc + 1 ≤ R.cells) (hsl : ks + 2752 ≤ R.slots)
    (K : ∀ h', Keep h h' [a] → Exa Z h' a rc → Unt h' a → Fld Z h' a "java/lang/Throwable" "detailMessage" "Ljava/lang/String;" msg → Fld Z h' a "java/lang/Throwable" "cause" "Ljava/lang/Throwable;" (.ref a) → Runs w l Z EL n0 own nm code ml ret R Q D h' (kc + 1) (ks + 2752) pc' ls rest) : Runs w l Z EL n0 own nm code ml ret R Q D h kc ks pc ls (msg :: .ref a :: rest) := by
  obtain ⟨hd, rfl⟩ := hd
  intro p e s vm0 m args below meth c T locs C X eT N O H Kw
  have kk := Kw hw2
  obtain ⟨T', h', X', e', K', E', U', M', Cz, -, S'⟩ := RoadKit.excL1 X C.1 hl C.2.1 C.2.2.2.2.1 hok w1 w2 wT wi r C.2.2.2.2.2.2.2.2 (ThS.start.ext O.2) (Vm.MethodsKnown.alikeC C.2.1.alike kk.1) (Vm.FramesKnown.alikeC C.2.1.alike kk.2) eT E N0 B B2 hmsg (g := mkF m pc ls (msg :: .ref a :: rest)) rfl (by rw [C.2.2.2.1]; exact hls) rfl (Jvm.hb C.2.2.1 hd) hf (by rw [hW]; show 2 * 0 + W + _ ≤ _; omega) hc hsl
  subst e'
  have Kk := keepKp K'
  obtain ⟨s₂, o, S, r⟩ := K _ Kk E' U' M' Cz p e s vm0 m args below meth c T' _ C X' rfl (N.app (fun y hy => by obtain ⟨nd, -, rfl⟩ := List.mem_map.mp hy; exact ga)) (O.keep Kk (one_ge ga)) (H.keep Kk (safeC E (Or.inr hs) vm0 C.2.1.alike (fun x hx => (H.2.2.2 x hx).2))) Kw
  exact ⟨s₂, o, S' _ S, r⟩
/-- Throwable.getCause of an exception that no monitor holds -/
theorem Runs.gcause {Cx CC : String} {index W : Nat} {a : Addr} {c0 : Value} (hd : Ins code pc (.invokevirtual index) 3 pc') (w1 : (Cond.methodLink own index ⟨Cx, "getCause", "()Ljava/lang/Throwable;"⟩).before a0 Z = true) (w2 : (Cond.sameMethod Cx "java/lang/Throwable" "getCause" "()Ljava/lang/Throwable;").before a0 Z = true) (w3 : (Cond.declares RoadKit.gcN).before a0 Z = true) (w4 : (Cond.selects CC ⟨Cx, "getCause", "()Ljava/lang/Throwable;"⟩ RoadKit.gcN).before a0 Z = true) (wc : (Cond.codeSync RoadKit.gcN RoadKit.gcB 1 (some (.object "java/lang/Throwable"))).before a0 Z = true) (wi : (Cond.instanceMethod RoadKit.gcN).before a0 Z = true) (wz : (Cond.initialized "java/lang/Throwable").before a0 Z = true) (wf : (Cond.fieldLink "java/lang/Throwable" 7 "java/lang/Throwable" "cause" "Ljava/lang/Throwable;").before a0 Z = true)
    (E : Exa Z h a CC) (N0 : Unt h a) (F : Fld Z h a "java/lang/Throwable" "cause" "Ljava/lang/Throwable;" c0) (hc0 : c0.isRef = true) (hls : ls.size = ml) (hW : (rest.map fun v => v.category).sum = W) (hf : 1 ≤ R.frames) (hlo : W + 12 ≤ R.locals) (hc : kc ≤ R.cells) (hs : ks ≤ R.slots)
    (K : Runs w l Z EL n0 own nm code ml ret R Q D h kc ks pc' ls (RoadKit.gcV a c0 :: rest)) : Runs w l Z EL n0 own nm code ml ret R Q D h kc ks pc ls (.ref a :: rest) := by
  obtain ⟨hd, rfl⟩ := hd
  refine K.warm fun p e s m args below meth c T locs C X eT O => ?_
  obtain ⟨cB, kB, q1, -, q3⟩ := isOf C.2.1 eT E
  obtain ⟨v, vm₁, B, -, XB, P, S⟩ := X.virtualBackUp C.1 (x := ⟨Cx, "getCause", "()Ljava/lang/Throwable;"⟩) (y := RoadKit.gcN) C.2.2.2.2.1 (mvT C.2.1 w1) (mvT C.2.1 w2) (mvT C.2.1 w3) (by decide) (mvT C.2.1 w4) (mvT C.2.1 wi) (gcBackPure (rm := { frames := 0, cells := 0, slots := 0, locals := 0 }) (W := W) C.2.1 wc wi wz wf N0 F hc0 hf hlo) q1 q3 (g := mkF m pc ls (.ref a :: rest)) rfl (by rw [C.2.2.2.1]; exact hls) (Steps.refl _) (argsL := []) (rest := rest) (lenOf (d := "()Ljava/lang/Throwable;") (ps := []) (r := some (.object "java/lang/Throwable")) (by decide +kernel) rfl) rfl (by show 2 * 0 + _ ≤ _; omega) (Jvm.hb C.2.2.1 hd) (fun _ _ => ⟨rfl, eT, hc, hs⟩)
  obtain ⟨U, Ls, kk, nn⟩ := B
  obtain ⟨rfl, p2, p3, p4, p5⟩ := P
  dsimp only [Pt.U, Pt.locs, Pt.cells, Pt.slots] at *
  subst p3 p4 p5
  exact ⟨U, XB, p2, fun t k => S.trans k⟩
end W5


end Jvm.OwnW
namespace Jvm.Pilot.@@N@@
open Jvm Jvm.ClassFile Sem Op Lib Jvm.Free Jvm.Stand Jvm.LawKit Jvm.RoadKit Bundle Jvm.OwnW Jvm.Pilot.@@N@@.Jvm.D
def pad : Nat → List Value → List Slot
 | 0, _ => []
 | n + 1, [] => .unset :: pad n []
 | n + 1, v :: vs => .val v :: pad n vs
theorem pad_eq : ∀ (n : Nat) (vs : List Value), vs.length ≤ n → pad n vs = vs.map Slot.val ++ List.replicate (n - vs.length) Slot.unset
 | 0, [], _ => rfl
 | n + 1, [], _ => by rw [pad, pad_eq n [] (Nat.zero_le _)]; simp [List.replicate_succ]
 | n + 1, v :: vs, h => by rw [pad, pad_eq n vs (Nat.le_of_succ_le_succ h)]; simp
theorem fill_eq : ∀ (vs : List Value) (acc : Array Slot), vs.all (fun v => v.category != 2) = true → vs.foldl (fun acc v => if v.category = 2 then (acc.push (.val v)).push .second else acc.push (.val v)) acc = acc ++ (vs.map Slot.val).toArray
 | [], acc, _ => by simp
 | v :: vs, acc, h => by
  rw [List.all_cons, Bool.and_eq_true] at h
  rw [List.foldl_cons, if_neg (by simpa using h.1), fill_eq vs _ h.2]; simp
theorem ef {vs : List Value} {n : Nat} (hc : vs.all (fun v => v.category != 2) = true) (hl : Nat.ble vs.length n = true) (m : MethodId) : entryFrame m vs.toArray n = mkF m 0 (pad n vs).toArray [] := by
 rw [pad_eq n vs (Nat.le_of_ble_eq_true hl)]
 simp only [entryFrame, argsToLocals, List.foldl_toArray', List.size_toArray, fill_eq vs #[] hc]
 simp
abbrev Wds (Z : State) (a0 : Array Value) : Prop := ∀ d ∈ tables_1, d.before a0 Z = true
theorem w0 {Z : State} {a0 : Array Value} (hw : Wds Z a0) : (Jvm.Cond.methodLink "com/example/pacerd/pacerd/run/OutcomeFailurePinLaw" (10 : Nat) ({ cls := "com/example/pacerd/pacerd/run/OutcomeFailurePinLaw", name := "draw", desc := "(I)I" } : Jvm.MethodName)).before a0 Z = true := hw _ (List.mem_of_getElem? (i := 0) rfl)
theorem w1 {Z : State} {a0 : Array Value} (hw : Wds Z a0) : (Jvm.Cond.static ({ cls := "com/example/pacerd/pacerd/run/OutcomeFailurePinLaw", name := "draw", desc := "(I)I" } : Jvm.MethodName)).before a0 Z = true := hw _ (List.mem_of_getElem? (i := 1) rfl)
theorem w2 {Z : State} {a0 : Array Value} (hw : Wds Z a0) : (Jvm.Cond.initialized "com/example/pacerd/pacerd/run/OutcomeFailurePinLaw").before a0 Z = true := hw _ (List.mem_of_getElem? (i := 2) rfl)
theorem w3 {Z : State} {a0 : Array Value} (hw : Wds Z a0) : (Jvm.Cond.code ({ cls := "com/example/pacerd/pacerd/run/OutcomeFailurePinLaw", name := "draw", desc := "(I)I" } : Jvm.MethodName) method_2_code (2 : Nat) (Option.some Jvm.ClassFile.FieldType.int)).before a0 Z = true := hw _ (List.mem_of_getElem? (i := 3) rfl)
theorem w4 {Z : State} {a0 : Array Value} (hw : Wds Z a0) : (Jvm.Cond.constant "com/example/pacerd/pacerd/run/OutcomeFailurePinLaw" (7 : Nat) (65535 : Int32)).before a0 Z = true := hw _ (List.mem_of_getElem? (i := 4) rfl)
theorem w5 {Z : State} {a0 : Array Value} (hw : Wds Z a0) : (Jvm.Cond.constant "com/example/pacerd/pacerd/run/OutcomeFailurePinLaw" (8 : Nat) (55296 : Int32)).before a0 Z = true := hw _ (List.mem_of_getElem? (i := 5) rfl)
theorem w6 {Z : State} {a0 : Array Value} (hw : Wds Z a0) : (Jvm.Cond.arrayClass Jvm.ClassFile.FieldType.char).before a0 Z = true := hw _ (List.mem_of_getElem? (i := 6) rfl)
theorem w7 {Z : State} {a0 : Array Value} (hw : Wds Z a0) : (Jvm.Cond.classLink "com/example/pacerd/pacerd/run/OutcomeFailurePinLaw" (16 : Nat) "java/lang/String").before a0 Z = true := hw _ (List.mem_of_getElem? (i := 7) rfl)
theorem w8 {Z : State} {a0 : Array Value} (hw : Wds Z a0) : (Jvm.Cond.instantiable "java/lang/String" (4 : Nat)).before a0 Z = true := hw _ (List.mem_of_getElem? (i := 8) rfl)
theorem w9 {Z : State} {a0 : Array Value} (hw : Wds Z a0) : (Jvm.Cond.initialized "java/lang/String").before a0 Z = true := hw _ (List.mem_of_getElem? (i := 9) rfl)
theorem w10 {Z : State} {a0 : Array Value} (hw : Wds Z a0) : (Jvm.Cond.methodLink "com/example/pacerd/pacerd/run/OutcomeFailurePinLaw" (18 : Nat) ({ cls := "java/lang/String", name := "<init>", desc := "([C)V" } : Jvm.MethodName)).before a0 Z = true := hw _ (List.mem_of_getElem? (i := 10) rfl)
theorem w11 {Z : State} {a0 : Array Value} (hw : Wds Z a0) : (Jvm.Cond.instanceMethod ({ cls := "java/lang/String", name := "<init>", desc := "([C)V" } : Jvm.MethodName)).before a0 Z = true := hw _ (List.mem_of_getElem? (i := 11) rfl)
theorem w12 {Z : State} {a0 : Array Value} (hw : Wds Z a0) : (Jvm.Cond.code ({ cls := "java/lang/String", name := "<init>", desc := "([C)V" } : Jvm.MethodName) jdk_42_method_3_code (2 : Nat) (Option.none : Option Jvm.ClassFile.FieldType)).before a0 Z = true := hw _ (List.mem_of_getElem? (i := 12) rfl)
theorem w13 {Z : State} {a0 : Array Value} (hw : Wds Z a0) : (Jvm.Cond.methodLink "java/lang/String" (27 : Nat) ({ cls := "java/lang/String", name := "<init>", desc := "([CIILjava/lang/Void;)V" } : Jvm.MethodName)).before a0 Z = true := hw _ (List.mem_of_getElem? (i := 13) rfl)
theorem w14 {Z : State} {a0 : Array Value} (hw : Wds Z a0) : (Jvm.Cond.instanceMethod ({ cls := "java/lang/String", name := "<init>", desc := "([CIILjava/lang/Void;)V" } : Jvm.MethodName)).before a0 Z = true := hw _ (List.mem_of_getElem? (i := 14) rfl)
theorem w16 {Z : State} {a0 : Array Value} (hw : Wds Z a0) : (Jvm.Cond.code ({ cls := "java/lang/String", name := "<init>", desc := "([CIILjava/lang/Void;)V" } : Jvm.MethodName) jdk_42_method_149_code (6 : Nat) (Option.none : Option Jvm.ClassFile.FieldType)).before a0 Z = true := hw _ (List.mem_of_getElem? (i := 16) rfl)
theorem w17 {Z : State} {a0 : Array Value} (hw : Wds Z a0) : (Jvm.Cond.methodLink "java/lang/String" (1 : Nat) ({ cls := "java/lang/Object", name := "<init>", desc := "()V" } : Jvm.MethodName)).before a0 Z = true := hw _ (List.mem_of_getElem? (i := 17) rfl)
theorem w18 {Z : State} {a0 : Array Value} (hw : Wds Z a0) : (Jvm.Cond.instanceMethod ({ cls := "java/lang/Object", name := "<init>", desc := "()V" } : Jvm.MethodName)).before a0 Z = true := hw _ (List.mem_of_getElem? (i := 18) rfl)
theorem w19 {Z : State} {a0 : Array Value} (hw : Wds Z a0) : (Jvm.Cond.code ({ cls := "java/lang/Object", name := "<init>", desc := "()V" } : Jvm.MethodName) object_method_1_code (1 : Nat) (Option.none : Option Jvm.ClassFile.FieldType)).before a0 Z = true := hw _ (List.mem_of_getElem? (i := 19) rfl)
theorem w21 {Z : State} {a0 : Array Value} (hw : Wds Z a0) : (Jvm.Cond.arrayClass Jvm.ClassFile.FieldType.byte).before a0 Z = true := hw _ (List.mem_of_getElem? (i := 21) rfl)
theorem w22 {Z : State} {a0 : Array Value} (hw : Wds Z a0) : (Jvm.Cond.laysFinal "java/lang/String" "java/lang/String" "value" "[B").before a0 Z = true := hw _ (List.mem_of_getElem? (i := 22) rfl)
theorem w23 {Z : State} {a0 : Array Value} (hw : Wds Z a0) : (Jvm.Cond.laysFinal "java/lang/String" "java/lang/String" "coder" "B").before a0 Z = true := hw _ (List.mem_of_getElem? (i := 23) rfl)
theorem w24 {Z : State} {a0 : Array Value} (hw : Wds Z a0) : (Jvm.Cond.soleField "java/lang/String" "value").before a0 Z = true := hw _ (List.mem_of_getElem? (i := 24) rfl)
theorem w25 {Z : State} {a0 : Array Value} (hw : Wds Z a0) : (Jvm.Cond.soleField "java/lang/String" "coder").before a0 Z = true := hw _ (List.mem_of_getElem? (i := 25) rfl)
theorem w26 {Z : State} {a0 : Array Value} (hw : Wds Z a0) : (Jvm.Cond.fieldLink "java/lang/String" (9 : Nat) "java/lang/String" "value" "[B").before a0 Z = true := hw _ (List.mem_of_getElem? (i := 26) rfl)
theorem w27 {Z : State} {a0 : Array Value} (hw : Wds Z a0) : (Jvm.Cond.fieldLink "java/lang/String" (15 : Nat) "java/lang/String" "coder" "B").before a0 Z = true := hw _ (List.mem_of_getElem? (i := 27) rfl)
theorem w28 {Z : State} {a0 : Array Value} (hw : Wds Z a0) : (Jvm.Cond.methodLink "com/example/pacerd/pacerd/run/OutcomeFailurePinLaw" (25 : Nat) ({ cls := "com/example/pacerd/pacerd/run/Outcome", name := "failure", desc := "(Ljava/lang/String;)Lcom/example/pacerd/pacerd/run/Outcome;" } : Jvm.MethodName)).before a0 Z = true := hw _ (List.mem_of_getElem? (i := 28) rfl)
theorem w29 {Z : State} {a0 : Array Value} (hw : Wds Z a0) : (Jvm.Cond.static ({ cls := "com/example/pacerd/pacerd/run/Outcome", name := "failure", desc := "(Ljava/lang/String;)Lcom/example/pacerd/pacerd/run/Outcome;" } : Jvm.MethodName)).before a0 Z = true := hw _ (List.mem_of_getElem? (i := 29) rfl)
theorem w30 {Z : State} {a0 : Array Value} (hw : Wds Z a0) : (Jvm.Cond.initialized "com/example/pacerd/pacerd/run/Outcome").before a0 Z = true := hw _ (List.mem_of_getElem? (i := 30) rfl)
theorem w31 {Z : State} {a0 : Array Value} (hw : Wds Z a0) : (Jvm.Cond.code ({ cls := "com/example/pacerd/pacerd/run/Outcome", name := "failure", desc := "(Ljava/lang/String;)Lcom/example/pacerd/pacerd/run/Outcome;" } : Jvm.MethodName) prog_25_method_2_code (2 : Nat) (Option.some (Jvm.ClassFile.FieldType.object "com/example/pacerd/pacerd/run/Outcome"))).before a0 Z = true := hw _ (List.mem_of_getElem? (i := 31) rfl)
theorem w32 {Z : State} {a0 : Array Value} (hw : Wds Z a0) : (Jvm.Cond.classLink "com/example/pacerd/pacerd/run/Outcome" (24 : Nat) "java/lang/StringBuilder").before a0 Z = true := hw _ (List.mem_of_getElem? (i := 32) rfl)
theorem w33 {Z : State} {a0 : Array Value} (hw : Wds Z a0) : (Jvm.Cond.instantiable "java/lang/StringBuilder" (4 : Nat)).before a0 Z = true := hw _ (List.mem_of_getElem? (i := 33) rfl)
theorem w34 {Z : State} {a0 : Array Value} (hw : Wds Z a0) : (Jvm.Cond.initialized "java/lang/StringBuilder").before a0 Z = true := hw _ (List.mem_of_getElem? (i := 34) rfl)
theorem w35 {Z : State} {a0 : Array Value} (hw : Wds Z a0) : (Jvm.Cond.methodLink "com/example/pacerd/pacerd/run/Outcome" (26 : Nat) ({ cls := "java/lang/StringBuilder", name := "<init>", desc := "()V" } : Jvm.MethodName)).before a0 Z = true := hw _ (List.mem_of_getElem? (i := 35) rfl)
theorem w36 {Z : State} {a0 : Array Value} (hw : Wds Z a0) : (Jvm.Cond.instanceMethod ({ cls := "java/lang/StringBuilder", name := "<init>", desc := "()V" } : Jvm.MethodName)).before a0 Z = true := hw _ (List.mem_of_getElem? (i := 36) rfl)
theorem w37 {Z : State} {a0 : Array Value} (hw : Wds Z a0) : (Jvm.Cond.code ({ cls := "java/lang/StringBuilder", name := "<init>", desc := "()V" } : Jvm.MethodName) jdk_67_method_1_code (1 : Nat) (Option.none : Option Jvm.ClassFile.FieldType)).before a0 Z = true := hw _ (List.mem_of_getElem? (i := 37) rfl)
theorem w38 {Z : State} {a0 : Array Value} (hw : Wds Z a0) : (Jvm.Cond.methodLink "java/lang/StringBuilder" (1 : Nat) ({ cls := "java/lang/AbstractStringBuilder", name := "<init>", desc := "(I)V" } : Jvm.MethodName)).before a0 Z = true := hw _ (List.mem_of_getElem? (i := 38) rfl)
theorem w39 {Z : State} {a0 : Array Value} (hw : Wds Z a0) : (Jvm.Cond.instanceMethod ({ cls := "java/lang/AbstractStringBuilder", name := "<init>", desc := "(I)V" } : Jvm.MethodName)).before a0 Z = true := hw _ (List.mem_of_getElem? (i := 39) rfl)
theorem w42 {Z : State} {a0 : Array Value} (hw : Wds Z a0) : (Jvm.Cond.initialized "java/lang/AbstractStringBuilder").before a0 Z = true := hw _ (List.mem_of_getElem? (i := 42) rfl)
theorem w43 {Z : State} {a0 : Array Value} (hw : Wds Z a0) : (Jvm.Cond.code ({ cls := "java/lang/AbstractStringBuilder", name := "<init>", desc := "(I)V" } : Jvm.MethodName) jdk_68_method_2_code (2 : Nat) (Option.none : Option Jvm.ClassFile.FieldType)).before a0 Z = true := hw _ (List.mem_of_getElem? (i := 43) rfl)
theorem w44 {Z : State} {a0 : Array Value} (hw : Wds Z a0) : (Jvm.Cond.methodLink "java/lang/AbstractStringBuilder" (3 : Nat) ({ cls := "java/lang/Object", name := "<init>", desc := "()V" } : Jvm.MethodName)).before a0 Z = true := hw _ (List.mem_of_getElem? (i := 44) rfl)
theorem w45 {Z : State} {a0 : Array Value} (hw : Wds Z a0) : (Jvm.Cond.fieldLink "java/lang/AbstractStringBuilder" (18 : Nat) "java/lang/String" "COMPACT_STRINGS" "Z").before a0 Z = true := hw _ (List.mem_of_getElem? (i := 45) rfl)
theorem w46 {Z : State} {a0 : Array Value} (hw : Wds Z a0) : (Jvm.Cond.fieldLink "java/lang/AbstractStringBuilder" (15 : Nat) "java/lang/AbstractStringBuilder" "value" "[B").before a0 Z = true := hw _ (List.mem_of_getElem? (i := 46) rfl)
theorem w47 {Z : State} {a0 : Array Value} (hw : Wds Z a0) : (Jvm.Cond.lays "java/lang/StringBuilder" "java/lang/AbstractStringBuilder" "value" "[B").before a0 Z = true := hw _ (List.mem_of_getElem? (i := 47) rfl)
theorem w48 {Z : State} {a0 : Array Value} (hw : Wds Z a0) : (Jvm.Cond.fieldLink "java/lang/AbstractStringBuilder" (22 : Nat) "java/lang/AbstractStringBuilder" "coder" "B").before a0 Z = true := hw _ (List.mem_of_getElem? (i := 48) rfl)
theorem w49 {Z : State} {a0 : Array Value} (hw : Wds Z a0) : (Jvm.Cond.lays "java/lang/StringBuilder" "java/lang/AbstractStringBuilder" "coder" "B").before a0 Z = true := hw _ (List.mem_of_getElem? (i := 49) rfl)
theorem w51 {Z : State} {a0 : Array Value} (hw : Wds Z a0) : (Jvm.Cond.methodLink "com/example/pacerd/pacerd/run/Outcome" (29 : Nat) ({ cls := "java/lang/StringBuilder", name := "append", desc := "(Ljava/lang/String;)Ljava/lang/StringBuilder;" } : Jvm.MethodName)).before a0 Z = true := hw _ (List.mem_of_getElem? (i := 51) rfl)
theorem w52 {Z : State} {a0 : Array Value} (hw : Wds Z a0) : (Jvm.Cond.declares ({ cls := "java/lang/StringBuilder", name := "append", desc := "(Ljava/lang/String;)Ljava/lang/StringBuilder;" } : Jvm.MethodName)).before a0 Z = true := hw _ (List.mem_of_getElem? (i := 52) rfl)
theorem w53 {Z : State} {a0 : Array Value} (hw : Wds Z a0) : (Jvm.Cond.instanceMethod ({ cls := "java/lang/StringBuilder", name := "append", desc := "(Ljava/lang/String;)Ljava/lang/StringBuilder;" } : Jvm.MethodName)).before a0 Z = true := hw _ (List.mem_of_getElem? (i := 53) rfl)
theorem w54 {Z : State} {a0 : Array Value} (hw : Wds Z a0) : (Jvm.Cond.selects "java/lang/StringBuilder" ({ cls := "java/lang/StringBuilder", name := "append", desc := "(Ljava/lang/String;)Ljava/lang/StringBuilder;" } : Jvm.MethodName) ({ cls := "java/lang/StringBuilder", name := "append", desc := "(Ljava/lang/String;)Ljava/lang/StringBuilder;" } : Jvm.MethodName)).before a0 Z = true := hw _ (List.mem_of_getElem? (i := 54) rfl)
theorem w55 {Z : State} {a0 : Array Value} (hw : Wds Z a0) : (Jvm.Cond.code ({ cls := "java/lang/StringBuilder", name := "append", desc := "(Ljava/lang/String;)Ljava/lang/StringBuilder;" } : Jvm.MethodName) jdk_67_method_7_code (2 : Nat) (Option.some (Jvm.ClassFile.FieldType.object "java/lang/StringBuilder"))).before a0 Z = true := hw _ (List.mem_of_getElem? (i := 55) rfl)
theorem w56 {Z : State} {a0 : Array Value} (hw : Wds Z a0) : (Jvm.Cond.methodLink "java/lang/StringBuilder" (29 : Nat) ({ cls := "java/lang/AbstractStringBuilder", name := "append", desc := "(Ljava/lang/String;)Ljava/lang/AbstractStringBuilder;" } : Jvm.MethodName)).before a0 Z = true := hw _ (List.mem_of_getElem? (i := 56) rfl)
theorem w57 {Z : State} {a0 : Array Value} (hw : Wds Z a0) : (Jvm.Cond.instanceMethod ({ cls := "java/lang/AbstractStringBuilder", name := "append", desc := "(Ljava/lang/String;)Ljava/lang/AbstractStringBuilder;" } : Jvm.MethodName)).before a0 Z = true := hw _ (List.mem_of_getElem? (i := 57) rfl)
theorem w58 {Z : State} {a0 : Array Value} (hw : Wds Z a0) : (Jvm.Cond.superclass "java/lang/StringBuilder" "java/lang/AbstractStringBuilder").before a0 Z = true := hw _ (List.mem_of_getElem? (i := 58) rfl)
theorem w59 {Z : State} {a0 : Array Value} (hw : Wds Z a0) : (Jvm.Cond.declares ({ cls := "java/lang/AbstractStringBuilder", name := "append", desc := "(Ljava/lang/String;)Ljava/lang/AbstractStringBuilder;" } : Jvm.MethodName)).before a0 Z = true := hw _ (List.mem_of_getElem? (i := 59) rfl)
theorem w60 {Z : State} {a0 : Array Value} (hw : Wds Z a0) : (Jvm.Cond.code ({ cls := "java/lang/AbstractStringBuilder", name := "append", desc := "(Ljava/lang/String;)Ljava/lang/AbstractStringBuilder;" } : Jvm.MethodName) jdk_68_method_22_code (3 : Nat) (Option.some (Jvm.ClassFile.FieldType.object "java/lang/AbstractStringBuilder"))).before a0 Z = true := hw _ (List.mem_of_getElem? (i := 60) rfl)
theorem w61 {Z : State} {a0 : Array Value} (hw : Wds Z a0) : (Jvm.Cond.methodLink "java/lang/AbstractStringBuilder" (32 : Nat) ({ cls := "java/lang/String", name := "length", desc := "()I" } : Jvm.MethodName)).before a0 Z = true := hw _ (List.mem_of_getElem? (i := 61) rfl)
theorem w62 {Z : State} {a0 : Array Value} (hw : Wds Z a0) : (Jvm.Cond.declares ({ cls := "java/lang/String", name := "length", desc := "()I" } : Jvm.MethodName)).before a0 Z = true := hw _ (List.mem_of_getElem? (i := 62) rfl)
theorem w63 {Z : State} {a0 : Array Value} (hw : Wds Z a0) : (Jvm.Cond.instanceMethod ({ cls := "java/lang/String", name := "length", desc := "()I" } : Jvm.MethodName)).before a0 Z = true := hw _ (List.mem_of_getElem? (i := 63) rfl)
theorem w64 {Z : State} {a0 : Array Value} (hw : Wds Z a0) : (Jvm.Cond.selects "java/lang/String" ({ cls := "java/lang/String", name := "length", desc := "()I" } : Jvm.MethodName) ({ cls := "java/lang/String", name := "length", desc := "()I" } : Jvm.MethodName)).before a0 Z = true := hw _ (List.mem_of_getElem? (i := 64) rfl)
theorem w65 {Z : State} {a0 : Array Value} (hw : Wds Z a0) : (Jvm.Cond.code ({ cls := "java/lang/String", name := "length", desc := "()I" } : Jvm.MethodName) jdk_42_method_54_code (1 : Nat) (Option.some Jvm.ClassFile.FieldType.int)).before a0 Z = true := hw _ (List.mem_of_getElem? (i := 65) rfl)
theorem w66 {Z : State} {a0 : Array Value} (hw : Wds Z a0) : (Jvm.Cond.methodLink "java/lang/String" (335 : Nat) ({ cls := "java/lang/String", name := "coder", desc := "()B" } : Jvm.MethodName)).before a0 Z = true := hw _ (List.mem_of_getElem? (i := 66) rfl)
theorem w67 {Z : State} {a0 : Array Value} (hw : Wds Z a0) : (Jvm.Cond.declares ({ cls := "java/lang/String", name := "coder", desc := "()B" } : Jvm.MethodName)).before a0 Z = true := hw _ (List.mem_of_getElem? (i := 67) rfl)
theorem w68 {Z : State} {a0 : Array Value} (hw : Wds Z a0) : (Jvm.Cond.instanceMethod ({ cls := "java/lang/String", name := "coder", desc := "()B" } : Jvm.MethodName)).before a0 Z = true := hw _ (List.mem_of_getElem? (i := 68) rfl)
theorem w69 {Z : State} {a0 : Array Value} (hw : Wds Z a0) : (Jvm.Cond.selects "java/lang/String" ({ cls := "java/lang/String", name := "coder", desc := "()B" } : Jvm.MethodName) ({ cls := "java/lang/String", name := "coder", desc := "()B" } : Jvm.MethodName)).before a0 Z = true := hw _ (List.mem_of_getElem? (i := 69) rfl)
theorem w70 {Z : State} {a0 : Array Value} (hw : Wds Z a0) : (Jvm.Cond.code ({ cls := "java/lang/String", name := "coder", desc := "()B" } : Jvm.MethodName) jdk_42_method_152_code (1 : Nat) (Option.some Jvm.ClassFile.FieldType.byte)).before a0 Z = true := hw _ (List.mem_of_getElem? (i := 70) rfl)
theorem w71 {Z : State} {a0 : Array Value} (hw : Wds Z a0) : (Jvm.Cond.fieldLink "java/lang/String" (38 : Nat) "java/lang/String" "COMPACT_STRINGS" "Z").before a0 Z = true := hw _ (List.mem_of_getElem? (i := 71) rfl)
theorem w72 {Z : State} {a0 : Array Value} (hw : Wds Z a0) : (Jvm.Cond.fieldLink "java/lang/AbstractStringBuilder" (79 : Nat) "java/lang/AbstractStringBuilder" "count" "I").before a0 Z = true := hw _ (List.mem_of_getElem? (i := 72) rfl)
theorem w73 {Z : State} {a0 : Array Value} (hw : Wds Z a0) : (Jvm.Cond.lays "java/lang/StringBuilder" "java/lang/AbstractStringBuilder" "count" "I").before a0 Z = true := hw _ (List.mem_of_getElem? (i := 73) rfl)
theorem w74 {Z : State} {a0 : Array Value} (hw : Wds Z a0) : (Jvm.Cond.methodLink "java/lang/AbstractStringBuilder" (100 : Nat) ({ cls := "java/lang/AbstractStringBuilder", name := "ensureCapacityInternal", desc := "(I)V" } : Jvm.MethodName)).before a0 Z = true := hw _ (List.mem_of_getElem? (i := 74) rfl)
theorem w75 {Z : State} {a0 : Array Value} (hw : Wds Z a0) : (Jvm.Cond.instanceMethod ({ cls := "java/lang/AbstractStringBuilder", name := "ensureCapacityInternal", desc := "(I)V" } : Jvm.MethodName)).before a0 Z = true := hw _ (List.mem_of_getElem? (i := 75) rfl)
theorem w77 {Z : State} {a0 : Array Value} (hw : Wds Z a0) : (Jvm.Cond.selects "java/lang/StringBuilder" ({ cls := "java/lang/AbstractStringBuilder", name := "ensureCapacityInternal", desc := "(I)V" } : Jvm.MethodName) ({ cls := "java/lang/AbstractStringBuilder", name := "ensureCapacityInternal", desc := "(I)V" } : Jvm.MethodName)).before a0 Z = true := hw _ (List.mem_of_getElem? (i := 77) rfl)
theorem w78 {Z : State} {a0 : Array Value} (hw : Wds Z a0) : (Jvm.Cond.code ({ cls := "java/lang/AbstractStringBuilder", name := "ensureCapacityInternal", desc := "(I)V" } : Jvm.MethodName) jdk_68_method_9_code (3 : Nat) (Option.none : Option Jvm.ClassFile.FieldType)).before a0 Z = true := hw _ (List.mem_of_getElem? (i := 78) rfl)
theorem w79 {Z : State} {a0 : Array Value} (hw : Wds Z a0) : (Jvm.Cond.methodLink "java/lang/AbstractStringBuilder" (208 : Nat) ({ cls := "java/lang/AbstractStringBuilder", name := "putStringAt", desc := "(ILjava/lang/String;)V" } : Jvm.MethodName)).before a0 Z = true := hw _ (List.mem_of_getElem? (i := 79) rfl)
theorem w80 {Z : State} {a0 : Array Value} (hw : Wds Z a0) : (Jvm.Cond.instanceMethod ({ cls := "java/lang/AbstractStringBuilder", name := "putStringAt", desc := "(ILjava/lang/String;)V" } : Jvm.MethodName)).before a0 Z = true := hw _ (List.mem_of_getElem? (i := 80) rfl)
theorem w82 {Z : State} {a0 : Array Value} (hw : Wds Z a0) : (Jvm.Cond.selects "java/lang/StringBuilder" ({ cls := "java/lang/AbstractStringBuilder", name := "putStringAt", desc := "(ILjava/lang/String;)V" } : Jvm.MethodName) ({ cls := "java/lang/AbstractStringBuilder", name := "putStringAt", desc := "(ILjava/lang/String;)V" } : Jvm.MethodName)).before a0 Z = true := hw _ (List.mem_of_getElem? (i := 82) rfl)
theorem w83 {Z : State} {a0 : Array Value} (hw : Wds Z a0) : (Jvm.Cond.code ({ cls := "java/lang/AbstractStringBuilder", name := "putStringAt", desc := "(ILjava/lang/String;)V" } : Jvm.MethodName) jdk_68_method_73_code (3 : Nat) (Option.none : Option Jvm.ClassFile.FieldType)).before a0 Z = true := hw _ (List.mem_of_getElem? (i := 83) rfl)
theorem w84 {Z : State} {a0 : Array Value} (hw : Wds Z a0) : (Jvm.Cond.methodLink "java/lang/AbstractStringBuilder" (397 : Nat) ({ cls := "java/lang/AbstractStringBuilder", name := "inflateIfNeededFor", desc := "(Ljava/lang/String;)V" } : Jvm.MethodName)).before a0 Z = true := hw _ (List.mem_of_getElem? (i := 84) rfl)
theorem w85 {Z : State} {a0 : Array Value} (hw : Wds Z a0) : (Jvm.Cond.instanceMethod ({ cls := "java/lang/AbstractStringBuilder", name := "inflateIfNeededFor", desc := "(Ljava/lang/String;)V" } : Jvm.MethodName)).before a0 Z = true := hw _ (List.mem_of_getElem? (i := 85) rfl)
theorem w87 {Z : State} {a0 : Array Value} (hw : Wds Z a0) : (Jvm.Cond.selects "java/lang/StringBuilder" ({ cls := "java/lang/AbstractStringBuilder", name := "inflateIfNeededFor", desc := "(Ljava/lang/String;)V" } : Jvm.MethodName) ({ cls := "java/lang/AbstractStringBuilder", name := "inflateIfNeededFor", desc := "(Ljava/lang/String;)V" } : Jvm.MethodName)).before a0 Z = true := hw _ (List.mem_of_getElem? (i := 87) rfl)
theorem w88 {Z : State} {a0 : Array Value} (hw : Wds Z a0) : (Jvm.Cond.code ({ cls := "java/lang/AbstractStringBuilder", name := "inflateIfNeededFor", desc := "(Ljava/lang/String;)V" } : Jvm.MethodName) jdk_68_method_71_code (2 : Nat) (Option.none : Option Jvm.ClassFile.FieldType)).before a0 Z = true := hw _ (List.mem_of_getElem? (i := 88) rfl)
theorem w89 {Z : State} {a0 : Array Value} (hw : Wds Z a0) : (Jvm.Cond.methodLink "java/lang/AbstractStringBuilder" (40 : Nat) ({ cls := "java/lang/String", name := "coder", desc := "()B" } : Jvm.MethodName)).before a0 Z = true := hw _ (List.mem_of_getElem? (i := 89) rfl)
theorem w90 {Z : State} {a0 : Array Value} (hw : Wds Z a0) : (Jvm.Cond.methodLink "java/lang/AbstractStringBuilder" (399 : Nat) ({ cls := "java/lang/String", name := "getBytes", desc := "([BIB)V" } : Jvm.MethodName)).before a0 Z = true := hw _ (List.mem_of_getElem? (i := 90) rfl)
theorem w91 {Z : State} {a0 : Array Value} (hw : Wds Z a0) : (Jvm.Cond.declares ({ cls := "java/lang/String", name := "getBytes", desc := "([BIB)V" } : Jvm.MethodName)).before a0 Z = true := hw _ (List.mem_of_getElem? (i := 91) rfl)
theorem w92 {Z : State} {a0 : Array Value} (hw : Wds Z a0) : (Jvm.Cond.instanceMethod ({ cls := "java/lang/String", name := "getBytes", desc := "([BIB)V" } : Jvm.MethodName)).before a0 Z = true := hw _ (List.mem_of_getElem? (i := 92) rfl)
theorem w93 {Z : State} {a0 : Array Value} (hw : Wds Z a0) : (Jvm.Cond.selects "java/lang/String" ({ cls := "java/lang/String", name := "getBytes", desc := "([BIB)V" } : Jvm.MethodName) ({ cls := "java/lang/String", name := "getBytes", desc := "([BIB)V" } : Jvm.MethodName)).before a0 Z = true := hw _ (List.mem_of_getElem? (i := 93) rfl)
theorem w94 {Z : State} {a0 : Array Value} (hw : Wds Z a0) : (Jvm.Cond.code ({ cls := "java/lang/String", name := "getBytes", desc := "([BIB)V" } : Jvm.MethodName) jdk_42_method_147_code (4 : Nat) (Option.none : Option Jvm.ClassFile.FieldType)).before a0 Z = true := hw _ (List.mem_of_getElem? (i := 94) rfl)
theorem w95 {Z : State} {a0 : Array Value} (hw : Wds Z a0) : (Jvm.Cond.methodLink "java/lang/String" (212 : Nat) ({ cls := "java/lang/System", name := "arraycopy", desc := "(Ljava/lang/Object;ILjava/lang/Object;II)V" } : Jvm.MethodName)).before a0 Z = true := hw _ (List.mem_of_getElem? (i := 95) rfl)
theorem w96 {Z : State} {a0 : Array Value} (hw : Wds Z a0) : (Jvm.Cond.static ({ cls := "java/lang/System", name := "arraycopy", desc := "(Ljava/lang/Object;ILjava/lang/Object;II)V" } : Jvm.MethodName)).before a0 Z = true := hw _ (List.mem_of_getElem? (i := 96) rfl)
theorem w97 {Z : State} {a0 : Array Value} (hw : Wds Z a0) : (Jvm.Cond.initialized "java/lang/System").before a0 Z = true := hw _ (List.mem_of_getElem? (i := 97) rfl)
theorem w98 {Z : State} {a0 : Array Value} (hw : Wds Z a0) : (Jvm.Cond.native ({ cls := "java/lang/System", name := "arraycopy", desc := "(Ljava/lang/Object;ILjava/lang/Object;II)V" } : Jvm.MethodName)).before a0 Z = true := hw _ (List.mem_of_getElem? (i := 98) rfl)
theorem w99 {Z : State} {a0 : Array Value} (hw : Wds Z a0) : (Jvm.Cond.methodLink "com/example/pacerd/pacerd/run/Outcome" (33 : Nat) ({ cls := "java/lang/StringBuilder", name := "toString", desc := "()Ljava/lang/String;" } : Jvm.MethodName)).before a0 Z = true := hw _ (List.mem_of_getElem? (i := 99) rfl)
theorem w100 {Z : State} {a0 : Array Value} (hw : Wds Z a0) : (Jvm.Cond.declares ({ cls := "java/lang/StringBuilder", name := "toString", desc := "()Ljava/lang/String;" } : Jvm.MethodName)).before a0 Z = true := hw _ (List.mem_of_getElem? (i := 100) rfl)
theorem w101 {Z : State} {a0 : Array Value} (hw : Wds Z a0) : (Jvm.Cond.instanceMethod ({ cls := "java/lang/StringBuilder", name := "toString", desc := "()Ljava/lang/String;" } : Jvm.MethodName)).before a0 Z = true := hw _ (List.mem_of_getElem? (i := 101) rfl)
theorem w102 {Z : State} {a0 : Array Value} (hw : Wds Z a0) : (Jvm.Cond.selects "java/lang/StringBuilder" ({ cls := "java/lang/StringBuilder", name := "toString", desc := "()Ljava/lang/String;" } : Jvm.MethodName) ({ cls := "java/lang/StringBuilder", name := "toString", desc := "()Ljava/lang/String;" } : Jvm.MethodName)).before a0 Z = true := hw _ (List.mem_of_getElem? (i := 102) rfl)
theorem w103 {Z : State} {a0 : Array Value} (hw : Wds Z a0) : (Jvm.Cond.code ({ cls := "java/lang/StringBuilder", name := "toString", desc := "()Ljava/lang/String;" } : Jvm.MethodName) jdk_67_method_42_code (1 : Nat) (Option.some (Jvm.ClassFile.FieldType.object "java/lang/String"))).before a0 Z = true := hw _ (List.mem_of_getElem? (i := 103) rfl)
theorem w104 {Z : State} {a0 : Array Value} (hw : Wds Z a0) : (Jvm.Cond.classLink "java/lang/StringBuilder" (18 : Nat) "java/lang/String").before a0 Z = true := hw _ (List.mem_of_getElem? (i := 104) rfl)
theorem w105 {Z : State} {a0 : Array Value} (hw : Wds Z a0) : (Jvm.Cond.methodLink "java/lang/StringBuilder" (137 : Nat) ({ cls := "java/lang/String", name := "<init>", desc := "(Ljava/lang/StringBuilder;)V" } : Jvm.MethodName)).before a0 Z = true := hw _ (List.mem_of_getElem? (i := 105) rfl)
theorem w106 {Z : State} {a0 : Array Value} (hw : Wds Z a0) : (Jvm.Cond.instanceMethod ({ cls := "java/lang/String", name := "<init>", desc := "(Ljava/lang/StringBuilder;)V" } : Jvm.MethodName)).before a0 Z = true := hw _ (List.mem_of_getElem? (i := 106) rfl)
theorem w107 {Z : State} {a0 : Array Value} (hw : Wds Z a0) : (Jvm.Cond.code ({ cls := "java/lang/String", name := "<init>", desc := "(Ljava/lang/StringBuilder;)V" } : Jvm.MethodName) jdk_42_method_53_code (2 : Nat) (Option.none : Option Jvm.ClassFile.FieldType)).before a0 Z = true := hw _ (List.mem_of_getElem? (i := 107) rfl)
theorem w108 {Z : State} {a0 : Array Value} (hw : Wds Z a0) : (Jvm.Cond.methodLink "java/lang/String" (489 : Nat) ({ cls := "java/lang/String", name := "<init>", desc := "(Ljava/lang/AbstractStringBuilder;Ljava/lang/Void;)V" } : Jvm.MethodName)).before a0 Z = true := hw _ (List.mem_of_getElem? (i := 108) rfl)
theorem w109 {Z : State} {a0 : Array Value} (hw : Wds Z a0) : (Jvm.Cond.instanceMethod ({ cls := "java/lang/String", name := "<init>", desc := "(Ljava/lang/AbstractStringBuilder;Ljava/lang/Void;)V" } : Jvm.MethodName)).before a0 Z = true := hw _ (List.mem_of_getElem? (i := 109) rfl)
theorem w110 {Z : State} {a0 : Array Value} (hw : Wds Z a0) : (Jvm.Cond.code ({ cls := "java/lang/String", name := "<init>", desc := "(Ljava/lang/AbstractStringBuilder;Ljava/lang/Void;)V" } : Jvm.MethodName) jdk_42_method_150_code (5 : Nat) (Option.none : Option Jvm.ClassFile.FieldType)).before a0 Z = true := hw _ (List.mem_of_getElem? (i := 110) rfl)
theorem w111 {Z : State} {a0 : Array Value} (hw : Wds Z a0) : (Jvm.Cond.methodLink "java/lang/String" (552 : Nat) ({ cls := "java/lang/AbstractStringBuilder", name := "getValue", desc := "()[B" } : Jvm.MethodName)).before a0 Z = true := hw _ (List.mem_of_getElem? (i := 111) rfl)
theorem w112 {Z : State} {a0 : Array Value} (hw : Wds Z a0) : (Jvm.Cond.declares ({ cls := "java/lang/AbstractStringBuilder", name := "getValue", desc := "()[B" } : Jvm.MethodName)).before a0 Z = true := hw _ (List.mem_of_getElem? (i := 112) rfl)
theorem w113 {Z : State} {a0 : Array Value} (hw : Wds Z a0) : (Jvm.Cond.instanceMethod ({ cls := "java/lang/AbstractStringBuilder", name := "getValue", desc := "()[B" } : Jvm.MethodName)).before a0 Z = true := hw _ (List.mem_of_getElem? (i := 113) rfl)
theorem w114 {Z : State} {a0 : Array Value} (hw : Wds Z a0) : (Jvm.Cond.selects "java/lang/StringBuilder" ({ cls := "java/lang/AbstractStringBuilder", name := "getValue", desc := "()[B" } : Jvm.MethodName) ({ cls := "java/lang/AbstractStringBuilder", name := "getValue", desc := "()[B" } : Jvm.MethodName)).before a0 Z = true := hw _ (List.mem_of_getElem? (i := 114) rfl)
theorem w115 {Z : State} {a0 : Array Value} (hw : Wds Z a0) : (Jvm.Cond.code ({ cls := "java/lang/AbstractStringBuilder", name := "getValue", desc := "()[B" } : Jvm.MethodName) jdk_68_method_64_code (1 : Nat) (Option.some (Jvm.ClassFile.FieldType.array Jvm.ClassFile.FieldType.byte))).before a0 Z = true := hw _ (List.mem_of_getElem? (i := 115) rfl)
theorem w116 {Z : State} {a0 : Array Value} (hw : Wds Z a0) : (Jvm.Cond.methodLink "java/lang/String" (549 : Nat) ({ cls := "java/lang/AbstractStringBuilder", name := "length", desc := "()I" } : Jvm.MethodName)).before a0 Z = true := hw _ (List.mem_of_getElem? (i := 116) rfl)
theorem w117 {Z : State} {a0 : Array Value} (hw : Wds Z a0) : (Jvm.Cond.declares ({ cls := "java/lang/AbstractStringBuilder", name := "length", desc := "()I" } : Jvm.MethodName)).before a0 Z = true := hw _ (List.mem_of_getElem? (i := 117) rfl)
theorem w118 {Z : State} {a0 : Array Value} (hw : Wds Z a0) : (Jvm.Cond.instanceMethod ({ cls := "java/lang/AbstractStringBuilder", name := "length", desc := "()I" } : Jvm.MethodName)).before a0 Z = true := hw _ (List.mem_of_getElem? (i := 118) rfl)
theorem w119 {Z : State} {a0 : Array Value} (hw : Wds Z a0) : (Jvm.Cond.selects "java/lang/StringBuilder" ({ cls := "java/lang/AbstractStringBuilder", name := "length", desc := "()I" } : Jvm.MethodName) ({ cls := "java/lang/StringBuilder", name := "length", desc := "()I" } : Jvm.MethodName)).before a0 Z = true := hw _ (List.mem_of_getElem? (i := 119) rfl)
theorem w120 {Z : State} {a0 : Array Value} (hw : Wds Z a0) : (Jvm.Cond.instanceMethod ({ cls := "java/lang/StringBuilder", name := "length", desc := "()I" } : Jvm.MethodName)).before a0 Z = true := hw _ (List.mem_of_getElem? (i := 120) rfl)
theorem w121 {Z : State} {a0 : Array Value} (hw : Wds Z a0) : (Jvm.Cond.code ({ cls := "java/lang/StringBuilder", name := "length", desc := "()I" } : Jvm.MethodName) jdk_67_method_93_code (1 : Nat) (Option.some Jvm.ClassFile.FieldType.int)).before a0 Z = true := hw _ (List.mem_of_getElem? (i := 121) rfl)
theorem w122 {Z : State} {a0 : Array Value} (hw : Wds Z a0) : (Jvm.Cond.methodLink "java/lang/StringBuilder" (343 : Nat) ({ cls := "java/lang/AbstractStringBuilder", name := "length", desc := "()I" } : Jvm.MethodName)).before a0 Z = true := hw _ (List.mem_of_getElem? (i := 122) rfl)
theorem w123 {Z : State} {a0 : Array Value} (hw : Wds Z a0) : (Jvm.Cond.code ({ cls := "java/lang/AbstractStringBuilder", name := "length", desc := "()I" } : Jvm.MethodName) jdk_68_method_6_code (1 : Nat) (Option.some Jvm.ClassFile.FieldType.int)).before a0 Z = true := hw _ (List.mem_of_getElem? (i := 123) rfl)
theorem w124 {Z : State} {a0 : Array Value} (hw : Wds Z a0) : (Jvm.Cond.methodLink "java/lang/String" (1047 : Nat) ({ cls := "java/lang/AbstractStringBuilder", name := "isLatin1", desc := "()Z" } : Jvm.MethodName)).before a0 Z = true := hw _ (List.mem_of_getElem? (i := 124) rfl)
theorem w125 {Z : State} {a0 : Array Value} (hw : Wds Z a0) : (Jvm.Cond.declares ({ cls := "java/lang/AbstractStringBuilder", name := "isLatin1", desc := "()Z" } : Jvm.MethodName)).before a0 Z = true := hw _ (List.mem_of_getElem? (i := 125) rfl)
theorem w126 {Z : State} {a0 : Array Value} (hw : Wds Z a0) : (Jvm.Cond.instanceMethod ({ cls := "java/lang/AbstractStringBuilder", name := "isLatin1", desc := "()Z" } : Jvm.MethodName)).before a0 Z = true := hw _ (List.mem_of_getElem? (i := 126) rfl)
theorem w127 {Z : State} {a0 : Array Value} (hw : Wds Z a0) : (Jvm.Cond.selects "java/lang/StringBuilder" ({ cls := "java/lang/AbstractStringBuilder", name := "isLatin1", desc := "()Z" } : Jvm.MethodName) ({ cls := "java/lang/AbstractStringBuilder", name := "isLatin1", desc := "()Z" } : Jvm.MethodName)).before a0 Z = true := hw _ (List.mem_of_getElem? (i := 127) rfl)
theorem w128 {Z : State} {a0 : Array Value} (hw : Wds Z a0) : (Jvm.Cond.code ({ cls := "java/lang/AbstractStringBuilder", name := "isLatin1", desc := "()Z" } : Jvm.MethodName) jdk_68_method_68_code (1 : Nat) (Option.some Jvm.ClassFile.FieldType.boolean)).before a0 Z = true := hw _ (List.mem_of_getElem? (i := 128) rfl)
theorem w129 {Z : State} {a0 : Array Value} (hw : Wds Z a0) : (Jvm.Cond.methodLink "java/lang/String" (54 : Nat) ({ cls := "java/util/Arrays", name := "copyOfRange", desc := "([BII)[B" } : Jvm.MethodName)).before a0 Z = true := hw _ (List.mem_of_getElem? (i := 129) rfl)
theorem w130 {Z : State} {a0 : Array Value} (hw : Wds Z a0) : (Jvm.Cond.static ({ cls := "java/util/Arrays", name := "copyOfRange", desc := "([BII)[B" } : Jvm.MethodName)).before a0 Z = true := hw _ (List.mem_of_getElem? (i := 130) rfl)
theorem w131 {Z : State} {a0 : Array Value} (hw : Wds Z a0) : (Jvm.Cond.initialized "java/util/Arrays").before a0 Z = true := hw _ (List.mem_of_getElem? (i := 131) rfl)
theorem w132 {Z : State} {a0 : Array Value} (hw : Wds Z a0) : (Jvm.Cond.code ({ cls := "java/util/Arrays", name := "copyOfRange", desc := "([BII)[B" } : Jvm.MethodName) jdk_65_method_132_code (3 : Nat) (Option.some (Jvm.ClassFile.FieldType.array Jvm.ClassFile.FieldType.byte))).before a0 Z = true := hw _ (List.mem_of_getElem? (i := 132) rfl)
theorem w133 {Z : State} {a0 : Array Value} (hw : Wds Z a0) : (Jvm.Cond.methodLink "java/util/Arrays" (339 : Nat) ({ cls := "java/util/Arrays", name := "copyOfRangeByte", desc := "([BII)[B" } : Jvm.MethodName)).before a0 Z = true := hw _ (List.mem_of_getElem? (i := 133) rfl)
theorem w134 {Z : State} {a0 : Array Value} (hw : Wds Z a0) : (Jvm.Cond.static ({ cls := "java/util/Arrays", name := "copyOfRangeByte", desc := "([BII)[B" } : Jvm.MethodName)).before a0 Z = true := hw _ (List.mem_of_getElem? (i := 134) rfl)
theorem w135 {Z : State} {a0 : Array Value} (hw : Wds Z a0) : (Jvm.Cond.code ({ cls := "java/util/Arrays", name := "copyOfRangeByte", desc := "([BII)[B" } : Jvm.MethodName) jdk_65_method_133_code (5 : Nat) (Option.some (Jvm.ClassFile.FieldType.array Jvm.ClassFile.FieldType.byte))).before a0 Z = true := hw _ (List.mem_of_getElem? (i := 135) rfl)
theorem w136 {Z : State} {a0 : Array Value} (hw : Wds Z a0) : (Jvm.Cond.methodLink "java/util/Arrays" (343 : Nat) ({ cls := "java/util/Arrays", name := "checkLength", desc := "(II)V" } : Jvm.MethodName)).before a0 Z = true := hw _ (List.mem_of_getElem? (i := 136) rfl)
theorem w137 {Z : State} {a0 : Array Value} (hw : Wds Z a0) : (Jvm.Cond.static ({ cls := "java/util/Arrays", name := "checkLength", desc := "(II)V" } : Jvm.MethodName)).before a0 Z = true := hw _ (List.mem_of_getElem? (i := 137) rfl)
theorem w138 {Z : State} {a0 : Array Value} (hw : Wds Z a0) : (Jvm.Cond.code ({ cls := "java/util/Arrays", name := "checkLength", desc := "(II)V" } : Jvm.MethodName) jdk_65_method_131_code (2 : Nat) (Option.none : Option Jvm.ClassFile.FieldType)).before a0 Z = true := hw _ (List.mem_of_getElem? (i := 138) rfl)
theorem w139 {Z : State} {a0 : Array Value} (hw : Wds Z a0) : (Jvm.Cond.methodLink "java/util/Arrays" (304 : Nat) ({ cls := "java/lang/Math", name := "min", desc := "(II)I" } : Jvm.MethodName)).before a0 Z = true := hw _ (List.mem_of_getElem? (i := 139) rfl)
theorem w140 {Z : State} {a0 : Array Value} (hw : Wds Z a0) : (Jvm.Cond.static ({ cls := "java/lang/Math", name := "min", desc := "(II)I" } : Jvm.MethodName)).before a0 Z = true := hw _ (List.mem_of_getElem? (i := 140) rfl)
theorem w141 {Z : State} {a0 : Array Value} (hw : Wds Z a0) : (Jvm.Cond.initialized "java/lang/Math").before a0 Z = true := hw _ (List.mem_of_getElem? (i := 141) rfl)
theorem w142 {Z : State} {a0 : Array Value} (hw : Wds Z a0) : (Jvm.Cond.code ({ cls := "java/lang/Math", name := "min", desc := "(II)I" } : Jvm.MethodName) jdk_29_method_69_code (2 : Nat) (Option.some Jvm.ClassFile.FieldType.int)).before a0 Z = true := hw _ (List.mem_of_getElem? (i := 142) rfl)
theorem w143 {Z : State} {a0 : Array Value} (hw : Wds Z a0) : (Jvm.Cond.methodLink "java/util/Arrays" (150 : Nat) ({ cls := "java/lang/System", name := "arraycopy", desc := "(Ljava/lang/Object;ILjava/lang/Object;II)V" } : Jvm.MethodName)).before a0 Z = true := hw _ (List.mem_of_getElem? (i := 143) rfl)
theorem w144 {Z : State} {a0 : Array Value} (hw : Wds Z a0) : (Jvm.Cond.fieldLink "com/example/pacerd/pacerd/run/Outcome" (37 : Nat) "java/nio/charset/StandardCharsets" "UTF_8" "Ljava/nio/charset/Charset;").before a0 Z = true := hw _ (List.mem_of_getElem? (i := 144) rfl)
theorem w146 {Z : State} {a0 : Array Value} (hw : Wds Z a0) : (Jvm.Cond.methodLink "com/example/pacerd/pacerd/run/Outcome" (43 : Nat) ({ cls := "java/lang/String", name := "getBytes", desc := "(Ljava/nio/charset/Charset;)[B" } : Jvm.MethodName)).before a0 Z = true := hw _ (List.mem_of_getElem? (i := 146) rfl)
theorem w147 {Z : State} {a0 : Array Value} (hw : Wds Z a0) : (Jvm.Cond.declares ({ cls := "java/lang/String", name := "getBytes", desc := "(Ljava/nio/charset/Charset;)[B" } : Jvm.MethodName)).before a0 Z = true := hw _ (List.mem_of_getElem? (i := 147) rfl)
theorem w148 {Z : State} {a0 : Array Value} (hw : Wds Z a0) : (Jvm.Cond.instanceMethod ({ cls := "java/lang/String", name := "getBytes", desc := "(Ljava/nio/charset/Charset;)[B" } : Jvm.MethodName)).before a0 Z = true := hw _ (List.mem_of_getElem? (i := 148) rfl)
theorem w149 {Z : State} {a0 : Array Value} (hw : Wds Z a0) : (Jvm.Cond.selects "java/lang/String" ({ cls := "java/lang/String", name := "getBytes", desc := "(Ljava/nio/charset/Charset;)[B" } : Jvm.MethodName) ({ cls := "java/lang/String", name := "getBytes", desc := "(Ljava/nio/charset/Charset;)[B" } : Jvm.MethodName)).before a0 Z = true := hw _ (List.mem_of_getElem? (i := 149) rfl)
theorem w150 {Z : State} {a0 : Array Value} (hw : Wds Z a0) : (Jvm.Cond.code ({ cls := "java/lang/String", name := "getBytes", desc := "(Ljava/nio/charset/Charset;)[B" } : Jvm.MethodName) jdk_42_method_64_code (2 : Nat) (Option.some (Jvm.ClassFile.FieldType.array Jvm.ClassFile.FieldType.byte))).before a0 Z = true := hw _ (List.mem_of_getElem? (i := 150) rfl)
theorem w151 {Z : State} {a0 : Array Value} (hw : Wds Z a0) : (Jvm.Cond.methodLink "java/lang/String" (535 : Nat) ({ cls := "java/lang/String", name := "encode", desc := "(Ljava/nio/charset/Charset;B[B)[B" } : Jvm.MethodName)).before a0 Z = true := hw _ (List.mem_of_getElem? (i := 151) rfl)
theorem w152 {Z : State} {a0 : Array Value} (hw : Wds Z a0) : (Jvm.Cond.static ({ cls := "java/lang/String", name := "encode", desc := "(Ljava/nio/charset/Charset;B[B)[B" } : Jvm.MethodName)).before a0 Z = true := hw _ (List.mem_of_getElem? (i := 152) rfl)
theorem w153 {Z : State} {a0 : Array Value} (hw : Wds Z a0) : (Jvm.Cond.code ({ cls := "java/lang/String", name := "encode", desc := "(Ljava/nio/charset/Charset;B[B)[B" } : Jvm.MethodName) jdk_42_method_18_code (3 : Nat) (Option.some (Jvm.ClassFile.FieldType.array Jvm.ClassFile.FieldType.byte))).before a0 Z = true := hw _ (List.mem_of_getElem? (i := 153) rfl)
theorem w154 {Z : State} {a0 : Array Value} (hw : Wds Z a0) : (Jvm.Cond.fieldLink "java/lang/String" (86 : Nat) "sun/nio/cs/UTF_8" "INSTANCE" "Lsun/nio/cs/UTF_8;").before a0 Z = true := hw _ (List.mem_of_getElem? (i := 154) rfl)
theorem w156 {Z : State} {a0 : Array Value} (hw : Wds Z a0) : (Jvm.Cond.methodLink "java/lang/String" (252 : Nat) ({ cls := "java/lang/String", name := "encodeUTF8", desc := "(B[BZ)[B" } : Jvm.MethodName)).before a0 Z = true := hw _ (List.mem_of_getElem? (i := 156) rfl)
theorem w157 {Z : State} {a0 : Array Value} (hw : Wds Z a0) : (Jvm.Cond.static ({ cls := "java/lang/String", name := "encodeUTF8", desc := "(B[BZ)[B" } : Jvm.MethodName)).before a0 Z = true := hw _ (List.mem_of_getElem? (i := 157) rfl)
theorem w158 {Z : State} {a0 : Array Value} (hw : Wds Z a0) : (Jvm.Cond.code ({ cls := "java/lang/String", name := "encodeUTF8", desc := "(B[BZ)[B" } : Jvm.MethodName) jdk_42_method_46_code (9 : Nat) (Option.some (Jvm.ClassFile.FieldType.array Jvm.ClassFile.FieldType.byte))).before a0 Z = true := hw _ (List.mem_of_getElem? (i := 158) rfl)
theorem w159 {Z : State} {a0 : Array Value} (hw : Wds Z a0) : (Jvm.Cond.methodLink "java/lang/String" (128 : Nat) ({ cls := "java/lang/StringCoding", name := "hasNegatives", desc := "([BII)Z" } : Jvm.MethodName)).before a0 Z = true := hw _ (List.mem_of_getElem? (i := 159) rfl)
theorem w160 {Z : State} {a0 : Array Value} (hw : Wds Z a0) : (Jvm.Cond.static ({ cls := "java/lang/StringCoding", name := "hasNegatives", desc := "([BII)Z" } : Jvm.MethodName)).before a0 Z = true := hw _ (List.mem_of_getElem? (i := 160) rfl)
theorem w161 {Z : State} {a0 : Array Value} (hw : Wds Z a0) : (Jvm.Cond.initialized "java/lang/StringCoding").before a0 Z = true := hw _ (List.mem_of_getElem? (i := 161) rfl)
theorem w162 {Z : State} {a0 : Array Value} (hw : Wds Z a0) : (Jvm.Cond.code ({ cls := "java/lang/StringCoding", name := "hasNegatives", desc := "([BII)Z" } : Jvm.MethodName) jdk_123_method_2_code (3 : Nat) (Option.some Jvm.ClassFile.FieldType.boolean)).before a0 Z = true := hw _ (List.mem_of_getElem? (i := 162) rfl)
theorem w163 {Z : State} {a0 : Array Value} (hw : Wds Z a0) : (Jvm.Cond.methodLink "java/lang/StringCoding" (7 : Nat) ({ cls := "java/lang/StringCoding", name := "countPositives", desc := "([BII)I" } : Jvm.MethodName)).before a0 Z = true := hw _ (List.mem_of_getElem? (i := 163) rfl)
theorem w164 {Z : State} {a0 : Array Value} (hw : Wds Z a0) : (Jvm.Cond.static ({ cls := "java/lang/StringCoding", name := "countPositives", desc := "([BII)I" } : Jvm.MethodName)).before a0 Z = true := hw _ (List.mem_of_getElem? (i := 164) rfl)
theorem w165 {Z : State} {a0 : Array Value} (hw : Wds Z a0) : (Jvm.Cond.code ({ cls := "java/lang/StringCoding", name := "countPositives", desc := "([BII)I" } : Jvm.MethodName) jdk_123_method_3_code (5 : Nat) (Option.some Jvm.ClassFile.FieldType.int)).before a0 Z = true := hw _ (List.mem_of_getElem? (i := 165) rfl)
theorem w166 {Z : State} {a0 : Array Value} (hw : Wds Z a0) : (Jvm.Cond.methodLink "java/lang/String" (279 : Nat) ({ cls := "[B", name := "clone", desc := "()Ljava/lang/Object;" } : Jvm.MethodName)).before a0 Z = true := hw _ (List.mem_of_getElem? (i := 166) rfl)
theorem w167 {Z : State} {a0 : Array Value} (hw : Wds Z a0) : (Jvm.Cond.sameMethod "[B" "java/lang/Object" "clone" "()Ljava/lang/Object;").before a0 Z = true := hw _ (List.mem_of_getElem? (i := 167) rfl)
theorem w169 {Z : State} {a0 : Array Value} (hw : Wds Z a0) : (Jvm.Cond.instanceMethod ({ cls := "java/lang/Object", name := "clone", desc := "()Ljava/lang/Object;" } : Jvm.MethodName)).before a0 Z = true := hw _ (List.mem_of_getElem? (i := 169) rfl)
theorem w170 {Z : State} {a0 : Array Value} (hw : Wds Z a0) : (Jvm.Cond.selects "[B" ({ cls := "[B", name := "clone", desc := "()Ljava/lang/Object;" } : Jvm.MethodName) ({ cls := "java/lang/Object", name := "clone", desc := "()Ljava/lang/Object;" } : Jvm.MethodName)).before a0 Z = true := hw _ (List.mem_of_getElem? (i := 170) rfl)
theorem w171 {Z : State} {a0 : Array Value} (hw : Wds Z a0) : (Jvm.Cond.native ({ cls := "java/lang/Object", name := "clone", desc := "()Ljava/lang/Object;" } : Jvm.MethodName)).before a0 Z = true := hw _ (List.mem_of_getElem? (i := 171) rfl)
theorem w172 {Z : State} {a0 : Array Value} (hw : Wds Z a0) : (Jvm.Cond.castable "[B" "java/lang/Cloneable").before a0 Z = true := hw _ (List.mem_of_getElem? (i := 172) rfl)
theorem w173 {Z : State} {a0 : Array Value} (hw : Wds Z a0) : (Jvm.Cond.classLink "java/lang/String" (280 : Nat) "[B").before a0 Z = true := hw _ (List.mem_of_getElem? (i := 173) rfl)
theorem w175 {Z : State} {a0 : Array Value} (hw : Wds Z a0) : (Jvm.Cond.classLink "com/example/pacerd/pacerd/run/Outcome" (8 : Nat) "com/example/pacerd/pacerd/run/Outcome").before a0 Z = true := hw _ (List.mem_of_getElem? (i := 175) rfl)
theorem w176 {Z : State} {a0 : Array Value} (hw : Wds Z a0) : (Jvm.Cond.instantiable "com/example/pacerd/pacerd/run/Outcome" (4 : Nat)).before a0 Z = true := hw _ (List.mem_of_getElem? (i := 176) rfl)
theorem w177 {Z : State} {a0 : Array Value} (hw : Wds Z a0) : (Jvm.Cond.fieldLink "com/example/pacerd/pacerd/run/Outcome" (49 : Nat) "com/example/pacerd/pacerd/run/RunStatus" "FAILED" "Lcom/example/pacerd/pacerd/run/RunStatus;").before a0 Z = true := hw _ (List.mem_of_getElem? (i := 177) rfl)
theorem w178 {Z : State} {a0 : Array Value} (hw : Wds Z a0) : (Jvm.Cond.initialized "com/example/pacerd/pacerd/run/RunStatus").before a0 Z = true := hw _ (List.mem_of_getElem? (i := 178) rfl)
theorem w179 {Z : State} {a0 : Array Value} (hw : Wds Z a0) : (Jvm.Cond.laysStatic "com/example/pacerd/pacerd/run/RunStatus" "FAILED" "Lcom/example/pacerd/pacerd/run/RunStatus;").before a0 Z = true := hw _ (List.mem_of_getElem? (i := 179) rfl)
theorem w180 {Z : State} {a0 : Array Value} (hw : Wds Z a0) : (Jvm.Cond.methodLink "com/example/pacerd/pacerd/run/Outcome" (54 : Nat) ({ cls := "com/example/pacerd/pacerd/run/Outcome", name := "<init>", desc := "(Lcom/example/pacerd/pacerd/run/RunStatus;Ljava/lang/Integer;Ljava/lang/Integer;[B)V" } : Jvm.MethodName)).before a0 Z = true := hw _ (List.mem_of_getElem? (i := 180) rfl)
theorem w181 {Z : State} {a0 : Array Value} (hw : Wds Z a0) : (Jvm.Cond.instanceMethod ({ cls := "com/example/pacerd/pacerd/run/Outcome", name := "<init>", desc := "(Lcom/example/pacerd/pacerd/run/RunStatus;Ljava/lang/Integer;Ljava/lang/Integer;[B)V" } : Jvm.MethodName)).before a0 Z = true := hw _ (List.mem_of_getElem? (i := 181) rfl)
theorem w182 {Z : State} {a0 : Array Value} (hw : Wds Z a0) : (Jvm.Cond.code ({ cls := "com/example/pacerd/pacerd/run/Outcome", name := "<init>", desc := "(Lcom/example/pacerd/pacerd/run/RunStatus;Ljava/lang/Integer;Ljava/lang/Integer;[B)V" } : Jvm.MethodName) prog_25_method_1_code (5 : Nat) (Option.none : Option Jvm.ClassFile.FieldType)).before a0 Z = true := hw _ (List.mem_of_getElem? (i := 182) rfl)
theorem w183 {Z : State} {a0 : Array Value} (hw : Wds Z a0) : (Jvm.Cond.methodLink "com/example/pacerd/pacerd/run/Outcome" (1 : Nat) ({ cls := "java/lang/Record", name := "<init>", desc := "()V" } : Jvm.MethodName)).before a0 Z = true := hw _ (List.mem_of_getElem? (i := 183) rfl)
theorem w184 {Z : State} {a0 : Array Value} (hw : Wds Z a0) : (Jvm.Cond.instanceMethod ({ cls := "java/lang/Record", name := "<init>", desc := "()V" } : Jvm.MethodName)).before a0 Z = true := hw _ (List.mem_of_getElem? (i := 184) rfl)
theorem w186 {Z : State} {a0 : Array Value} (hw : Wds Z a0) : (Jvm.Cond.initialized "java/lang/Record").before a0 Z = true := hw _ (List.mem_of_getElem? (i := 186) rfl)
theorem w187 {Z : State} {a0 : Array Value} (hw : Wds Z a0) : (Jvm.Cond.code ({ cls := "java/lang/Record", name := "<init>", desc := "()V" } : Jvm.MethodName) jdk_30_method_1_code (1 : Nat) (Option.none : Option Jvm.ClassFile.FieldType)).before a0 Z = true := hw _ (List.mem_of_getElem? (i := 187) rfl)
theorem w188 {Z : State} {a0 : Array Value} (hw : Wds Z a0) : (Jvm.Cond.methodLink "java/lang/Record" (1 : Nat) ({ cls := "java/lang/Object", name := "<init>", desc := "()V" } : Jvm.MethodName)).before a0 Z = true := hw _ (List.mem_of_getElem? (i := 188) rfl)
theorem w189 {Z : State} {a0 : Array Value} (hw : Wds Z a0) : (Jvm.Cond.fieldLink "com/example/pacerd/pacerd/run/Outcome" (7 : Nat) "com/example/pacerd/pacerd/run/Outcome" "status" "Lcom/example/pacerd/pacerd/run/RunStatus;").before a0 Z = true := hw _ (List.mem_of_getElem? (i := 189) rfl)
theorem w190 {Z : State} {a0 : Array Value} (hw : Wds Z a0) : (Jvm.Cond.laysFinal "com/example/pacerd/pacerd/run/Outcome" "com/example/pacerd/pacerd/run/Outcome" "status" "Lcom/example/pacerd/pacerd/run/RunStatus;").before a0 Z = true := hw _ (List.mem_of_getElem? (i := 190) rfl)
theorem w191 {Z : State} {a0 : Array Value} (hw : Wds Z a0) : (Jvm.Cond.fieldLink "com/example/pacerd/pacerd/run/Outcome" (13 : Nat) "com/example/pacerd/pacerd/run/Outcome" "exitCode" "Ljava/lang/Integer;").before a0 Z = true := hw _ (List.mem_of_getElem? (i := 191) rfl)
theorem w192 {Z : State} {a0 : Array Value} (hw : Wds Z a0) : (Jvm.Cond.laysFinal "com/example/pacerd/pacerd/run/Outcome" "com/example/pacerd/pacerd/run/Outcome" "exitCode" "Ljava/lang/Integer;").before a0 Z = true := hw _ (List.mem_of_getElem? (i := 192) rfl)
theorem w193 {Z : State} {a0 : Array Value} (hw : Wds Z a0) : (Jvm.Cond.fieldLink "com/example/pacerd/pacerd/run/Outcome" (17 : Nat) "com/example/pacerd/pacerd/run/Outcome" "httpStatus" "Ljava/lang/Integer;").before a0 Z = true := hw _ (List.mem_of_getElem? (i := 193) rfl)
theorem w194 {Z : State} {a0 : Array Value} (hw : Wds Z a0) : (Jvm.Cond.laysFinal "com/example/pacerd/pacerd/run/Outcome" "com/example/pacerd/pacerd/run/Outcome" "httpStatus" "Ljava/lang/Integer;").before a0 Z = true := hw _ (List.mem_of_getElem? (i := 194) rfl)
theorem w195 {Z : State} {a0 : Array Value} (hw : Wds Z a0) : (Jvm.Cond.fieldLink "com/example/pacerd/pacerd/run/Outcome" (20 : Nat) "com/example/pacerd/pacerd/run/Outcome" "output" "[B").before a0 Z = true := hw _ (List.mem_of_getElem? (i := 195) rfl)
theorem w196 {Z : State} {a0 : Array Value} (hw : Wds Z a0) : (Jvm.Cond.laysFinal "com/example/pacerd/pacerd/run/Outcome" "com/example/pacerd/pacerd/run/Outcome" "output" "[B").before a0 Z = true := hw _ (List.mem_of_getElem? (i := 196) rfl)
theorem w197 {Z : State} {a0 : Array Value} (hw : Wds Z a0) : (Jvm.Cond.methodLink "com/example/pacerd/pacerd/run/OutcomeFailurePinLaw" (31 : Nat) ({ cls := "com/example/pacerd/pacerd/run/Outcome", name := "status", desc := "()Lcom/example/pacerd/pacerd/run/RunStatus;" } : Jvm.MethodName)).before a0 Z = true := hw _ (List.mem_of_getElem? (i := 197) rfl)
theorem w198 {Z : State} {a0 : Array Value} (hw : Wds Z a0) : (Jvm.Cond.declares ({ cls := "com/example/pacerd/pacerd/run/Outcome", name := "status", desc := "()Lcom/example/pacerd/pacerd/run/RunStatus;" } : Jvm.MethodName)).before a0 Z = true := hw _ (List.mem_of_getElem? (i := 198) rfl)
theorem w199 {Z : State} {a0 : Array Value} (hw : Wds Z a0) : (Jvm.Cond.instanceMethod ({ cls := "com/example/pacerd/pacerd/run/Outcome", name := "status", desc := "()Lcom/example/pacerd/pacerd/run/RunStatus;" } : Jvm.MethodName)).before a0 Z = true := hw _ (List.mem_of_getElem? (i := 199) rfl)
theorem w200 {Z : State} {a0 : Array Value} (hw : Wds Z a0) : (Jvm.Cond.selects "com/example/pacerd/pacerd/run/Outcome" ({ cls := "com/example/pacerd/pacerd/run/Outcome", name := "status", desc := "()Lcom/example/pacerd/pacerd/run/RunStatus;" } : Jvm.MethodName) ({ cls := "com/example/pacerd/pacerd/run/Outcome", name := "status", desc := "()Lcom/example/pacerd/pacerd/run/RunStatus;" } : Jvm.MethodName)).before a0 Z = true := hw _ (List.mem_of_getElem? (i := 200) rfl)
theorem w201 {Z : State} {a0 : Array Value} (hw : Wds Z a0) : (Jvm.Cond.code ({ cls := "com/example/pacerd/pacerd/run/Outcome", name := "status", desc := "()Lcom/example/pacerd/pacerd/run/RunStatus;" } : Jvm.MethodName) prog_25_method_7_code (1 : Nat) (Option.some (Jvm.ClassFile.FieldType.object "com/example/pacerd/pacerd/run/RunStatus"))).before a0 Z = true := hw _ (List.mem_of_getElem? (i := 201) rfl)
theorem w202 {Z : State} {a0 : Array Value} (hw : Wds Z a0) : (Jvm.Cond.fieldLink "com/example/pacerd/pacerd/run/OutcomeFailurePinLaw" (35 : Nat) "com/example/pacerd/pacerd/run/RunStatus" "FAILED" "Lcom/example/pacerd/pacerd/run/RunStatus;").before a0 Z = true := hw _ (List.mem_of_getElem? (i := 202) rfl)
theorem w203 {Z : State} {a0 : Array Value} (hw : Wds Z a0) : (Jvm.Cond.methodLink "com/example/pacerd/pacerd/run/OutcomeFailurePinLaw" (41 : Nat) ({ cls := "com/example/pacerd/pacerd/run/Outcome", name := "exitCode", desc := "()Ljava/lang/Integer;" } : Jvm.MethodName)).before a0 Z = true := hw _ (List.mem_of_getElem? (i := 203) rfl)
theorem w204 {Z : State} {a0 : Array Value} (hw : Wds Z a0) : (Jvm.Cond.declares ({ cls := "com/example/pacerd/pacerd/run/Outcome", name := "exitCode", desc := "()Ljava/lang/Integer;" } : Jvm.MethodName)).before a0 Z = true := hw _ (List.mem_of_getElem? (i := 204) rfl)
theorem w205 {Z : State} {a0 : Array Value} (hw : Wds Z a0) : (Jvm.Cond.instanceMethod ({ cls := "com/example/pacerd/pacerd/run/Outcome", name := "exitCode", desc := "()Ljava/lang/Integer;" } : Jvm.MethodName)).before a0 Z = true := hw _ (List.mem_of_getElem? (i := 205) rfl)
theorem w206 {Z : State} {a0 : Array Value} (hw : Wds Z a0) : (Jvm.Cond.selects "com/example/pacerd/pacerd/run/Outcome" ({ cls := "com/example/pacerd/pacerd/run/Outcome", name := "exitCode", desc := "()Ljava/lang/Integer;" } : Jvm.MethodName) ({ cls := "com/example/pacerd/pacerd/run/Outcome", name := "exitCode", desc := "()Ljava/lang/Integer;" } : Jvm.MethodName)).before a0 Z = true := hw _ (List.mem_of_getElem? (i := 206) rfl)
theorem w207 {Z : State} {a0 : Array Value} (hw : Wds Z a0) : (Jvm.Cond.code ({ cls := "com/example/pacerd/pacerd/run/Outcome", name := "exitCode", desc := "()Ljava/lang/Integer;" } : Jvm.MethodName) prog_25_method_8_code (1 : Nat) (Option.some (Jvm.ClassFile.FieldType.object "java/lang/Integer"))).before a0 Z = true := hw _ (List.mem_of_getElem? (i := 207) rfl)
theorem w208 {Z : State} {a0 : Array Value} (hw : Wds Z a0) : (Jvm.Cond.methodLink "com/example/pacerd/pacerd/run/OutcomeFailurePinLaw" (45 : Nat) ({ cls := "com/example/pacerd/pacerd/run/Outcome", name := "httpStatus", desc := "()Ljava/lang/Integer;" } : Jvm.MethodName)).before a0 Z = true := hw _ (List.mem_of_getElem? (i := 208) rfl)
theorem w209 {Z : State} {a0 : Array Value} (hw : Wds Z a0) : (Jvm.Cond.declares ({ cls := "com/example/pacerd/pacerd/run/Outcome", name := "httpStatus", desc := "()Ljava/lang/Integer;" } : Jvm.MethodName)).before a0 Z = true := hw _ (List.mem_of_getElem? (i := 209) rfl)
theorem w210 {Z : State} {a0 : Array Value} (hw : Wds Z a0) : (Jvm.Cond.instanceMethod ({ cls := "com/example/pacerd/pacerd/run/Outcome", name := "httpStatus", desc := "()Ljava/lang/Integer;" } : Jvm.MethodName)).before a0 Z = true := hw _ (List.mem_of_getElem? (i := 210) rfl)
theorem w211 {Z : State} {a0 : Array Value} (hw : Wds Z a0) : (Jvm.Cond.selects "com/example/pacerd/pacerd/run/Outcome" ({ cls := "com/example/pacerd/pacerd/run/Outcome", name := "httpStatus", desc := "()Ljava/lang/Integer;" } : Jvm.MethodName) ({ cls := "com/example/pacerd/pacerd/run/Outcome", name := "httpStatus", desc := "()Ljava/lang/Integer;" } : Jvm.MethodName)).before a0 Z = true := hw _ (List.mem_of_getElem? (i := 211) rfl)
theorem w212 {Z : State} {a0 : Array Value} (hw : Wds Z a0) : (Jvm.Cond.code ({ cls := "com/example/pacerd/pacerd/run/Outcome", name := "httpStatus", desc := "()Ljava/lang/Integer;" } : Jvm.MethodName) prog_25_method_9_code (1 : Nat) (Option.some (Jvm.ClassFile.FieldType.object "java/lang/Integer"))).before a0 Z = true := hw _ (List.mem_of_getElem? (i := 212) rfl)
theorem w213 {Z : State} {a0 : Array Value} (hw : Wds Z a0) : (Jvm.Cond.methodLink "com/example/pacerd/pacerd/run/OutcomeFailurePinLaw" (48 : Nat) ({ cls := "com/example/pacerd/pacerd/run/Outcome", name := "output", desc := "()[B" } : Jvm.MethodName)).before a0 Z = true := hw _ (List.mem_of_getElem? (i := 213) rfl)
theorem w214 {Z : State} {a0 : Array Value} (hw : Wds Z a0) : (Jvm.Cond.declares ({ cls := "com/example/pacerd/pacerd/run/Outcome", name := "output", desc := "()[B" } : Jvm.MethodName)).before a0 Z = true := hw _ (List.mem_of_getElem? (i := 214) rfl)
theorem w215 {Z : State} {a0 : Array Value} (hw : Wds Z a0) : (Jvm.Cond.instanceMethod ({ cls := "com/example/pacerd/pacerd/run/Outcome", name := "output", desc := "()[B" } : Jvm.MethodName)).before a0 Z = true := hw _ (List.mem_of_getElem? (i := 215) rfl)
theorem w216 {Z : State} {a0 : Array Value} (hw : Wds Z a0) : (Jvm.Cond.selects "com/example/pacerd/pacerd/run/Outcome" ({ cls := "com/example/pacerd/pacerd/run/Outcome", name := "output", desc := "()[B" } : Jvm.MethodName) ({ cls := "com/example/pacerd/pacerd/run/Outcome", name := "output", desc := "()[B" } : Jvm.MethodName)).before a0 Z = true := hw _ (List.mem_of_getElem? (i := 216) rfl)
theorem w217 {Z : State} {a0 : Array Value} (hw : Wds Z a0) : (Jvm.Cond.code ({ cls := "com/example/pacerd/pacerd/run/Outcome", name := "output", desc := "()[B" } : Jvm.MethodName) prog_25_method_10_code (1 : Nat) (Option.some (Jvm.ClassFile.FieldType.array Jvm.ClassFile.FieldType.byte))).before a0 Z = true := hw _ (List.mem_of_getElem? (i := 217) rfl)
theorem w218 {Z : State} {a0 : Array Value} (hw : Wds Z a0) : (Jvm.Cond.methodLink "com/example/pacerd/pacerd/run/OutcomeFailurePinLaw" (52 : Nat) ({ cls := "com/example/pacerd/pacerd/run/OutcomeFailurePinLaw", name := "eq", desc := "([B[BII)Z" } : Jvm.MethodName)).before a0 Z = true := hw _ (List.mem_of_getElem? (i := 218) rfl)
theorem w219 {Z : State} {a0 : Array Value} (hw : Wds Z a0) : (Jvm.Cond.static ({ cls := "com/example/pacerd/pacerd/run/OutcomeFailurePinLaw", name := "eq", desc := "([B[BII)Z" } : Jvm.MethodName)).before a0 Z = true := hw _ (List.mem_of_getElem? (i := 219) rfl)
theorem w220 {Z : State} {a0 : Array Value} (hw : Wds Z a0) : (Jvm.Cond.code ({ cls := "com/example/pacerd/pacerd/run/OutcomeFailurePinLaw", name := "eq", desc := "([B[BII)Z" } : Jvm.MethodName) method_4_code (4 : Nat) (Option.some Jvm.ClassFile.FieldType.boolean)).before a0 Z = true := hw _ (List.mem_of_getElem? (i := 220) rfl)
theorem w221 {Z : State} {a0 : Array Value} (hw : Wds Z a0) : (Jvm.Cond.methodLink "java/lang/String" (177 : Nat) ({ cls := "java/lang/StringUTF16", name := "compress", desc := "([CII)[B" } : Jvm.MethodName)).before a0 Z = true := hw _ (List.mem_of_getElem? (i := 221) rfl)
theorem w222 {Z : State} {a0 : Array Value} (hw : Wds Z a0) : (Jvm.Cond.static ({ cls := "java/lang/StringUTF16", name := "compress", desc := "([CII)[B" } : Jvm.MethodName)).before a0 Z = true := hw _ (List.mem_of_getElem? (i := 222) rfl)
theorem w223 {Z : State} {a0 : Array Value} (hw : Wds Z a0) : (Jvm.Cond.initialized "java/lang/StringUTF16").before a0 Z = true := hw _ (List.mem_of_getElem? (i := 223) rfl)
theorem w224 {Z : State} {a0 : Array Value} (hw : Wds Z a0) : (Jvm.Cond.code ({ cls := "java/lang/StringUTF16", name := "compress", desc := "([CII)[B" } : Jvm.MethodName) jdk_52_method_16_code (6 : Nat) (Option.some (Jvm.ClassFile.FieldType.array Jvm.ClassFile.FieldType.byte))).before a0 Z = true := hw _ (List.mem_of_getElem? (i := 224) rfl)
theorem w225 {Z : State} {a0 : Array Value} (hw : Wds Z a0) : (Jvm.Cond.methodLink "java/lang/StringUTF16" (115 : Nat) ({ cls := "java/lang/StringUTF16", name := "compress", desc := "([CI[BII)I" } : Jvm.MethodName)).before a0 Z = true := hw _ (List.mem_of_getElem? (i := 225) rfl)
theorem w226 {Z : State} {a0 : Array Value} (hw : Wds Z a0) : (Jvm.Cond.static ({ cls := "java/lang/StringUTF16", name := "compress", desc := "([CI[BII)I" } : Jvm.MethodName)).before a0 Z = true := hw _ (List.mem_of_getElem? (i := 226) rfl)
theorem w227 {Z : State} {a0 : Array Value} (hw : Wds Z a0) : (Jvm.Cond.code ({ cls := "java/lang/StringUTF16", name := "compress", desc := "([CI[BII)I" } : Jvm.MethodName) jdk_52_method_21_code (7 : Nat) (Option.some Jvm.ClassFile.FieldType.int)).before a0 Z = true := hw _ (List.mem_of_getElem? (i := 227) rfl)
theorem w228 {Z : State} {a0 : Array Value} (hw : Wds Z a0) : (Jvm.Cond.methodLink "java/lang/String" (47 : Nat) ({ cls := "java/lang/StringUTF16", name := "coderFromArrayLen", desc := "([BI)B" } : Jvm.MethodName)).before a0 Z = true := hw _ (List.mem_of_getElem? (i := 228) rfl)
theorem w229 {Z : State} {a0 : Array Value} (hw : Wds Z a0) : (Jvm.Cond.static ({ cls := "java/lang/StringUTF16", name := "coderFromArrayLen", desc := "([BI)B" } : Jvm.MethodName)).before a0 Z = true := hw _ (List.mem_of_getElem? (i := 229) rfl)
theorem w230 {Z : State} {a0 : Array Value} (hw : Wds Z a0) : (Jvm.Cond.code ({ cls := "java/lang/StringUTF16", name := "coderFromArrayLen", desc := "([BI)B" } : Jvm.MethodName) jdk_52_method_15_code (2 : Nat) (Option.some Jvm.ClassFile.FieldType.byte)).before a0 Z = true := hw _ (List.mem_of_getElem? (i := 230) rfl)
theorem w231 {Z : State} {a0 : Array Value} (hw : Wds Z a0) : (Jvm.Cond.methodLink "com/example/pacerd/pacerd/run/OutcomeFailurePinLaw" (21 : Nat) ({ cls := "com/example/pacerd/pacerd/run/OutcomeFailurePinLaw", name := "put", desc := "([BII)I" } : Jvm.MethodName)).before a0 Z = true := hw _ (List.mem_of_getElem? (i := 231) rfl)
theorem w232 {Z : State} {a0 : Array Value} (hw : Wds Z a0) : (Jvm.Cond.static ({ cls := "com/example/pacerd/pacerd/run/OutcomeFailurePinLaw", name := "put", desc := "([BII)I" } : Jvm.MethodName)).before a0 Z = true := hw _ (List.mem_of_getElem? (i := 232) rfl)
theorem w233 {Z : State} {a0 : Array Value} (hw : Wds Z a0) : (Jvm.Cond.code ({ cls := "com/example/pacerd/pacerd/run/OutcomeFailurePinLaw", name := "put", desc := "([BII)I" } : Jvm.MethodName) method_3_code (3 : Nat) (Option.some Jvm.ClassFile.FieldType.int)).before a0 Z = true := hw _ (List.mem_of_getElem? (i := 233) rfl)
theorem w234 {Z : State} {a0 : Array Value} (hw : Wds Z a0) : (Jvm.Cond.methodLink "java/lang/String" (60 : Nat) ({ cls := "java/lang/StringUTF16", name := "newBytesFor", desc := "(I)[B" } : Jvm.MethodName)).before a0 Z = true := hw _ (List.mem_of_getElem? (i := 234) rfl)
theorem w235 {Z : State} {a0 : Array Value} (hw : Wds Z a0) : (Jvm.Cond.static ({ cls := "java/lang/StringUTF16", name := "newBytesFor", desc := "(I)[B" } : Jvm.MethodName)).before a0 Z = true := hw _ (List.mem_of_getElem? (i := 235) rfl)
theorem w236 {Z : State} {a0 : Array Value} (hw : Wds Z a0) : (Jvm.Cond.code ({ cls := "java/lang/StringUTF16", name := "newBytesFor", desc := "(I)[B" } : Jvm.MethodName) jdk_52_method_2_code (1 : Nat) (Option.some (Jvm.ClassFile.FieldType.array Jvm.ClassFile.FieldType.byte))).before a0 Z = true := hw _ (List.mem_of_getElem? (i := 236) rfl)
theorem w237 {Z : State} {a0 : Array Value} (hw : Wds Z a0) : (Jvm.Cond.methodLink "java/lang/StringUTF16" (11 : Nat) ({ cls := "java/lang/StringUTF16", name := "newBytesLength", desc := "(I)I" } : Jvm.MethodName)).before a0 Z = true := hw _ (List.mem_of_getElem? (i := 237) rfl)
theorem w238 {Z : State} {a0 : Array Value} (hw : Wds Z a0) : (Jvm.Cond.static ({ cls := "java/lang/StringUTF16", name := "newBytesLength", desc := "(I)I" } : Jvm.MethodName)).before a0 Z = true := hw _ (List.mem_of_getElem? (i := 238) rfl)
theorem w239 {Z : State} {a0 : Array Value} (hw : Wds Z a0) : (Jvm.Cond.code ({ cls := "java/lang/StringUTF16", name := "newBytesLength", desc := "(I)I" } : Jvm.MethodName) jdk_52_method_3_code (1 : Nat) (Option.some Jvm.ClassFile.FieldType.int)).before a0 Z = true := hw _ (List.mem_of_getElem? (i := 239) rfl)
theorem w240 {Z : State} {a0 : Array Value} (hw : Wds Z a0) : (Jvm.Cond.constant "java/lang/StringUTF16" (20 : Nat) (1073741823 : Int32)).before a0 Z = true := hw _ (List.mem_of_getElem? (i := 240) rfl)
theorem w241 {Z : State} {a0 : Array Value} (hw : Wds Z a0) : (Jvm.Cond.methodLink "java/lang/String" (102 : Nat) ({ cls := "java/util/Arrays", name := "copyOf", desc := "([BI)[B" } : Jvm.MethodName)).before a0 Z = true := hw _ (List.mem_of_getElem? (i := 241) rfl)
theorem w242 {Z : State} {a0 : Array Value} (hw : Wds Z a0) : (Jvm.Cond.static ({ cls := "java/util/Arrays", name := "copyOf", desc := "([BI)[B" } : Jvm.MethodName)).before a0 Z = true := hw _ (List.mem_of_getElem? (i := 242) rfl)
theorem w243 {Z : State} {a0 : Array Value} (hw : Wds Z a0) : (Jvm.Cond.code ({ cls := "java/util/Arrays", name := "copyOf", desc := "([BI)[B" } : Jvm.MethodName) jdk_65_method_121_code (3 : Nat) (Option.some (Jvm.ClassFile.FieldType.array Jvm.ClassFile.FieldType.byte))).before a0 Z = true := hw _ (List.mem_of_getElem? (i := 243) rfl)
theorem w244 {Z : State} {a0 : Array Value} (hw : Wds Z a0) : (Jvm.Cond.methodLink "java/lang/StringUTF16" (119 : Nat) ({ cls := "java/lang/StringUTF16", name := "toBytes", desc := "([CII)[B" } : Jvm.MethodName)).before a0 Z = true := hw _ (List.mem_of_getElem? (i := 244) rfl)
theorem w245 {Z : State} {a0 : Array Value} (hw : Wds Z a0) : (Jvm.Cond.static ({ cls := "java/lang/StringUTF16", name := "toBytes", desc := "([CII)[B" } : Jvm.MethodName)).before a0 Z = true := hw _ (List.mem_of_getElem? (i := 245) rfl)
theorem w246 {Z : State} {a0 : Array Value} (hw : Wds Z a0) : (Jvm.Cond.code ({ cls := "java/lang/StringUTF16", name := "toBytes", desc := "([CII)[B" } : Jvm.MethodName) jdk_52_method_14_code (5 : Nat) (Option.some (Jvm.ClassFile.FieldType.array Jvm.ClassFile.FieldType.byte))).before a0 Z = true := hw _ (List.mem_of_getElem? (i := 246) rfl)
theorem w247 {Z : State} {a0 : Array Value} (hw : Wds Z a0) : (Jvm.Cond.methodLink "java/lang/StringUTF16" (107 : Nat) ({ cls := "java/lang/StringUTF16", name := "newBytesFor", desc := "(I)[B" } : Jvm.MethodName)).before a0 Z = true := hw _ (List.mem_of_getElem? (i := 247) rfl)
theorem w248 {Z : State} {a0 : Array Value} (hw : Wds Z a0) : (Jvm.Cond.methodLink "java/lang/StringUTF16" (111 : Nat) ({ cls := "java/lang/StringUTF16", name := "putChar", desc := "([BII)V" } : Jvm.MethodName)).before a0 Z = true := hw _ (List.mem_of_getElem? (i := 248) rfl)
theorem w249 {Z : State} {a0 : Array Value} (hw : Wds Z a0) : (Jvm.Cond.static ({ cls := "java/lang/StringUTF16", name := "putChar", desc := "([BII)V" } : Jvm.MethodName)).before a0 Z = true := hw _ (List.mem_of_getElem? (i := 249) rfl)
theorem w250 {Z : State} {a0 : Array Value} (hw : Wds Z a0) : (Jvm.Cond.code ({ cls := "java/lang/StringUTF16", name := "putChar", desc := "([BII)V" } : Jvm.MethodName) jdk_52_method_4_code (3 : Nat) (Option.none : Option Jvm.ClassFile.FieldType)).before a0 Z = true := hw _ (List.mem_of_getElem? (i := 250) rfl)
theorem w251 {Z : State} {a0 : Array Value} (hw : Wds Z a0) : (Jvm.Cond.fieldLink "java/lang/StringUTF16" (44 : Nat) "java/lang/StringUTF16" "$assertionsDisabled" "Z").before a0 Z = true := hw _ (List.mem_of_getElem? (i := 251) rfl)
theorem w252 {Z : State} {a0 : Array Value} (hw : Wds Z a0) : (Jvm.Cond.fieldLink "java/lang/StringUTF16" (59 : Nat) "java/lang/StringUTF16" "HI_BYTE_SHIFT" "I").before a0 Z = true := hw _ (List.mem_of_getElem? (i := 252) rfl)
theorem w253 {Z : State} {a0 : Array Value} (hw : Wds Z a0) : (Jvm.Cond.fieldLink "java/lang/StringUTF16" (63 : Nat) "java/lang/StringUTF16" "LO_BYTE_SHIFT" "I").before a0 Z = true := hw _ (List.mem_of_getElem? (i := 253) rfl)
theorem w254 {Z : State} {a0 : Array Value} (hw : Wds Z a0) : (Jvm.Cond.methodLink "java/lang/StringUTF16" (71 : Nat) ({ cls := "java/lang/StringUTF16", name := "getChar", desc := "([BI)C" } : Jvm.MethodName)).before a0 Z = true := hw _ (List.mem_of_getElem? (i := 254) rfl)
theorem w255 {Z : State} {a0 : Array Value} (hw : Wds Z a0) : (Jvm.Cond.static ({ cls := "java/lang/StringUTF16", name := "getChar", desc := "([BI)C" } : Jvm.MethodName)).before a0 Z = true := hw _ (List.mem_of_getElem? (i := 255) rfl)
theorem w256 {Z : State} {a0 : Array Value} (hw : Wds Z a0) : (Jvm.Cond.code ({ cls := "java/lang/StringUTF16", name := "getChar", desc := "([BI)C" } : Jvm.MethodName) jdk_52_method_5_code (2 : Nat) (Option.some Jvm.ClassFile.FieldType.char)).before a0 Z = true := hw _ (List.mem_of_getElem? (i := 256) rfl)
theorem w257 {Z : State} {a0 : Array Value} (hw : Wds Z a0) : (Jvm.Cond.methodLink "java/lang/AbstractStringBuilder" (195 : Nat) ({ cls := "java/lang/AbstractStringBuilder", name := "inflate", desc := "()V" } : Jvm.MethodName)).before a0 Z = true := hw _ (List.mem_of_getElem? (i := 257) rfl)
theorem w258 {Z : State} {a0 : Array Value} (hw : Wds Z a0) : (Jvm.Cond.instanceMethod ({ cls := "java/lang/AbstractStringBuilder", name := "inflate", desc := "()V" } : Jvm.MethodName)).before a0 Z = true := hw _ (List.mem_of_getElem? (i := 258) rfl)
theorem w260 {Z : State} {a0 : Array Value} (hw : Wds Z a0) : (Jvm.Cond.selects "java/lang/StringBuilder" ({ cls := "java/lang/AbstractStringBuilder", name := "inflate", desc := "()V" } : Jvm.MethodName) ({ cls := "java/lang/AbstractStringBuilder", name := "inflate", desc := "()V" } : Jvm.MethodName)).before a0 Z = true := hw _ (List.mem_of_getElem? (i := 260) rfl)
theorem w261 {Z : State} {a0 : Array Value} (hw : Wds Z a0) : (Jvm.Cond.code ({ cls := "java/lang/AbstractStringBuilder", name := "inflate", desc := "()V" } : Jvm.MethodName) jdk_68_method_11_code (2 : Nat) (Option.none : Option Jvm.ClassFile.FieldType)).before a0 Z = true := hw _ (List.mem_of_getElem? (i := 261) rfl)
theorem w262 {Z : State} {a0 : Array Value} (hw : Wds Z a0) : (Jvm.Cond.methodLink "java/lang/AbstractStringBuilder" (83 : Nat) ({ cls := "java/lang/AbstractStringBuilder", name := "isLatin1", desc := "()Z" } : Jvm.MethodName)).before a0 Z = true := hw _ (List.mem_of_getElem? (i := 262) rfl)
theorem w263 {Z : State} {a0 : Array Value} (hw : Wds Z a0) : (Jvm.Cond.methodLink "java/lang/AbstractStringBuilder" (26 : Nat) ({ cls := "java/lang/StringUTF16", name := "newBytesFor", desc := "(I)[B" } : Jvm.MethodName)).before a0 Z = true := hw _ (List.mem_of_getElem? (i := 263) rfl)
theorem w264 {Z : State} {a0 : Array Value} (hw : Wds Z a0) : (Jvm.Cond.methodLink "java/lang/AbstractStringBuilder" (125 : Nat) ({ cls := "java/lang/StringLatin1", name := "inflate", desc := "([BI[BII)V" } : Jvm.MethodName)).before a0 Z = true := hw _ (List.mem_of_getElem? (i := 264) rfl)
theorem w265 {Z : State} {a0 : Array Value} (hw : Wds Z a0) : (Jvm.Cond.static ({ cls := "java/lang/StringLatin1", name := "inflate", desc := "([BI[BII)V" } : Jvm.MethodName)).before a0 Z = true := hw _ (List.mem_of_getElem? (i := 265) rfl)
theorem w266 {Z : State} {a0 : Array Value} (hw : Wds Z a0) : (Jvm.Cond.initialized "java/lang/StringLatin1").before a0 Z = true := hw _ (List.mem_of_getElem? (i := 266) rfl)
theorem w267 {Z : State} {a0 : Array Value} (hw : Wds Z a0) : (Jvm.Cond.code ({ cls := "java/lang/StringLatin1", name := "inflate", desc := "([BI[BII)V" } : Jvm.MethodName) jdk_43_method_50_code (5 : Nat) (Option.none : Option Jvm.ClassFile.FieldType)).before a0 Z = true := hw _ (List.mem_of_getElem? (i := 267) rfl)
theorem w268 {Z : State} {a0 : Array Value} (hw : Wds Z a0) : (Jvm.Cond.methodLink "java/lang/StringLatin1" (240 : Nat) ({ cls := "java/lang/StringUTF16", name := "inflate", desc := "([BI[BII)V" } : Jvm.MethodName)).before a0 Z = true := hw _ (List.mem_of_getElem? (i := 268) rfl)
theorem w269 {Z : State} {a0 : Array Value} (hw : Wds Z a0) : (Jvm.Cond.static ({ cls := "java/lang/StringUTF16", name := "inflate", desc := "([BI[BII)V" } : Jvm.MethodName)).before a0 Z = true := hw _ (List.mem_of_getElem? (i := 269) rfl)
theorem w270 {Z : State} {a0 : Array Value} (hw : Wds Z a0) : (Jvm.Cond.code ({ cls := "java/lang/StringUTF16", name := "inflate", desc := "([BI[BII)V" } : Jvm.MethodName) jdk_52_method_86_code (6 : Nat) (Option.none : Option Jvm.ClassFile.FieldType)).before a0 Z = true := hw _ (List.mem_of_getElem? (i := 270) rfl)
theorem w271 {Z : State} {a0 : Array Value} (hw : Wds Z a0) : (Jvm.Cond.methodLink "java/lang/StringUTF16" (173 : Nat) ({ cls := "java/lang/StringUTF16", name := "checkBoundsOffCount", desc := "(II[B)V" } : Jvm.MethodName)).before a0 Z = true := hw _ (List.mem_of_getElem? (i := 271) rfl)
theorem w272 {Z : State} {a0 : Array Value} (hw : Wds Z a0) : (Jvm.Cond.static ({ cls := "java/lang/StringUTF16", name := "checkBoundsOffCount", desc := "(II[B)V" } : Jvm.MethodName)).before a0 Z = true := hw _ (List.mem_of_getElem? (i := 272) rfl)
theorem w273 {Z : State} {a0 : Array Value} (hw : Wds Z a0) : (Jvm.Cond.code ({ cls := "java/lang/StringUTF16", name := "checkBoundsOffCount", desc := "(II[B)V" } : Jvm.MethodName) jdk_52_method_94_code (3 : Nat) (Option.none : Option Jvm.ClassFile.FieldType)).before a0 Z = true := hw _ (List.mem_of_getElem? (i := 273) rfl)
theorem w274 {Z : State} {a0 : Array Value} (hw : Wds Z a0) : (Jvm.Cond.methodLink "java/lang/StringUTF16" (48 : Nat) ({ cls := "java/lang/StringUTF16", name := "length", desc := "([B)I" } : Jvm.MethodName)).before a0 Z = true := hw _ (List.mem_of_getElem? (i := 274) rfl)
theorem w275 {Z : State} {a0 : Array Value} (hw : Wds Z a0) : (Jvm.Cond.static ({ cls := "java/lang/StringUTF16", name := "length", desc := "([B)I" } : Jvm.MethodName)).before a0 Z = true := hw _ (List.mem_of_getElem? (i := 275) rfl)
theorem w276 {Z : State} {a0 : Array Value} (hw : Wds Z a0) : (Jvm.Cond.code ({ cls := "java/lang/StringUTF16", name := "length", desc := "([B)I" } : Jvm.MethodName) jdk_52_method_6_code (1 : Nat) (Option.some Jvm.ClassFile.FieldType.int)).before a0 Z = true := hw _ (List.mem_of_getElem? (i := 276) rfl)
theorem w277 {Z : State} {a0 : Array Value} (hw : Wds Z a0) : (Jvm.Cond.methodLink "java/lang/StringUTF16" (419 : Nat) ({ cls := "java/lang/String", name := "checkBoundsOffCount", desc := "(III)I" } : Jvm.MethodName)).before a0 Z = true := hw _ (List.mem_of_getElem? (i := 277) rfl)
theorem w278 {Z : State} {a0 : Array Value} (hw : Wds Z a0) : (Jvm.Cond.static ({ cls := "java/lang/String", name := "checkBoundsOffCount", desc := "(III)I" } : Jvm.MethodName)).before a0 Z = true := hw _ (List.mem_of_getElem? (i := 278) rfl)
theorem w279 {Z : State} {a0 : Array Value} (hw : Wds Z a0) : (Jvm.Cond.code ({ cls := "java/lang/String", name := "checkBoundsOffCount", desc := "(III)I" } : Jvm.MethodName) jdk_42_method_157_code (3 : Nat) (Option.some Jvm.ClassFile.FieldType.int)).before a0 Z = true := hw _ (List.mem_of_getElem? (i := 279) rfl)
theorem w280 {Z : State} {a0 : Array Value} (hw : Wds Z a0) : (Jvm.Cond.fieldLink "java/lang/String" (1053 : Nat) "jdk/internal/util/Preconditions" "SIOOBE_FORMATTER" "Ljava/util/function/BiFunction;").before a0 Z = true := hw _ (List.mem_of_getElem? (i := 280) rfl)
theorem w281 {Z : State} {a0 : Array Value} (hw : Wds Z a0) : (Jvm.Cond.initialized "jdk/internal/util/Preconditions").before a0 Z = true := hw _ (List.mem_of_getElem? (i := 281) rfl)
theorem w282 {Z : State} {a0 : Array Value} (hw : Wds Z a0) : (Jvm.Cond.methodLink "java/lang/String" (1065 : Nat) ({ cls := "jdk/internal/util/Preconditions", name := "checkFromIndexSize", desc := "(IIILjava/util/function/BiFunction;)I" } : Jvm.MethodName)).before a0 Z = true := hw _ (List.mem_of_getElem? (i := 282) rfl)
theorem w283 {Z : State} {a0 : Array Value} (hw : Wds Z a0) : (Jvm.Cond.static ({ cls := "jdk/internal/util/Preconditions", name := "checkFromIndexSize", desc := "(IIILjava/util/function/BiFunction;)I" } : Jvm.MethodName)).before a0 Z = true := hw _ (List.mem_of_getElem? (i := 283) rfl)
theorem w284 {Z : State} {a0 : Array Value} (hw : Wds Z a0) : (Jvm.Cond.code ({ cls := "jdk/internal/util/Preconditions", name := "checkFromIndexSize", desc := "(IIILjava/util/function/BiFunction;)I" } : Jvm.MethodName) jdk_41_method_13_code (4 : Nat) (Option.some Jvm.ClassFile.FieldType.int)).before a0 Z = true := hw _ (List.mem_of_getElem? (i := 284) rfl)
theorem w285 {Z : State} {a0 : Array Value} (hw : Wds Z a0) : (Jvm.Cond.fieldLink "java/lang/String" (1048 : Nat) "java/lang/AbstractStringBuilder" "maybeLatin1" "Z").before a0 Z = true := hw _ (List.mem_of_getElem? (i := 285) rfl)
theorem w286 {Z : State} {a0 : Array Value} (hw : Wds Z a0) : (Jvm.Cond.lays "java/lang/StringBuilder" "java/lang/AbstractStringBuilder" "maybeLatin1" "Z").before a0 Z = true := hw _ (List.mem_of_getElem? (i := 286) rfl)
theorem w287 {Z : State} {a0 : Array Value} (hw : Wds Z a0) : (Jvm.Cond.methodLink "java/lang/String" (473 : Nat) ({ cls := "java/lang/String", name := "encodeUTF8_UTF16", desc := "([BZ)[B" } : Jvm.MethodName)).before a0 Z = true := hw _ (List.mem_of_getElem? (i := 287) rfl)
theorem w288 {Z : State} {a0 : Array Value} (hw : Wds Z a0) : (Jvm.Cond.static ({ cls := "java/lang/String", name := "encodeUTF8_UTF16", desc := "([BZ)[B" } : Jvm.MethodName)).before a0 Z = true := hw _ (List.mem_of_getElem? (i := 288) rfl)
theorem w289 {Z : State} {a0 : Array Value} (hw : Wds Z a0) : (Jvm.Cond.code ({ cls := "java/lang/String", name := "encodeUTF8_UTF16", desc := "([BZ)[B" } : Jvm.MethodName) jdk_42_method_47_code (9 : Nat) (Option.some (Jvm.ClassFile.FieldType.array Jvm.ClassFile.FieldType.byte))).before a0 Z = true := hw _ (List.mem_of_getElem? (i := 289) rfl)
theorem w290 {Z : State} {a0 : Array Value} (hw : Wds Z a0) : (Jvm.Cond.methodLink "java/lang/String" (360 : Nat) ({ cls := "java/lang/StringUTF16", name := "getChar", desc := "([BI)C" } : Jvm.MethodName)).before a0 Z = true := hw _ (List.mem_of_getElem? (i := 290) rfl)
theorem w291 {Z : State} {a0 : Array Value} (hw : Wds Z a0) : (Jvm.Cond.methodLink "java/lang/String" (404 : Nat) ({ cls := "java/lang/Character", name := "isSurrogate", desc := "(C)Z" } : Jvm.MethodName)).before a0 Z = true := hw _ (List.mem_of_getElem? (i := 291) rfl)
theorem w292 {Z : State} {a0 : Array Value} (hw : Wds Z a0) : (Jvm.Cond.static ({ cls := "java/lang/Character", name := "isSurrogate", desc := "(C)Z" } : Jvm.MethodName)).before a0 Z = true := hw _ (List.mem_of_getElem? (i := 292) rfl)
theorem w293 {Z : State} {a0 : Array Value} (hw : Wds Z a0) : (Jvm.Cond.initialized "java/lang/Character").before a0 Z = true := hw _ (List.mem_of_getElem? (i := 293) rfl)
theorem w294 {Z : State} {a0 : Array Value} (hw : Wds Z a0) : (Jvm.Cond.code ({ cls := "java/lang/Character", name := "isSurrogate", desc := "(C)Z" } : Jvm.MethodName) jdk_89_method_16_code (1 : Nat) (Option.some Jvm.ClassFile.FieldType.boolean)).before a0 Z = true := hw _ (List.mem_of_getElem? (i := 294) rfl)
theorem w295 {Z : State} {a0 : Array Value} (hw : Wds Z a0) : (Jvm.Cond.constant "java/lang/Character" (75 : Nat) (55296 : Int32)).before a0 Z = true := hw _ (List.mem_of_getElem? (i := 295) rfl)
theorem w296 {Z : State} {a0 : Array Value} (hw : Wds Z a0) : (Jvm.Cond.constant "com/example/pacerd/pacerd/run/OutcomeFailurePinLaw" (9 : Nat) (57343 : Int32)).before a0 Z = true := hw _ (List.mem_of_getElem? (i := 296) rfl)
theorem w297 {Z : State} {a0 : Array Value} (hw : Wds Z a0) : (Jvm.Cond.constant "java/lang/Character" (77 : Nat) (57344 : Int32)).before a0 Z = true := hw _ (List.mem_of_getElem? (i := 297) rfl)
theorem lay_0 {Z : State} {a0 : Array Value} (hw : Wds Z a0) : LayD Z a0 "java/lang/String" [("java/lang/String", "value", "[B", .null), ("java/lang/String", "coder", "B", (.int (0 : Int32)))] := ⟨fun f hf => by
  simp only [List.mem_cons, List.not_mem_nil, or_false] at hf
  rcases hf with rfl | rfl
  · exact ⟨Or.inr (w22 hw), (.array .byte), by decide, rfl⟩
  · exact ⟨Or.inr (w23 hw), .byte, by decide, rfl⟩, by decide⟩
theorem lay_1 {Z : State} {a0 : Array Value} (hw : Wds Z a0) : LayD Z a0 "java/lang/StringBuilder" [("java/lang/AbstractStringBuilder", "value", "[B", .null), ("java/lang/AbstractStringBuilder", "coder", "B", (.int (0 : Int32))), ("java/lang/AbstractStringBuilder", "count", "I", (.int (0 : Int32))), ("java/lang/AbstractStringBuilder", "maybeLatin1", "Z", (.int (0 : Int32)))] := ⟨fun f hf => by
  simp only [List.mem_cons, List.not_mem_nil, or_false] at hf
  rcases hf with rfl | rfl | rfl | rfl
  · exact ⟨Or.inl (w47 hw), (.array .byte), by decide, rfl⟩
  · exact ⟨Or.inl (w49 hw), .byte, by decide, rfl⟩
  · exact ⟨Or.inl (w73 hw), .int, by decide, rfl⟩
  · exact ⟨Or.inl (w286 hw), .boolean, by decide, rfl⟩, by decide⟩
theorem lay_2 {Z : State} {a0 : Array Value} (hw : Wds Z a0) : LayD Z a0 "com/example/pacerd/pacerd/run/Outcome" [("com/example/pacerd/pacerd/run/Outcome", "status", "Lcom/example/pacerd/pacerd/run/RunStatus;", .null), ("com/example/pacerd/pacerd/run/Outcome", "exitCode", "Ljava/lang/Integer;", .null), ("com/example/pacerd/pacerd/run/Outcome", "httpStatus", "Ljava/lang/Integer;", .null), ("com/example/pacerd/pacerd/run/Outcome", "output", "[B", .null)] := ⟨fun f hf => by
  simp only [List.mem_cons, List.not_mem_nil, or_false] at hf
  rcases hf with rfl | rfl | rfl | rfl
  · exact ⟨Or.inr (w190 hw), (.object "com/example/pacerd/pacerd/run/RunStatus"), by decide, rfl⟩
  · exact ⟨Or.inr (w192 hw), (.object "java/lang/Integer"), by decide, rfl⟩
  · exact ⟨Or.inr (w194 hw), (.object "java/lang/Integer"), by decide, rfl⟩
  · exact ⟨Or.inr (w196 hw), (.array .byte), by decide, rfl⟩, by decide⟩
theorem i0_0 : Ins code 0 (.iload_n 0) 1 1 := ⟨at_0, rfl⟩
theorem i0_1 : Ins code 1 (.iconst 3) 1 2 := ⟨at_1, rfl⟩
theorem i0_2 : Ins code 2 (.iand) 1 3 := ⟨at_2, rfl⟩
theorem i0_3 : Ins code 3 (.istore 4) 2 5 := ⟨at_3, rfl⟩
theorem i0_5 : Ins code 5 (.iload_n 1) 1 6 := ⟨at_5, rfl⟩
theorem i0_6 : Ins code 6 (.invokestatic 10) 3 9 := ⟨at_6, rfl⟩
theorem i0_9 : Ins code 9 (.istore 5) 2 11 := ⟨at_9, rfl⟩
theorem i0_11 : Ins code 11 (.iload_n 2) 1 12 := ⟨at_11, rfl⟩
theorem i0_12 : Ins code 12 (.invokestatic 10) 3 15 := ⟨at_12, rfl⟩
theorem i0_15 : Ins code 15 (.istore 6) 2 17 := ⟨at_15, rfl⟩
theorem i0_17 : Ins code 17 (.iload_n 3) 1 18 := ⟨at_17, rfl⟩
theorem i0_18 : Ins code 18 (.invokestatic 10) 3 21 := ⟨at_18, rfl⟩
theorem i0_21 : Ins code 21 (.istore 7) 2 23 := ⟨at_21, rfl⟩
theorem i0_23 : Ins code 23 (.iload 4) 2 25 := ⟨at_23, rfl⟩
theorem i0_25 : Ins code 25 (.ifCond .ne 11) 3 28 := ⟨at_25, rfl⟩
theorem i0_28 : Ins code 28 (.iconst 0) 1 29 := ⟨at_28, rfl⟩
theorem i0_29 : Ins code 29 (.newarray .char) 2 31 := ⟨at_29, rfl⟩
theorem i0_31 : Ins code 31 (.astore 8) 2 33 := ⟨at_31, rfl⟩
theorem i0_33 : Ins code 33 (.goto 72) 3 36 := ⟨at_33, rfl⟩
theorem i0_36 : Ins code 36 (.iload 4) 2 38 := ⟨at_36, rfl⟩
theorem i0_38 : Ins code 38 (.iconst 1) 1 39 := ⟨at_38, rfl⟩
theorem i0_39 : Ins code 39 (.if_icmp .ne 17) 3 42 := ⟨at_39, rfl⟩
theorem i0_42 : Ins code 42 (.iconst 1) 1 43 := ⟨at_42, rfl⟩
theorem i0_43 : Ins code 43 (.newarray .char) 2 45 := ⟨at_43, rfl⟩
theorem i0_45 : Ins code 45 (.dup) 1 46 := ⟨at_45, rfl⟩
theorem i0_46 : Ins code 46 (.iconst 0) 1 47 := ⟨at_46, rfl⟩
theorem i0_47 : Ins code 47 (.iload 5) 2 49 := ⟨at_47, rfl⟩
theorem i0_49 : Ins code 49 (.i2c) 1 50 := ⟨at_49, rfl⟩
theorem i0_50 : Ins code 50 (.castore) 1 51 := ⟨at_50, rfl⟩
theorem i0_51 : Ins code 51 (.astore 8) 2 53 := ⟨at_51, rfl⟩
theorem i0_53 : Ins code 53 (.goto 52) 3 56 := ⟨at_53, rfl⟩
theorem i0_56 : Ins code 56 (.iload 4) 2 58 := ⟨at_56, rfl⟩
theorem i0_58 : Ins code 58 (.iconst 2) 1 59 := ⟨at_58, rfl⟩
theorem i0_59 : Ins code 59 (.if_icmp .ne 23) 3 62 := ⟨at_59, rfl⟩
theorem i0_62 : Ins code 62 (.iconst 2) 1 63 := ⟨at_62, rfl⟩
theorem i0_63 : Ins code 63 (.newarray .char) 2 65 := ⟨at_63, rfl⟩
theorem i0_65 : Ins code 65 (.dup) 1 66 := ⟨at_65, rfl⟩
theorem i0_66 : Ins code 66 (.iconst 0) 1 67 := ⟨at_66, rfl⟩
theorem i0_67 : Ins code 67 (.iload 5) 2 69 := ⟨at_67, rfl⟩
theorem i0_69 : Ins code 69 (.i2c) 1 70 := ⟨at_69, rfl⟩
theorem i0_70 : Ins code 70 (.castore) 1 71 := ⟨at_70, rfl⟩
theorem i0_71 : Ins code 71 (.dup) 1 72 := ⟨at_71, rfl⟩
theorem i0_72 : Ins code 72 (.iconst 1) 1 73 := ⟨at_72, rfl⟩
theorem i0_73 : Ins code 73 (.iload 6) 2 75 := ⟨at_73, rfl⟩
theorem i0_75 : Ins code 75 (.i2c) 1 76 := ⟨at_75, rfl⟩
theorem i0_76 : Ins code 76 (.castore) 1 77 := ⟨at_76, rfl⟩
theorem i0_77 : Ins code 77 (.astore 8) 2 79 := ⟨at_77, rfl⟩
theorem i0_79 : Ins code 79 (.goto 26) 3 82 := ⟨at_79, rfl⟩
theorem i0_82 : Ins code 82 (.iconst 3) 1 83 := ⟨at_82, rfl⟩
theorem i0_83 : Ins code 83 (.newarray .char) 2 85 := ⟨at_83, rfl⟩
theorem i0_85 : Ins code 85 (.dup) 1 86 := ⟨at_85, rfl⟩
theorem i0_86 : Ins code 86 (.iconst 0) 1 87 := ⟨at_86, rfl⟩
theorem i0_87 : Ins code 87 (.iload 5) 2 89 := ⟨at_87, rfl⟩
theorem i0_89 : Ins code 89 (.i2c) 1 90 := ⟨at_89, rfl⟩
theorem i0_90 : Ins code 90 (.castore) 1 91 := ⟨at_90, rfl⟩
theorem i0_91 : Ins code 91 (.dup) 1 92 := ⟨at_91, rfl⟩
theorem i0_92 : Ins code 92 (.iconst 1) 1 93 := ⟨at_92, rfl⟩
theorem i0_93 : Ins code 93 (.iload 6) 2 95 := ⟨at_93, rfl⟩
theorem i0_95 : Ins code 95 (.i2c) 1 96 := ⟨at_95, rfl⟩
theorem i0_96 : Ins code 96 (.castore) 1 97 := ⟨at_96, rfl⟩
theorem i0_97 : Ins code 97 (.dup) 1 98 := ⟨at_97, rfl⟩
theorem i0_98 : Ins code 98 (.iconst 2) 1 99 := ⟨at_98, rfl⟩
theorem i0_99 : Ins code 99 (.iload 7) 2 101 := ⟨at_99, rfl⟩
theorem i0_101 : Ins code 101 (.i2c) 1 102 := ⟨at_101, rfl⟩
theorem i0_102 : Ins code 102 (.castore) 1 103 := ⟨at_102, rfl⟩
theorem i0_103 : Ins code 103 (.astore 8) 2 105 := ⟨at_103, rfl⟩
theorem i0_105 : Ins code 105 (.new 16) 3 108 := ⟨at_105, rfl⟩
theorem i0_108 : Ins code 108 (.dup) 1 109 := ⟨at_108, rfl⟩
theorem i0_109 : Ins code 109 (.aload 8) 2 111 := ⟨at_109, rfl⟩
theorem i0_111 : Ins code 111 (.invokespecial 18) 3 114 := ⟨at_111, rfl⟩
theorem i0_114 : Ins code 114 (.astore 9) 2 116 := ⟨at_114, rfl⟩
theorem i0_116 : Ins code 116 (.bipush 17) 2 118 := ⟨at_116, rfl⟩
theorem i0_118 : Ins code 118 (.newarray .byte) 2 120 := ⟨at_118, rfl⟩
theorem i0_120 : Ins code 120 (.astore 10) 2 122 := ⟨at_120, rfl⟩
theorem i0_122 : Ins code 122 (.aload 10) 2 124 := ⟨at_122, rfl⟩
theorem i0_124 : Ins code 124 (.iconst 0) 1 125 := ⟨at_124, rfl⟩
theorem i0_125 : Ins code 125 (.bipush 112) 2 127 := ⟨at_125, rfl⟩
theorem i0_127 : Ins code 127 (.bastore) 1 128 := ⟨at_127, rfl⟩
theorem i0_128 : Ins code 128 (.aload 10) 2 130 := ⟨at_128, rfl⟩
theorem i0_130 : Ins code 130 (.iconst 1) 1 131 := ⟨at_130, rfl⟩
theorem i0_131 : Ins code 131 (.bipush 97) 2 133 := ⟨at_131, rfl⟩
theorem i0_133 : Ins code 133 (.bastore) 1 134 := ⟨at_133, rfl⟩
theorem i0_134 : Ins code 134 (.aload 10) 2 136 := ⟨at_134, rfl⟩
theorem i0_136 : Ins code 136 (.iconst 2) 1 137 := ⟨at_136, rfl⟩
theorem i0_137 : Ins code 137 (.bipush 99) 2 139 := ⟨at_137, rfl⟩
theorem i0_139 : Ins code 139 (.bastore) 1 140 := ⟨at_139, rfl⟩
theorem i0_140 : Ins code 140 (.aload 10) 2 142 := ⟨at_140, rfl⟩
theorem i0_142 : Ins code 142 (.iconst 3) 1 143 := ⟨at_142, rfl⟩
theorem i0_143 : Ins code 143 (.bipush 101) 2 145 := ⟨at_143, rfl⟩
theorem i0_145 : Ins code 145 (.bastore) 1 146 := ⟨at_145, rfl⟩
theorem i0_146 : Ins code 146 (.aload 10) 2 148 := ⟨at_146, rfl⟩
theorem i0_148 : Ins code 148 (.iconst 4) 1 149 := ⟨at_148, rfl⟩
theorem i0_149 : Ins code 149 (.bipush 114) 2 151 := ⟨at_149, rfl⟩
theorem i0_151 : Ins code 151 (.bastore) 1 152 := ⟨at_151, rfl⟩
theorem i0_152 : Ins code 152 (.aload 10) 2 154 := ⟨at_152, rfl⟩
theorem i0_154 : Ins code 154 (.iconst 5) 1 155 := ⟨at_154, rfl⟩
theorem i0_155 : Ins code 155 (.bipush 100) 2 157 := ⟨at_155, rfl⟩
theorem i0_157 : Ins code 157 (.bastore) 1 158 := ⟨at_157, rfl⟩
theorem i0_158 : Ins code 158 (.aload 10) 2 160 := ⟨at_158, rfl⟩
theorem i0_160 : Ins code 160 (.bipush 6) 2 162 := ⟨at_160, rfl⟩
theorem i0_162 : Ins code 162 (.bipush 58) 2 164 := ⟨at_162, rfl⟩
theorem i0_164 : Ins code 164 (.bastore) 1 165 := ⟨at_164, rfl⟩
theorem i0_165 : Ins code 165 (.aload 10) 2 167 := ⟨at_165, rfl⟩
theorem i0_167 : Ins code 167 (.bipush 7) 2 169 := ⟨at_167, rfl⟩
theorem i0_169 : Ins code 169 (.bipush 32) 2 171 := ⟨at_169, rfl⟩
theorem i0_171 : Ins code 171 (.bastore) 1 172 := ⟨at_171, rfl⟩
theorem i0_172 : Ins code 172 (.bipush 8) 2 174 := ⟨at_172, rfl⟩
theorem i0_174 : Ins code 174 (.istore 11) 2 176 := ⟨at_174, rfl⟩
theorem i0_176 : Ins code 176 (.iload 4) 2 178 := ⟨at_176, rfl⟩
theorem i0_178 : Ins code 178 (.iconst 1) 1 179 := ⟨at_178, rfl⟩
theorem i0_179 : Ins code 179 (.if_icmp .lt 14) 3 182 := ⟨at_179, rfl⟩
theorem i0_182 : Ins code 182 (.aload 10) 2 184 := ⟨at_182, rfl⟩
theorem i0_184 : Ins code 184 (.iload 11) 2 186 := ⟨at_184, rfl⟩
theorem i0_186 : Ins code 186 (.iload 5) 2 188 := ⟨at_186, rfl⟩
theorem i0_188 : Ins code 188 (.invokestatic 21) 3 191 := ⟨at_188, rfl⟩
theorem i0_191 : Ins code 191 (.istore 11) 2 193 := ⟨at_191, rfl⟩
theorem i0_193 : Ins code 193 (.iload 4) 2 195 := ⟨at_193, rfl⟩
theorem i0_195 : Ins code 195 (.iconst 2) 1 196 := ⟨at_195, rfl⟩
theorem i0_196 : Ins code 196 (.if_icmp .lt 14) 3 199 := ⟨at_196, rfl⟩
theorem i0_199 : Ins code 199 (.aload 10) 2 201 := ⟨at_199, rfl⟩
theorem i0_201 : Ins code 201 (.iload 11) 2 203 := ⟨at_201, rfl⟩
theorem i0_203 : Ins code 203 (.iload 6) 2 205 := ⟨at_203, rfl⟩
theorem i0_205 : Ins code 205 (.invokestatic 21) 3 208 := ⟨at_205, rfl⟩
theorem i0_208 : Ins code 208 (.istore 11) 2 210 := ⟨at_208, rfl⟩
theorem i0_210 : Ins code 210 (.iload 4) 2 212 := ⟨at_210, rfl⟩
theorem i0_212 : Ins code 212 (.iconst 3) 1 213 := ⟨at_212, rfl⟩
theorem i0_213 : Ins code 213 (.if_icmp .lt 14) 3 216 := ⟨at_213, rfl⟩
theorem i0_216 : Ins code 216 (.aload 10) 2 218 := ⟨at_216, rfl⟩
theorem i0_218 : Ins code 218 (.iload 11) 2 220 := ⟨at_218, rfl⟩
theorem i0_220 : Ins code 220 (.iload 7) 2 222 := ⟨at_220, rfl⟩
theorem i0_222 : Ins code 222 (.invokestatic 21) 3 225 := ⟨at_222, rfl⟩
theorem i0_225 : Ins code 225 (.istore 11) 2 227 := ⟨at_225, rfl⟩
theorem i0_227 : Ins code 227 (.aload 9) 2 229 := ⟨at_227, rfl⟩
theorem i0_229 : Ins code 229 (.invokestatic 25) 3 232 := ⟨at_229, rfl⟩
theorem i0_232 : Ins code 232 (.astore 12) 2 234 := ⟨at_232, rfl⟩
theorem i0_234 : Ins code 234 (.aload 12) 2 236 := ⟨at_234, rfl⟩
theorem i0_236 : Ins code 236 (.ifnonnull 5) 3 239 := ⟨at_236, rfl⟩
theorem i0_241 : Ins code 241 (.aload 12) 2 243 := ⟨at_241, rfl⟩
theorem i0_243 : Ins code 243 (.invokevirtual 31) 3 246 := ⟨at_243, rfl⟩
theorem i0_246 : Ins code 246 (.getstatic 35) 3 249 := ⟨at_246, rfl⟩
theorem i0_249 : Ins code 249 (.if_acmp .eq 5) 3 252 := ⟨at_249, rfl⟩
theorem i0_254 : Ins code 254 (.aload 12) 2 256 := ⟨at_254, rfl⟩
theorem i0_256 : Ins code 256 (.invokevirtual 41) 3 259 := ⟨at_256, rfl⟩
theorem i0_259 : Ins code 259 (.ifnonnull 11) 3 262 := ⟨at_259, rfl⟩
theorem i0_262 : Ins code 262 (.aload 12) 2 264 := ⟨at_262, rfl⟩
theorem i0_264 : Ins code 264 (.invokevirtual 45) 3 267 := ⟨at_264, rfl⟩
theorem i0_267 : Ins code 267 (.ifnull 5) 3 270 := ⟨at_267, rfl⟩
theorem i0_272 : Ins code 272 (.aload 12) 2 274 := ⟨at_272, rfl⟩
theorem i0_274 : Ins code 274 (.invokevirtual 48) 3 277 := ⟨at_274, rfl⟩
theorem i0_277 : Ins code 277 (.astore 13) 2 279 := ⟨at_277, rfl⟩
theorem i0_279 : Ins code 279 (.aload 13) 2 281 := ⟨at_279, rfl⟩
theorem i0_281 : Ins code 281 (.ifnull 11) 3 284 := ⟨at_281, rfl⟩
theorem i0_284 : Ins code 284 (.aload 13) 2 286 := ⟨at_284, rfl⟩
theorem i0_286 : Ins code 286 (.arraylength) 1 287 := ⟨at_286, rfl⟩
theorem i0_287 : Ins code 287 (.iload 11) 2 289 := ⟨at_287, rfl⟩
theorem i0_289 : Ins code 289 (.if_icmp .eq 5) 3 292 := ⟨at_289, rfl⟩
theorem i0_294 : Ins code 294 (.aload 13) 2 296 := ⟨at_294, rfl⟩
theorem i0_296 : Ins code 296 (.aload 10) 2 298 := ⟨at_296, rfl⟩
theorem i0_298 : Ins code 298 (.iload 11) 2 300 := ⟨at_298, rfl⟩
theorem i0_300 : Ins code 300 (.iconst 0) 1 301 := ⟨at_300, rfl⟩
theorem i0_301 : Ins code 301 (.invokestatic 52) 3 304 := ⟨at_301, rfl⟩
theorem i0_304 : Ins code 304 (.ifCond .eq 226) 3 307 := ⟨at_304, rfl⟩
theorem i0_307 : Ins code 307 (.aload 13) 2 309 := ⟨at_307, rfl⟩
theorem i0_309 : Ins code 309 (.aload 10) 2 311 := ⟨at_309, rfl⟩
theorem i0_311 : Ins code 311 (.iload 11) 2 313 := ⟨at_311, rfl⟩
theorem i0_313 : Ins code 313 (.iconst 1) 1 314 := ⟨at_313, rfl⟩
theorem i0_314 : Ins code 314 (.invokestatic 52) 3 317 := ⟨at_314, rfl⟩
theorem i0_317 : Ins code 317 (.ifCond .eq 213) 3 320 := ⟨at_317, rfl⟩
theorem i0_320 : Ins code 320 (.aload 13) 2 322 := ⟨at_320, rfl⟩
theorem i0_322 : Ins code 322 (.aload 10) 2 324 := ⟨at_322, rfl⟩
theorem i0_324 : Ins code 324 (.iload 11) 2 326 := ⟨at_324, rfl⟩
theorem i0_326 : Ins code 326 (.iconst 2) 1 327 := ⟨at_326, rfl⟩
theorem i0_327 : Ins code 327 (.invokestatic 52) 3 330 := ⟨at_327, rfl⟩
theorem i0_330 : Ins code 330 (.ifCond .eq 200) 3 333 := ⟨at_330, rfl⟩
theorem i0_333 : Ins code 333 (.aload 13) 2 335 := ⟨at_333, rfl⟩
theorem i0_335 : Ins code 335 (.aload 10) 2 337 := ⟨at_335, rfl⟩
theorem i0_337 : Ins code 337 (.iload 11) 2 339 := ⟨at_337, rfl⟩
theorem i0_339 : Ins code 339 (.iconst 3) 1 340 := ⟨at_339, rfl⟩
theorem i0_340 : Ins code 340 (.invokestatic 52) 3 343 := ⟨at_340, rfl⟩
theorem i0_343 : Ins code 343 (.ifCond .eq 187) 3 346 := ⟨at_343, rfl⟩
theorem i0_346 : Ins code 346 (.aload 13) 2 348 := ⟨at_346, rfl⟩
theorem i0_348 : Ins code 348 (.aload 10) 2 350 := ⟨at_348, rfl⟩
theorem i0_350 : Ins code 350 (.iload 11) 2 352 := ⟨at_350, rfl⟩
theorem i0_352 : Ins code 352 (.iconst 4) 1 353 := ⟨at_352, rfl⟩
theorem i0_353 : Ins code 353 (.invokestatic 52) 3 356 := ⟨at_353, rfl⟩
theorem i0_356 : Ins code 356 (.ifCond .eq 174) 3 359 := ⟨at_356, rfl⟩
theorem i0_359 : Ins code 359 (.aload 13) 2 361 := ⟨at_359, rfl⟩
theorem i0_361 : Ins code 361 (.aload 10) 2 363 := ⟨at_361, rfl⟩
theorem i0_363 : Ins code 363 (.iload 11) 2 365 := ⟨at_363, rfl⟩
theorem i0_365 : Ins code 365 (.iconst 5) 1 366 := ⟨at_365, rfl⟩
theorem i0_366 : Ins code 366 (.invokestatic 52) 3 369 := ⟨at_366, rfl⟩
theorem i0_369 : Ins code 369 (.ifCond .eq 161) 3 372 := ⟨at_369, rfl⟩
theorem i0_372 : Ins code 372 (.aload 13) 2 374 := ⟨at_372, rfl⟩
theorem i0_374 : Ins code 374 (.aload 10) 2 376 := ⟨at_374, rfl⟩
theorem i0_376 : Ins code 376 (.iload 11) 2 378 := ⟨at_376, rfl⟩
theorem i0_378 : Ins code 378 (.bipush 6) 2 380 := ⟨at_378, rfl⟩
theorem i0_380 : Ins code 380 (.invokestatic 52) 3 383 := ⟨at_380, rfl⟩
theorem i0_383 : Ins code 383 (.ifCond .eq 147) 3 386 := ⟨at_383, rfl⟩
theorem i0_386 : Ins code 386 (.aload 13) 2 388 := ⟨at_386, rfl⟩
theorem i0_388 : Ins code 388 (.aload 10) 2 390 := ⟨at_388, rfl⟩
theorem i0_390 : Ins code 390 (.iload 11) 2 392 := ⟨at_390, rfl⟩
theorem i0_392 : Ins code 392 (.bipush 7) 2 394 := ⟨at_392, rfl⟩
theorem i0_394 : Ins code 394 (.invokestatic 52) 3 397 := ⟨at_394, rfl⟩
theorem i0_397 : Ins code 397 (.ifCond .eq 133) 3 400 := ⟨at_397, rfl⟩
theorem i0_400 : Ins code 400 (.aload 13) 2 402 := ⟨at_400, rfl⟩
theorem i0_402 : Ins code 402 (.aload 10) 2 404 := ⟨at_402, rfl⟩
theorem i0_404 : Ins code 404 (.iload 11) 2 406 := ⟨at_404, rfl⟩
theorem i0_406 : Ins code 406 (.bipush 8) 2 408 := ⟨at_406, rfl⟩
theorem i0_408 : Ins code 408 (.invokestatic 52) 3 411 := ⟨at_408, rfl⟩
theorem i0_411 : Ins code 411 (.ifCond .eq 119) 3 414 := ⟨at_411, rfl⟩
theorem i0_414 : Ins code 414 (.aload 13) 2 416 := ⟨at_414, rfl⟩
theorem i0_416 : Ins code 416 (.aload 10) 2 418 := ⟨at_416, rfl⟩
theorem i0_418 : Ins code 418 (.iload 11) 2 420 := ⟨at_418, rfl⟩
theorem i0_420 : Ins code 420 (.bipush 9) 2 422 := ⟨at_420, rfl⟩
theorem i0_422 : Ins code 422 (.invokestatic 52) 3 425 := ⟨at_422, rfl⟩
theorem i0_425 : Ins code 425 (.ifCond .eq 105) 3 428 := ⟨at_425, rfl⟩
theorem i0_428 : Ins code 428 (.aload 13) 2 430 := ⟨at_428, rfl⟩
theorem i0_430 : Ins code 430 (.aload 10) 2 432 := ⟨at_430, rfl⟩
theorem i0_432 : Ins code 432 (.iload 11) 2 434 := ⟨at_432, rfl⟩
theorem i0_434 : Ins code 434 (.bipush 10) 2 436 := ⟨at_434, rfl⟩
theorem i0_436 : Ins code 436 (.invokestatic 52) 3 439 := ⟨at_436, rfl⟩
theorem i0_439 : Ins code 439 (.ifCond .eq 91) 3 442 := ⟨at_439, rfl⟩
theorem i0_442 : Ins code 442 (.aload 13) 2 444 := ⟨at_442, rfl⟩
theorem i0_444 : Ins code 444 (.aload 10) 2 446 := ⟨at_444, rfl⟩
theorem i0_446 : Ins code 446 (.iload 11) 2 448 := ⟨at_446, rfl⟩
theorem i0_448 : Ins code 448 (.bipush 11) 2 450 := ⟨at_448, rfl⟩
theorem i0_450 : Ins code 450 (.invokestatic 52) 3 453 := ⟨at_450, rfl⟩
theorem i0_453 : Ins code 453 (.ifCond .eq 77) 3 456 := ⟨at_453, rfl⟩
theorem i0_456 : Ins code 456 (.aload 13) 2 458 := ⟨at_456, rfl⟩
theorem i0_458 : Ins code 458 (.aload 10) 2 460 := ⟨at_458, rfl⟩
theorem i0_460 : Ins code 460 (.iload 11) 2 462 := ⟨at_460, rfl⟩
theorem i0_462 : Ins code 462 (.bipush 12) 2 464 := ⟨at_462, rfl⟩
theorem i0_464 : Ins code 464 (.invokestatic 52) 3 467 := ⟨at_464, rfl⟩
theorem i0_467 : Ins code 467 (.ifCond .eq 63) 3 470 := ⟨at_467, rfl⟩
theorem i0_470 : Ins code 470 (.aload 13) 2 472 := ⟨at_470, rfl⟩
theorem i0_472 : Ins code 472 (.aload 10) 2 474 := ⟨at_472, rfl⟩
theorem i0_474 : Ins code 474 (.iload 11) 2 476 := ⟨at_474, rfl⟩
theorem i0_476 : Ins code 476 (.bipush 13) 2 478 := ⟨at_476, rfl⟩
theorem i0_478 : Ins code 478 (.invokestatic 52) 3 481 := ⟨at_478, rfl⟩
theorem i0_481 : Ins code 481 (.ifCond .eq 49) 3 484 := ⟨at_481, rfl⟩
theorem i0_484 : Ins code 484 (.aload 13) 2 486 := ⟨at_484, rfl⟩
theorem i0_486 : Ins code 486 (.aload 10) 2 488 := ⟨at_486, rfl⟩
theorem i0_488 : Ins code 488 (.iload 11) 2 490 := ⟨at_488, rfl⟩
theorem i0_490 : Ins code 490 (.bipush 14) 2 492 := ⟨at_490, rfl⟩
theorem i0_492 : Ins code 492 (.invokestatic 52) 3 495 := ⟨at_492, rfl⟩
theorem i0_495 : Ins code 495 (.ifCond .eq 35) 3 498 := ⟨at_495, rfl⟩
theorem i0_498 : Ins code 498 (.aload 13) 2 500 := ⟨at_498, rfl⟩
theorem i0_500 : Ins code 500 (.aload 10) 2 502 := ⟨at_500, rfl⟩
theorem i0_502 : Ins code 502 (.iload 11) 2 504 := ⟨at_502, rfl⟩
theorem i0_504 : Ins code 504 (.bipush 15) 2 506 := ⟨at_504, rfl⟩
theorem i0_506 : Ins code 506 (.invokestatic 52) 3 509 := ⟨at_506, rfl⟩
theorem i0_509 : Ins code 509 (.ifCond .eq 21) 3 512 := ⟨at_509, rfl⟩
theorem i0_512 : Ins code 512 (.aload 13) 2 514 := ⟨at_512, rfl⟩
theorem i0_514 : Ins code 514 (.aload 10) 2 516 := ⟨at_514, rfl⟩
theorem i0_516 : Ins code 516 (.iload 11) 2 518 := ⟨at_516, rfl⟩
theorem i0_518 : Ins code 518 (.bipush 16) 2 520 := ⟨at_518, rfl⟩
theorem i0_520 : Ins code 520 (.invokestatic 52) 3 523 := ⟨at_520, rfl⟩
theorem i0_523 : Ins code 523 (.ifCond .eq 7) 3 526 := ⟨at_523, rfl⟩
theorem i0_526 : Ins code 526 (.iconst 1) 1 527 := ⟨at_526, rfl⟩
theorem i0_527 : Ins code 527 (.goto 4) 3 530 := ⟨at_527, rfl⟩
theorem i0_531 : Ins code 531 (.ireturn) 1 532 := ⟨at_531, rfl⟩
theorem i1_0 : Ins method_2_code 0 (.iload_n 0) 1 1 := ⟨by decide +kernel, rfl⟩
theorem i1_1 : Ins method_2_code 1 (.ldc 7) 2 3 := ⟨by decide +kernel, rfl⟩
theorem i1_3 : Ins method_2_code 3 (.iand) 1 4 := ⟨by decide +kernel, rfl⟩
theorem i1_4 : Ins method_2_code 4 (.istore_n 1) 1 5 := ⟨by decide +kernel, rfl⟩
theorem i1_5 : Ins method_2_code 5 (.iload_n 1) 1 6 := ⟨by decide +kernel, rfl⟩
theorem i1_6 : Ins method_2_code 6 (.ldc 8) 2 8 := ⟨by decide +kernel, rfl⟩
theorem i1_8 : Ins method_2_code 8 (.if_icmp .lt 15) 3 11 := ⟨by decide +kernel, rfl⟩
theorem i1_11 : Ins method_2_code 11 (.iload_n 1) 1 12 := ⟨by decide +kernel, rfl⟩
theorem i1_12 : Ins method_2_code 12 (.ldc 9) 2 14 := ⟨by decide +kernel, rfl⟩
theorem i1_14 : Ins method_2_code 14 (.if_icmp .gt 9) 3 17 := ⟨by decide +kernel, rfl⟩
theorem i1_17 : Ins method_2_code 17 (.iload_n 1) 1 18 := ⟨by decide +kernel, rfl⟩
theorem i1_18 : Ins method_2_code 18 (.sipush 2048) 3 21 := ⟨by decide +kernel, rfl⟩
theorem i1_21 : Ins method_2_code 21 (.isub) 1 22 := ⟨by decide +kernel, rfl⟩
theorem i1_22 : Ins method_2_code 22 (.istore_n 1) 1 23 := ⟨by decide +kernel, rfl⟩
theorem i1_23 : Ins method_2_code 23 (.iload_n 1) 1 24 := ⟨by decide +kernel, rfl⟩
theorem i1_24 : Ins method_2_code 24 (.ireturn) 1 25 := ⟨by decide +kernel, rfl⟩
theorem i2_0 : Ins jdk_42_method_3_code 0 (.aload_n 0) 1 1 := ⟨by decide +kernel, rfl⟩
theorem i2_1 : Ins jdk_42_method_3_code 1 (.aload_n 1) 1 2 := ⟨by decide +kernel, rfl⟩
theorem i2_2 : Ins jdk_42_method_3_code 2 (.iconst 0) 1 3 := ⟨by decide +kernel, rfl⟩
theorem i2_3 : Ins jdk_42_method_3_code 3 (.aload_n 1) 1 4 := ⟨by decide +kernel, rfl⟩
theorem i2_4 : Ins jdk_42_method_3_code 4 (.arraylength) 1 5 := ⟨by decide +kernel, rfl⟩
theorem i2_5 : Ins jdk_42_method_3_code 5 (.aconst_null) 1 6 := ⟨by decide +kernel, rfl⟩
theorem i2_6 : Ins jdk_42_method_3_code 6 (.invokespecial 27) 3 9 := ⟨by decide +kernel, rfl⟩
theorem i2_9 : Ins jdk_42_method_3_code 9 (.return_) 1 10 := ⟨by decide +kernel, rfl⟩
theorem i3_0 : Ins jdk_42_method_149_code 0 (.aload_n 0) 1 1 := ⟨by decide +kernel, rfl⟩
theorem i3_1 : Ins jdk_42_method_149_code 1 (.invokespecial 1) 3 4 := ⟨by decide +kernel, rfl⟩
theorem i3_4 : Ins jdk_42_method_149_code 4 (.iload_n 3) 1 5 := ⟨by decide +kernel, rfl⟩
theorem i3_5 : Ins jdk_42_method_149_code 5 (.ifCond .ne 22) 3 8 := ⟨by decide +kernel, rfl⟩
theorem i3_8 : Ins jdk_42_method_149_code 8 (.aload_n 0) 1 9 := ⟨by decide +kernel, rfl⟩
theorem i3_9 : Ins jdk_42_method_149_code 9 (.ldc 7) 2 11 := ⟨by decide +kernel, rfl⟩
theorem i3_11 : Ins jdk_42_method_149_code 11 (.getfield 9) 3 14 := ⟨by decide +kernel, rfl⟩
theorem i3_14 : Ins jdk_42_method_149_code 14 (.putfield 9) 3 17 := ⟨by decide +kernel, rfl⟩
theorem i3_17 : Ins jdk_42_method_149_code 17 (.aload_n 0) 1 18 := ⟨by decide +kernel, rfl⟩
theorem i3_18 : Ins jdk_42_method_149_code 18 (.ldc 7) 2 20 := ⟨by decide +kernel, rfl⟩
theorem i3_20 : Ins jdk_42_method_149_code 20 (.getfield 15) 3 23 := ⟨by decide +kernel, rfl⟩
theorem i3_23 : Ins jdk_42_method_149_code 23 (.putfield 15) 3 26 := ⟨by decide +kernel, rfl⟩
theorem i3_26 : Ins jdk_42_method_149_code 26 (.return_) 1 27 := ⟨by decide +kernel, rfl⟩
theorem i3_27 : Ins jdk_42_method_149_code 27 (.getstatic 38) 3 30 := ⟨by decide +kernel, rfl⟩
theorem i3_30 : Ins jdk_42_method_149_code 30 (.ifCond .eq 28) 3 33 := ⟨by decide +kernel, rfl⟩
theorem i3_33 : Ins jdk_42_method_149_code 33 (.aload_n 1) 1 34 := ⟨by decide +kernel, rfl⟩
theorem i3_34 : Ins jdk_42_method_149_code 34 (.iload_n 2) 1 35 := ⟨by decide +kernel, rfl⟩
theorem i3_35 : Ins jdk_42_method_149_code 35 (.iload_n 3) 1 36 := ⟨by decide +kernel, rfl⟩
theorem i3_36 : Ins jdk_42_method_149_code 36 (.invokestatic 177) 3 39 := ⟨by decide +kernel, rfl⟩
theorem i3_39 : Ins jdk_42_method_149_code 39 (.astore 5) 2 41 := ⟨by decide +kernel, rfl⟩
theorem i3_41 : Ins jdk_42_method_149_code 41 (.aload_n 0) 1 42 := ⟨by decide +kernel, rfl⟩
theorem i3_42 : Ins jdk_42_method_149_code 42 (.aload 5) 2 44 := ⟨by decide +kernel, rfl⟩
theorem i3_44 : Ins jdk_42_method_149_code 44 (.iload_n 3) 1 45 := ⟨by decide +kernel, rfl⟩
theorem i3_45 : Ins jdk_42_method_149_code 45 (.invokestatic 47) 3 48 := ⟨by decide +kernel, rfl⟩
theorem i3_48 : Ins jdk_42_method_149_code 48 (.putfield 15) 3 51 := ⟨by decide +kernel, rfl⟩
theorem i3_51 : Ins jdk_42_method_149_code 51 (.aload_n 0) 1 52 := ⟨by decide +kernel, rfl⟩
theorem i3_52 : Ins jdk_42_method_149_code 52 (.aload 5) 2 54 := ⟨by decide +kernel, rfl⟩
theorem i3_54 : Ins jdk_42_method_149_code 54 (.putfield 9) 3 57 := ⟨by decide +kernel, rfl⟩
theorem i3_57 : Ins jdk_42_method_149_code 57 (.return_) 1 58 := ⟨by decide +kernel, rfl⟩
theorem i5_0 : Ins prog_25_method_2_code 0 (.new 24) 3 3 := ⟨by decide +kernel, rfl⟩
theorem i5_3 : Ins prog_25_method_2_code 3 (.dup) 1 4 := ⟨by decide +kernel, rfl⟩
theorem i5_4 : Ins prog_25_method_2_code 4 (.invokespecial 26) 3 7 := ⟨by decide +kernel, rfl⟩
theorem i5_7 : Ins prog_25_method_2_code 7 (.ldc 27) 2 9 := ⟨by decide +kernel, rfl⟩
theorem i5_9 : Ins prog_25_method_2_code 9 (.invokevirtual 29) 3 12 := ⟨by decide +kernel, rfl⟩
theorem i5_12 : Ins prog_25_method_2_code 12 (.aload_n 0) 1 13 := ⟨by decide +kernel, rfl⟩
theorem i5_13 : Ins prog_25_method_2_code 13 (.invokevirtual 29) 3 16 := ⟨by decide +kernel, rfl⟩
theorem i5_16 : Ins prog_25_method_2_code 16 (.invokevirtual 33) 3 19 := ⟨by decide +kernel, rfl⟩
theorem i5_19 : Ins prog_25_method_2_code 19 (.getstatic 37) 3 22 := ⟨by decide +kernel, rfl⟩
theorem i5_22 : Ins prog_25_method_2_code 22 (.invokevirtual 43) 3 25 := ⟨by decide +kernel, rfl⟩
theorem i5_25 : Ins prog_25_method_2_code 25 (.astore_n 1) 1 26 := ⟨by decide +kernel, rfl⟩
theorem i5_26 : Ins prog_25_method_2_code 26 (.new 8) 3 29 := ⟨by decide +kernel, rfl⟩
theorem i5_29 : Ins prog_25_method_2_code 29 (.dup) 1 30 := ⟨by decide +kernel, rfl⟩
theorem i5_30 : Ins prog_25_method_2_code 30 (.getstatic 49) 3 33 := ⟨by decide +kernel, rfl⟩
theorem i5_33 : Ins prog_25_method_2_code 33 (.aconst_null) 1 34 := ⟨by decide +kernel, rfl⟩
theorem i5_34 : Ins prog_25_method_2_code 34 (.aconst_null) 1 35 := ⟨by decide +kernel, rfl⟩
theorem i5_35 : Ins prog_25_method_2_code 35 (.aload_n 1) 1 36 := ⟨by decide +kernel, rfl⟩
theorem i5_36 : Ins prog_25_method_2_code 36 (.invokespecial 54) 3 39 := ⟨by decide +kernel, rfl⟩
theorem i5_39 : Ins prog_25_method_2_code 39 (.areturn) 1 40 := ⟨by decide +kernel, rfl⟩
theorem i6_0 : Ins jdk_67_method_1_code 0 (.aload_n 0) 1 1 := ⟨by decide +kernel, rfl⟩
theorem i6_1 : Ins jdk_67_method_1_code 1 (.bipush 16) 2 3 := ⟨by decide +kernel, rfl⟩
theorem i6_3 : Ins jdk_67_method_1_code 3 (.invokespecial 1) 3 6 := ⟨by decide +kernel, rfl⟩
theorem i6_6 : Ins jdk_67_method_1_code 6 (.return_) 1 7 := ⟨by decide +kernel, rfl⟩
theorem i7_0 : Ins jdk_68_method_2_code 0 (.aload_n 0) 1 1 := ⟨by decide +kernel, rfl⟩
theorem i7_1 : Ins jdk_68_method_2_code 1 (.invokespecial 3) 3 4 := ⟨by decide +kernel, rfl⟩
theorem i7_4 : Ins jdk_68_method_2_code 4 (.getstatic 18) 3 7 := ⟨by decide +kernel, rfl⟩
theorem i7_7 : Ins jdk_68_method_2_code 7 (.ifCond .eq 18) 3 10 := ⟨by decide +kernel, rfl⟩
theorem i7_10 : Ins jdk_68_method_2_code 10 (.aload_n 0) 1 11 := ⟨by decide +kernel, rfl⟩
theorem i7_11 : Ins jdk_68_method_2_code 11 (.iload_n 1) 1 12 := ⟨by decide +kernel, rfl⟩
theorem i7_12 : Ins jdk_68_method_2_code 12 (.newarray .byte) 2 14 := ⟨by decide +kernel, rfl⟩
theorem i7_14 : Ins jdk_68_method_2_code 14 (.putfield 15) 3 17 := ⟨by decide +kernel, rfl⟩
theorem i7_17 : Ins jdk_68_method_2_code 17 (.aload_n 0) 1 18 := ⟨by decide +kernel, rfl⟩
theorem i7_18 : Ins jdk_68_method_2_code 18 (.iconst 0) 1 19 := ⟨by decide +kernel, rfl⟩
theorem i7_19 : Ins jdk_68_method_2_code 19 (.putfield 22) 3 22 := ⟨by decide +kernel, rfl⟩
theorem i7_22 : Ins jdk_68_method_2_code 22 (.goto 16) 3 25 := ⟨by decide +kernel, rfl⟩
theorem i7_38 : Ins jdk_68_method_2_code 38 (.return_) 1 39 := ⟨by decide +kernel, rfl⟩
theorem i8_0 : Ins jdk_67_method_7_code 0 (.aload_n 0) 1 1 := ⟨by decide +kernel, rfl⟩
theorem i8_1 : Ins jdk_67_method_7_code 1 (.aload_n 1) 1 2 := ⟨by decide +kernel, rfl⟩
theorem i8_2 : Ins jdk_67_method_7_code 2 (.invokespecial 29) 3 5 := ⟨by decide +kernel, rfl⟩
theorem i8_5 : Ins jdk_67_method_7_code 5 (.pop) 1 6 := ⟨by decide +kernel, rfl⟩
theorem i8_6 : Ins jdk_67_method_7_code 6 (.aload_n 0) 1 7 := ⟨by decide +kernel, rfl⟩
theorem i8_7 : Ins jdk_67_method_7_code 7 (.areturn) 1 8 := ⟨by decide +kernel, rfl⟩
theorem i9_0 : Ins jdk_68_method_22_code 0 (.aload_n 1) 1 1 := ⟨by decide +kernel, rfl⟩
theorem i9_1 : Ins jdk_68_method_22_code 1 (.ifnonnull 8) 3 4 := ⟨by decide +kernel, rfl⟩
theorem i9_9 : Ins jdk_68_method_22_code 9 (.aload_n 1) 1 10 := ⟨by decide +kernel, rfl⟩
theorem i9_10 : Ins jdk_68_method_22_code 10 (.invokevirtual 32) 3 13 := ⟨by decide +kernel, rfl⟩
theorem i9_13 : Ins jdk_68_method_22_code 13 (.istore_n 2) 1 14 := ⟨by decide +kernel, rfl⟩
theorem i9_14 : Ins jdk_68_method_22_code 14 (.aload_n 0) 1 15 := ⟨by decide +kernel, rfl⟩
theorem i9_15 : Ins jdk_68_method_22_code 15 (.aload_n 0) 1 16 := ⟨by decide +kernel, rfl⟩
theorem i9_16 : Ins jdk_68_method_22_code 16 (.getfield 79) 3 19 := ⟨by decide +kernel, rfl⟩
theorem i9_19 : Ins jdk_68_method_22_code 19 (.iload_n 2) 1 20 := ⟨by decide +kernel, rfl⟩
theorem i9_20 : Ins jdk_68_method_22_code 20 (.iadd) 1 21 := ⟨by decide +kernel, rfl⟩
theorem i9_21 : Ins jdk_68_method_22_code 21 (.invokevirtual 100) 3 24 := ⟨by decide +kernel, rfl⟩
theorem i9_24 : Ins jdk_68_method_22_code 24 (.aload_n 0) 1 25 := ⟨by decide +kernel, rfl⟩
theorem i9_25 : Ins jdk_68_method_22_code 25 (.aload_n 0) 1 26 := ⟨by decide +kernel, rfl⟩
theorem i9_26 : Ins jdk_68_method_22_code 26 (.getfield 79) 3 29 := ⟨by decide +kernel, rfl⟩
theorem i9_29 : Ins jdk_68_method_22_code 29 (.aload_n 1) 1 30 := ⟨by decide +kernel, rfl⟩
theorem i9_30 : Ins jdk_68_method_22_code 30 (.invokevirtual 208) 3 33 := ⟨by decide +kernel, rfl⟩
theorem i9_33 : Ins jdk_68_method_22_code 33 (.aload_n 0) 1 34 := ⟨by decide +kernel, rfl⟩
theorem i9_34 : Ins jdk_68_method_22_code 34 (.dup) 1 35 := ⟨by decide +kernel, rfl⟩
theorem i9_35 : Ins jdk_68_method_22_code 35 (.getfield 79) 3 38 := ⟨by decide +kernel, rfl⟩
theorem i9_38 : Ins jdk_68_method_22_code 38 (.iload_n 2) 1 39 := ⟨by decide +kernel, rfl⟩
theorem i9_39 : Ins jdk_68_method_22_code 39 (.iadd) 1 40 := ⟨by decide +kernel, rfl⟩
theorem i9_40 : Ins jdk_68_method_22_code 40 (.putfield 79) 3 43 := ⟨by decide +kernel, rfl⟩
theorem i9_43 : Ins jdk_68_method_22_code 43 (.aload_n 0) 1 44 := ⟨by decide +kernel, rfl⟩
theorem i9_44 : Ins jdk_68_method_22_code 44 (.areturn) 1 45 := ⟨by decide +kernel, rfl⟩
theorem i10_0 : Ins jdk_42_method_54_code 0 (.aload_n 0) 1 1 := ⟨by decide +kernel, rfl⟩
theorem i10_1 : Ins jdk_42_method_54_code 1 (.getfield 9) 3 4 := ⟨by decide +kernel, rfl⟩
theorem i10_4 : Ins jdk_42_method_54_code 4 (.arraylength) 1 5 := ⟨by decide +kernel, rfl⟩
theorem i10_5 : Ins jdk_42_method_54_code 5 (.aload_n 0) 1 6 := ⟨by decide +kernel, rfl⟩
theorem i10_6 : Ins jdk_42_method_54_code 6 (.invokevirtual 335) 3 9 := ⟨by decide +kernel, rfl⟩
theorem i10_9 : Ins jdk_42_method_54_code 9 (.ishr) 1 10 := ⟨by decide +kernel, rfl⟩
theorem i10_10 : Ins jdk_42_method_54_code 10 (.ireturn) 1 11 := ⟨by decide +kernel, rfl⟩
theorem i11_0 : Ins jdk_42_method_152_code 0 (.getstatic 38) 3 3 := ⟨by decide +kernel, rfl⟩
theorem i11_3 : Ins jdk_42_method_152_code 3 (.ifCond .eq 10) 3 6 := ⟨by decide +kernel, rfl⟩
theorem i11_6 : Ins jdk_42_method_152_code 6 (.aload_n 0) 1 7 := ⟨by decide +kernel, rfl⟩
theorem i11_7 : Ins jdk_42_method_152_code 7 (.getfield 15) 3 10 := ⟨by decide +kernel, rfl⟩
theorem i11_10 : Ins jdk_42_method_152_code 10 (.goto 4) 3 13 := ⟨by decide +kernel, rfl⟩
theorem i11_14 : Ins jdk_42_method_152_code 14 (.ireturn) 1 15 := ⟨by decide +kernel, rfl⟩
theorem i12_0 : Ins jdk_68_method_9_code 0 (.aload_n 0) 1 1 := ⟨by decide +kernel, rfl⟩
theorem i12_1 : Ins jdk_68_method_9_code 1 (.getfield 15) 3 4 := ⟨by decide +kernel, rfl⟩
theorem i12_4 : Ins jdk_68_method_9_code 4 (.arraylength) 1 5 := ⟨by decide +kernel, rfl⟩
theorem i12_5 : Ins jdk_68_method_9_code 5 (.aload_n 0) 1 6 := ⟨by decide +kernel, rfl⟩
theorem i12_6 : Ins jdk_68_method_9_code 6 (.getfield 22) 3 9 := ⟨by decide +kernel, rfl⟩
theorem i12_9 : Ins jdk_68_method_9_code 9 (.ishr) 1 10 := ⟨by decide +kernel, rfl⟩
theorem i12_10 : Ins jdk_68_method_9_code 10 (.istore_n 2) 1 11 := ⟨by decide +kernel, rfl⟩
theorem i12_11 : Ins jdk_68_method_9_code 11 (.iload_n 1) 1 12 := ⟨by decide +kernel, rfl⟩
theorem i12_12 : Ins jdk_68_method_9_code 12 (.iload_n 2) 1 13 := ⟨by decide +kernel, rfl⟩
theorem i12_13 : Ins jdk_68_method_9_code 13 (.isub) 1 14 := ⟨by decide +kernel, rfl⟩
theorem i12_14 : Ins jdk_68_method_9_code 14 (.ifCond .le 24) 3 17 := ⟨by decide +kernel, rfl⟩
theorem i12_38 : Ins jdk_68_method_9_code 38 (.return_) 1 39 := ⟨by decide +kernel, rfl⟩
theorem i13_0 : Ins jdk_68_method_73_code 0 (.aload_n 0) 1 1 := ⟨by decide +kernel, rfl⟩
theorem i13_1 : Ins jdk_68_method_73_code 1 (.aload_n 2) 1 2 := ⟨by decide +kernel, rfl⟩
theorem i13_2 : Ins jdk_68_method_73_code 2 (.invokevirtual 397) 3 5 := ⟨by decide +kernel, rfl⟩
theorem i13_5 : Ins jdk_68_method_73_code 5 (.aload_n 2) 1 6 := ⟨by decide +kernel, rfl⟩
theorem i13_6 : Ins jdk_68_method_73_code 6 (.aload_n 0) 1 7 := ⟨by decide +kernel, rfl⟩
theorem i13_7 : Ins jdk_68_method_73_code 7 (.getfield 15) 3 10 := ⟨by decide +kernel, rfl⟩
theorem i13_10 : Ins jdk_68_method_73_code 10 (.iload_n 1) 1 11 := ⟨by decide +kernel, rfl⟩
theorem i13_11 : Ins jdk_68_method_73_code 11 (.aload_n 0) 1 12 := ⟨by decide +kernel, rfl⟩
theorem i13_12 : Ins jdk_68_method_73_code 12 (.getfield 22) 3 15 := ⟨by decide +kernel, rfl⟩
theorem i13_15 : Ins jdk_68_method_73_code 15 (.invokevirtual 399) 3 18 := ⟨by decide +kernel, rfl⟩
theorem i13_18 : Ins jdk_68_method_73_code 18 (.return_) 1 19 := ⟨by decide +kernel, rfl⟩
theorem i14_0 : Ins jdk_68_method_71_code 0 (.getstatic 18) 3 3 := ⟨by decide +kernel, rfl⟩
theorem i14_3 : Ins jdk_68_method_71_code 3 (.ifCond .eq 18) 3 6 := ⟨by decide +kernel, rfl⟩
theorem i14_6 : Ins jdk_68_method_71_code 6 (.aload_n 0) 1 7 := ⟨by decide +kernel, rfl⟩
theorem i14_7 : Ins jdk_68_method_71_code 7 (.getfield 22) 3 10 := ⟨by decide +kernel, rfl⟩
theorem i14_10 : Ins jdk_68_method_71_code 10 (.aload_n 1) 1 11 := ⟨by decide +kernel, rfl⟩
theorem i14_11 : Ins jdk_68_method_71_code 11 (.invokevirtual 40) 3 14 := ⟨by decide +kernel, rfl⟩
theorem i14_14 : Ins jdk_68_method_71_code 14 (.if_icmp .eq 7) 3 17 := ⟨by decide +kernel, rfl⟩
theorem i14_17 : Ins jdk_68_method_71_code 17 (.aload_n 0) 1 18 := ⟨by decide +kernel, rfl⟩
theorem i14_18 : Ins jdk_68_method_71_code 18 (.invokevirtual 195) 3 21 := ⟨by decide +kernel, rfl⟩
theorem i14_21 : Ins jdk_68_method_71_code 21 (.return_) 1 22 := ⟨by decide +kernel, rfl⟩
theorem i15_0 : Ins jdk_42_method_147_code 0 (.aload_n 0) 1 1 := ⟨by decide +kernel, rfl⟩
theorem i15_1 : Ins jdk_42_method_147_code 1 (.invokevirtual 335) 3 4 := ⟨by decide +kernel, rfl⟩
theorem i15_4 : Ins jdk_42_method_147_code 4 (.iload_n 3) 1 5 := ⟨by decide +kernel, rfl⟩
theorem i15_5 : Ins jdk_42_method_147_code 5 (.if_icmp .ne 23) 3 8 := ⟨by decide +kernel, rfl⟩
theorem i15_8 : Ins jdk_42_method_147_code 8 (.aload_n 0) 1 9 := ⟨by decide +kernel, rfl⟩
theorem i15_9 : Ins jdk_42_method_147_code 9 (.getfield 9) 3 12 := ⟨by decide +kernel, rfl⟩
theorem i15_12 : Ins jdk_42_method_147_code 12 (.iconst 0) 1 13 := ⟨by decide +kernel, rfl⟩
theorem i15_13 : Ins jdk_42_method_147_code 13 (.aload_n 1) 1 14 := ⟨by decide +kernel, rfl⟩
theorem i15_14 : Ins jdk_42_method_147_code 14 (.iload_n 2) 1 15 := ⟨by decide +kernel, rfl⟩
theorem i15_15 : Ins jdk_42_method_147_code 15 (.iload_n 3) 1 16 := ⟨by decide +kernel, rfl⟩
theorem i15_16 : Ins jdk_42_method_147_code 16 (.ishl) 1 17 := ⟨by decide +kernel, rfl⟩
theorem i15_17 : Ins jdk_42_method_147_code 17 (.aload_n 0) 1 18 := ⟨by decide +kernel, rfl⟩
theorem i15_18 : Ins jdk_42_method_147_code 18 (.getfield 9) 3 21 := ⟨by decide +kernel, rfl⟩
theorem i15_21 : Ins jdk_42_method_147_code 21 (.arraylength) 1 22 := ⟨by decide +kernel, rfl⟩
theorem i15_22 : Ins jdk_42_method_147_code 22 (.invokestatic 212) 3 25 := ⟨by decide +kernel, rfl⟩
theorem i15_25 : Ins jdk_42_method_147_code 25 (.goto 18) 3 28 := ⟨by decide +kernel, rfl⟩
theorem i15_43 : Ins jdk_42_method_147_code 43 (.return_) 1 44 := ⟨by decide +kernel, rfl⟩
theorem i16_0 : Ins jdk_67_method_42_code 0 (.new 18) 3 3 := ⟨by decide +kernel, rfl⟩
theorem i16_3 : Ins jdk_67_method_42_code 3 (.dup) 1 4 := ⟨by decide +kernel, rfl⟩
theorem i16_4 : Ins jdk_67_method_42_code 4 (.aload_n 0) 1 5 := ⟨by decide +kernel, rfl⟩
theorem i16_5 : Ins jdk_67_method_42_code 5 (.invokespecial 137) 3 8 := ⟨by decide +kernel, rfl⟩
theorem i16_8 : Ins jdk_67_method_42_code 8 (.areturn) 1 9 := ⟨by decide +kernel, rfl⟩
theorem i17_0 : Ins jdk_42_method_53_code 0 (.aload_n 0) 1 1 := ⟨by decide +kernel, rfl⟩
theorem i17_1 : Ins jdk_42_method_53_code 1 (.aload_n 1) 1 2 := ⟨by decide +kernel, rfl⟩
theorem i17_2 : Ins jdk_42_method_53_code 2 (.aconst_null) 1 3 := ⟨by decide +kernel, rfl⟩
theorem i17_3 : Ins jdk_42_method_53_code 3 (.invokespecial 489) 3 6 := ⟨by decide +kernel, rfl⟩
theorem i17_6 : Ins jdk_42_method_53_code 6 (.return_) 1 7 := ⟨by decide +kernel, rfl⟩
theorem i18_0 : Ins jdk_42_method_150_code 0 (.aload_n 0) 1 1 := ⟨by decide +kernel, rfl⟩
theorem i18_1 : Ins jdk_42_method_150_code 1 (.invokespecial 1) 3 4 := ⟨by decide +kernel, rfl⟩
theorem i18_4 : Ins jdk_42_method_150_code 4 (.aload_n 1) 1 5 := ⟨by decide +kernel, rfl⟩
theorem i18_5 : Ins jdk_42_method_150_code 5 (.invokevirtual 552) 3 8 := ⟨by decide +kernel, rfl⟩
theorem i18_8 : Ins jdk_42_method_150_code 8 (.astore_n 3) 1 9 := ⟨by decide +kernel, rfl⟩
theorem i18_9 : Ins jdk_42_method_150_code 9 (.aload_n 1) 1 10 := ⟨by decide +kernel, rfl⟩
theorem i18_10 : Ins jdk_42_method_150_code 10 (.invokevirtual 549) 3 13 := ⟨by decide +kernel, rfl⟩
theorem i18_13 : Ins jdk_42_method_150_code 13 (.istore 4) 2 15 := ⟨by decide +kernel, rfl⟩
theorem i18_15 : Ins jdk_42_method_150_code 15 (.aload_n 1) 1 16 := ⟨by decide +kernel, rfl⟩
theorem i18_16 : Ins jdk_42_method_150_code 16 (.invokevirtual 1047) 3 19 := ⟨by decide +kernel, rfl⟩
theorem i18_19 : Ins jdk_42_method_150_code 19 (.ifCond .eq 22) 3 22 := ⟨by decide +kernel, rfl⟩
theorem i18_22 : Ins jdk_42_method_150_code 22 (.aload_n 0) 1 23 := ⟨by decide +kernel, rfl⟩
theorem i18_23 : Ins jdk_42_method_150_code 23 (.iconst 0) 1 24 := ⟨by decide +kernel, rfl⟩
theorem i18_24 : Ins jdk_42_method_150_code 24 (.putfield 15) 3 27 := ⟨by decide +kernel, rfl⟩
theorem i18_27 : Ins jdk_42_method_150_code 27 (.aload_n 0) 1 28 := ⟨by decide +kernel, rfl⟩
theorem i18_28 : Ins jdk_42_method_150_code 28 (.aload_n 3) 1 29 := ⟨by decide +kernel, rfl⟩
theorem i18_29 : Ins jdk_42_method_150_code 29 (.iconst 0) 1 30 := ⟨by decide +kernel, rfl⟩
theorem i18_30 : Ins jdk_42_method_150_code 30 (.iload 4) 2 32 := ⟨by decide +kernel, rfl⟩
theorem i18_32 : Ins jdk_42_method_150_code 32 (.invokestatic 54) 3 35 := ⟨by decide +kernel, rfl⟩
theorem i18_35 : Ins jdk_42_method_150_code 35 (.putfield 9) 3 38 := ⟨by decide +kernel, rfl⟩
theorem i18_38 : Ins jdk_42_method_150_code 38 (.goto 59) 3 41 := ⟨by decide +kernel, rfl⟩
theorem i18_41 : Ins jdk_42_method_150_code 41 (.getstatic 38) 3 44 := ⟨by decide +kernel, rfl⟩
theorem i18_44 : Ins jdk_42_method_150_code 44 (.ifCond .eq 35) 3 47 := ⟨by decide +kernel, rfl⟩
theorem i18_47 : Ins jdk_42_method_150_code 47 (.aload_n 1) 1 48 := ⟨by decide +kernel, rfl⟩
theorem i18_48 : Ins jdk_42_method_150_code 48 (.getfield 1048) 3 51 := ⟨by decide +kernel, rfl⟩
theorem i18_51 : Ins jdk_42_method_150_code 51 (.ifCond .eq 28) 3 54 := ⟨by decide +kernel, rfl⟩
theorem i18_79 : Ins jdk_42_method_150_code 79 (.aload_n 0) 1 80 := ⟨by decide +kernel, rfl⟩
theorem i18_80 : Ins jdk_42_method_150_code 80 (.iconst 1) 1 81 := ⟨by decide +kernel, rfl⟩
theorem i18_81 : Ins jdk_42_method_150_code 81 (.putfield 15) 3 84 := ⟨by decide +kernel, rfl⟩
theorem i18_84 : Ins jdk_42_method_150_code 84 (.aload_n 0) 1 85 := ⟨by decide +kernel, rfl⟩
theorem i18_85 : Ins jdk_42_method_150_code 85 (.aload_n 3) 1 86 := ⟨by decide +kernel, rfl⟩
theorem i18_86 : Ins jdk_42_method_150_code 86 (.iconst 0) 1 87 := ⟨by decide +kernel, rfl⟩
theorem i18_87 : Ins jdk_42_method_150_code 87 (.iload 4) 2 89 := ⟨by decide +kernel, rfl⟩
theorem i18_89 : Ins jdk_42_method_150_code 89 (.iconst 1) 1 90 := ⟨by decide +kernel, rfl⟩
theorem i18_90 : Ins jdk_42_method_150_code 90 (.ishl) 1 91 := ⟨by decide +kernel, rfl⟩
theorem i18_91 : Ins jdk_42_method_150_code 91 (.invokestatic 54) 3 94 := ⟨by decide +kernel, rfl⟩
theorem i18_94 : Ins jdk_42_method_150_code 94 (.putfield 9) 3 97 := ⟨by decide +kernel, rfl⟩
theorem i18_97 : Ins jdk_42_method_150_code 97 (.return_) 1 98 := ⟨by decide +kernel, rfl⟩
theorem i19_0 : Ins jdk_68_method_64_code 0 (.aload_n 0) 1 1 := ⟨by decide +kernel, rfl⟩
theorem i19_1 : Ins jdk_68_method_64_code 1 (.getfield 15) 3 4 := ⟨by decide +kernel, rfl⟩
theorem i19_4 : Ins jdk_68_method_64_code 4 (.areturn) 1 5 := ⟨by decide +kernel, rfl⟩
theorem i20_0 : Ins jdk_67_method_93_code 0 (.aload_n 0) 1 1 := ⟨by decide +kernel, rfl⟩
theorem i20_1 : Ins jdk_67_method_93_code 1 (.invokespecial 343) 3 4 := ⟨by decide +kernel, rfl⟩
theorem i20_4 : Ins jdk_67_method_93_code 4 (.ireturn) 1 5 := ⟨by decide +kernel, rfl⟩
theorem i21_0 : Ins jdk_68_method_6_code 0 (.aload_n 0) 1 1 := ⟨by decide +kernel, rfl⟩
theorem i21_1 : Ins jdk_68_method_6_code 1 (.getfield 79) 3 4 := ⟨by decide +kernel, rfl⟩
theorem i21_4 : Ins jdk_68_method_6_code 4 (.ireturn) 1 5 := ⟨by decide +kernel, rfl⟩
theorem i22_0 : Ins jdk_68_method_68_code 0 (.getstatic 18) 3 3 := ⟨by decide +kernel, rfl⟩
theorem i22_3 : Ins jdk_68_method_68_code 3 (.ifCond .eq 14) 3 6 := ⟨by decide +kernel, rfl⟩
theorem i22_6 : Ins jdk_68_method_68_code 6 (.aload_n 0) 1 7 := ⟨by decide +kernel, rfl⟩
theorem i22_7 : Ins jdk_68_method_68_code 7 (.getfield 22) 3 10 := ⟨by decide +kernel, rfl⟩
theorem i22_10 : Ins jdk_68_method_68_code 10 (.ifCond .ne 7) 3 13 := ⟨by decide +kernel, rfl⟩
theorem i22_13 : Ins jdk_68_method_68_code 13 (.iconst 1) 1 14 := ⟨by decide +kernel, rfl⟩
theorem i22_14 : Ins jdk_68_method_68_code 14 (.goto 4) 3 17 := ⟨by decide +kernel, rfl⟩
theorem i22_17 : Ins jdk_68_method_68_code 17 (.iconst 0) 1 18 := ⟨by decide +kernel, rfl⟩
theorem i22_18 : Ins jdk_68_method_68_code 18 (.ireturn) 1 19 := ⟨by decide +kernel, rfl⟩
theorem i23_0 : Ins jdk_65_method_132_code 0 (.iload_n 1) 1 1 := ⟨by decide +kernel, rfl⟩
theorem i23_1 : Ins jdk_65_method_132_code 1 (.ifCond .ne 9) 3 4 := ⟨by decide +kernel, rfl⟩
theorem i23_4 : Ins jdk_65_method_132_code 4 (.iload_n 2) 1 5 := ⟨by decide +kernel, rfl⟩
theorem i23_5 : Ins jdk_65_method_132_code 5 (.aload_n 0) 1 6 := ⟨by decide +kernel, rfl⟩
theorem i23_6 : Ins jdk_65_method_132_code 6 (.arraylength) 1 7 := ⟨by decide +kernel, rfl⟩
theorem i23_7 : Ins jdk_65_method_132_code 7 (.if_icmp .eq 10) 3 10 := ⟨by decide +kernel, rfl⟩
theorem i23_10 : Ins jdk_65_method_132_code 10 (.aload_n 0) 1 11 := ⟨by decide +kernel, rfl⟩
theorem i23_11 : Ins jdk_65_method_132_code 11 (.iload_n 1) 1 12 := ⟨by decide +kernel, rfl⟩
theorem i23_12 : Ins jdk_65_method_132_code 12 (.iload_n 2) 1 13 := ⟨by decide +kernel, rfl⟩
theorem i23_13 : Ins jdk_65_method_132_code 13 (.invokestatic 339) 3 16 := ⟨by decide +kernel, rfl⟩
theorem i23_16 : Ins jdk_65_method_132_code 16 (.areturn) 1 17 := ⟨by decide +kernel, rfl⟩
theorem i24_0 : Ins jdk_65_method_133_code 0 (.iload_n 1) 1 1 := ⟨by decide +kernel, rfl⟩
theorem i24_1 : Ins jdk_65_method_133_code 1 (.iload_n 2) 1 2 := ⟨by decide +kernel, rfl⟩
theorem i24_2 : Ins jdk_65_method_133_code 2 (.invokestatic 343) 3 5 := ⟨by decide +kernel, rfl⟩
theorem i24_5 : Ins jdk_65_method_133_code 5 (.iload_n 2) 1 6 := ⟨by decide +kernel, rfl⟩
theorem i24_6 : Ins jdk_65_method_133_code 6 (.iload_n 1) 1 7 := ⟨by decide +kernel, rfl⟩
theorem i24_7 : Ins jdk_65_method_133_code 7 (.isub) 1 8 := ⟨by decide +kernel, rfl⟩
theorem i24_8 : Ins jdk_65_method_133_code 8 (.istore_n 3) 1 9 := ⟨by decide +kernel, rfl⟩
theorem i24_9 : Ins jdk_65_method_133_code 9 (.iload_n 3) 1 10 := ⟨by decide +kernel, rfl⟩
theorem i24_10 : Ins jdk_65_method_133_code 10 (.newarray .byte) 2 12 := ⟨by decide +kernel, rfl⟩
theorem i24_12 : Ins jdk_65_method_133_code 12 (.astore 4) 2 14 := ⟨by decide +kernel, rfl⟩
theorem i24_14 : Ins jdk_65_method_133_code 14 (.aload_n 0) 1 15 := ⟨by decide +kernel, rfl⟩
theorem i24_15 : Ins jdk_65_method_133_code 15 (.iload_n 1) 1 16 := ⟨by decide +kernel, rfl⟩
theorem i24_16 : Ins jdk_65_method_133_code 16 (.aload 4) 2 18 := ⟨by decide +kernel, rfl⟩
theorem i24_18 : Ins jdk_65_method_133_code 18 (.iconst 0) 1 19 := ⟨by decide +kernel, rfl⟩
theorem i24_19 : Ins jdk_65_method_133_code 19 (.aload_n 0) 1 20 := ⟨by decide +kernel, rfl⟩
theorem i24_20 : Ins jdk_65_method_133_code 20 (.arraylength) 1 21 := ⟨by decide +kernel, rfl⟩
theorem i24_21 : Ins jdk_65_method_133_code 21 (.iload_n 1) 1 22 := ⟨by decide +kernel, rfl⟩
theorem i24_22 : Ins jdk_65_method_133_code 22 (.isub) 1 23 := ⟨by decide +kernel, rfl⟩
theorem i24_23 : Ins jdk_65_method_133_code 23 (.iload_n 3) 1 24 := ⟨by decide +kernel, rfl⟩
theorem i24_24 : Ins jdk_65_method_133_code 24 (.invokestatic 304) 3 27 := ⟨by decide +kernel, rfl⟩
theorem i24_27 : Ins jdk_65_method_133_code 27 (.invokestatic 150) 3 30 := ⟨by decide +kernel, rfl⟩
theorem i24_30 : Ins jdk_65_method_133_code 30 (.aload 4) 2 32 := ⟨by decide +kernel, rfl⟩
theorem i24_32 : Ins jdk_65_method_133_code 32 (.areturn) 1 33 := ⟨by decide +kernel, rfl⟩
theorem i25_0 : Ins jdk_65_method_131_code 0 (.iload_n 1) 1 1 := ⟨by decide +kernel, rfl⟩
theorem i25_1 : Ins jdk_65_method_131_code 1 (.iload_n 0) 1 2 := ⟨by decide +kernel, rfl⟩
theorem i25_2 : Ins jdk_65_method_131_code 2 (.if_icmp .ge 35) 3 5 := ⟨by decide +kernel, rfl⟩
theorem i25_37 : Ins jdk_65_method_131_code 37 (.return_) 1 38 := ⟨by decide +kernel, rfl⟩
theorem i26_0 : Ins jdk_29_method_69_code 0 (.iload_n 0) 1 1 := ⟨by decide +kernel, rfl⟩
theorem i26_1 : Ins jdk_29_method_69_code 1 (.iload_n 1) 1 2 := ⟨by decide +kernel, rfl⟩
theorem i26_2 : Ins jdk_29_method_69_code 2 (.if_icmp .gt 7) 3 5 := ⟨by decide +kernel, rfl⟩
theorem i26_5 : Ins jdk_29_method_69_code 5 (.iload_n 0) 1 6 := ⟨by decide +kernel, rfl⟩
theorem i26_6 : Ins jdk_29_method_69_code 6 (.goto 4) 3 9 := ⟨by decide +kernel, rfl⟩
theorem i26_9 : Ins jdk_29_method_69_code 9 (.iload_n 1) 1 10 := ⟨by decide +kernel, rfl⟩
theorem i26_10 : Ins jdk_29_method_69_code 10 (.ireturn) 1 11 := ⟨by decide +kernel, rfl⟩
theorem i27_0 : Ins jdk_42_method_64_code 0 (.aload_n 1) 1 1 := ⟨by decide +kernel, rfl⟩
theorem i27_1 : Ins jdk_42_method_64_code 1 (.ifnonnull 11) 3 4 := ⟨by decide +kernel, rfl⟩
theorem i27_12 : Ins jdk_42_method_64_code 12 (.aload_n 1) 1 13 := ⟨by decide +kernel, rfl⟩
theorem i27_13 : Ins jdk_42_method_64_code 13 (.aload_n 0) 1 14 := ⟨by decide +kernel, rfl⟩
theorem i27_14 : Ins jdk_42_method_64_code 14 (.invokevirtual 335) 3 17 := ⟨by decide +kernel, rfl⟩
theorem i27_17 : Ins jdk_42_method_64_code 17 (.aload_n 0) 1 18 := ⟨by decide +kernel, rfl⟩
theorem i27_18 : Ins jdk_42_method_64_code 18 (.getfield 9) 3 21 := ⟨by decide +kernel, rfl⟩
theorem i27_21 : Ins jdk_42_method_64_code 21 (.invokestatic 535) 3 24 := ⟨by decide +kernel, rfl⟩
theorem i27_24 : Ins jdk_42_method_64_code 24 (.areturn) 1 25 := ⟨by decide +kernel, rfl⟩
theorem i28_0 : Ins jdk_42_method_18_code 0 (.aload_n 0) 1 1 := ⟨by decide +kernel, rfl⟩
theorem i28_1 : Ins jdk_42_method_18_code 1 (.getstatic 86) 3 4 := ⟨by decide +kernel, rfl⟩
theorem i28_4 : Ins jdk_42_method_18_code 4 (.if_acmp .ne 10) 3 7 := ⟨by decide +kernel, rfl⟩
theorem i28_7 : Ins jdk_42_method_18_code 7 (.iload_n 1) 1 8 := ⟨by decide +kernel, rfl⟩
theorem i28_8 : Ins jdk_42_method_18_code 8 (.aload_n 2) 1 9 := ⟨by decide +kernel, rfl⟩
theorem i28_9 : Ins jdk_42_method_18_code 9 (.iconst 1) 1 10 := ⟨by decide +kernel, rfl⟩
theorem i28_10 : Ins jdk_42_method_18_code 10 (.invokestatic 252) 3 13 := ⟨by decide +kernel, rfl⟩
theorem i28_13 : Ins jdk_42_method_18_code 13 (.areturn) 1 14 := ⟨by decide +kernel, rfl⟩
theorem i29_0 : Ins jdk_42_method_46_code 0 (.iload_n 0) 1 1 := ⟨by decide +kernel, rfl⟩
theorem i29_1 : Ins jdk_42_method_46_code 1 (.iconst 1) 1 2 := ⟨by decide +kernel, rfl⟩
theorem i29_2 : Ins jdk_42_method_46_code 2 (.if_icmp .ne 9) 3 5 := ⟨by decide +kernel, rfl⟩
theorem i29_5 : Ins jdk_42_method_46_code 5 (.aload_n 1) 1 6 := ⟨by decide +kernel, rfl⟩
theorem i29_6 : Ins jdk_42_method_46_code 6 (.iload_n 2) 1 7 := ⟨by decide +kernel, rfl⟩
theorem i29_7 : Ins jdk_42_method_46_code 7 (.invokestatic 473) 3 10 := ⟨by decide +kernel, rfl⟩
theorem i29_10 : Ins jdk_42_method_46_code 10 (.areturn) 1 11 := ⟨by decide +kernel, rfl⟩
theorem i29_11 : Ins jdk_42_method_46_code 11 (.aload_n 1) 1 12 := ⟨by decide +kernel, rfl⟩
theorem i29_12 : Ins jdk_42_method_46_code 12 (.iconst 0) 1 13 := ⟨by decide +kernel, rfl⟩
theorem i29_13 : Ins jdk_42_method_46_code 13 (.aload_n 1) 1 14 := ⟨by decide +kernel, rfl⟩
theorem i29_14 : Ins jdk_42_method_46_code 14 (.arraylength) 1 15 := ⟨by decide +kernel, rfl⟩
theorem i29_15 : Ins jdk_42_method_46_code 15 (.invokestatic 128) 3 18 := ⟨by decide +kernel, rfl⟩
theorem i29_18 : Ins jdk_42_method_46_code 18 (.ifCond .ne 11) 3 21 := ⟨by decide +kernel, rfl⟩
theorem i29_21 : Ins jdk_42_method_46_code 21 (.aload_n 1) 1 22 := ⟨by decide +kernel, rfl⟩
theorem i29_22 : Ins jdk_42_method_46_code 22 (.invokevirtual 279) 3 25 := ⟨by decide +kernel, rfl⟩
theorem i29_25 : Ins jdk_42_method_46_code 25 (.checkcast 280) 3 28 := ⟨by decide +kernel, rfl⟩
theorem i29_28 : Ins jdk_42_method_46_code 28 (.areturn) 1 29 := ⟨by decide +kernel, rfl⟩
theorem i29_29 : Ins jdk_42_method_46_code 29 (.iconst 0) 1 30 := ⟨by decide +kernel, rfl⟩
theorem i29_30 : Ins jdk_42_method_46_code 30 (.istore_n 3) 1 31 := ⟨by decide +kernel, rfl⟩
theorem i29_31 : Ins jdk_42_method_46_code 31 (.aload_n 1) 1 32 := ⟨by decide +kernel, rfl⟩
theorem i29_32 : Ins jdk_42_method_46_code 32 (.arraylength) 1 33 := ⟨by decide +kernel, rfl⟩
theorem i29_33 : Ins jdk_42_method_46_code 33 (.invokestatic 60) 3 36 := ⟨by decide +kernel, rfl⟩
theorem i29_36 : Ins jdk_42_method_46_code 36 (.astore 4) 2 38 := ⟨by decide +kernel, rfl⟩
theorem i29_38 : Ins jdk_42_method_46_code 38 (.aload_n 1) 1 39 := ⟨by decide +kernel, rfl⟩
theorem i29_39 : Ins jdk_42_method_46_code 39 (.astore 5) 2 41 := ⟨by decide +kernel, rfl⟩
theorem i29_41 : Ins jdk_42_method_46_code 41 (.aload 5) 2 43 := ⟨by decide +kernel, rfl⟩
theorem i29_43 : Ins jdk_42_method_46_code 43 (.arraylength) 1 44 := ⟨by decide +kernel, rfl⟩
theorem i29_44 : Ins jdk_42_method_46_code 44 (.istore 6) 2 46 := ⟨by decide +kernel, rfl⟩
theorem i29_46 : Ins jdk_42_method_46_code 46 (.iconst 0) 1 47 := ⟨by decide +kernel, rfl⟩
theorem i29_47 : Ins jdk_42_method_46_code 47 (.istore 7) 2 49 := ⟨by decide +kernel, rfl⟩
theorem i29_49 : Ins jdk_42_method_46_code 49 (.iload 7) 2 51 := ⟨by decide +kernel, rfl⟩
theorem i29_51 : Ins jdk_42_method_46_code 51 (.iload 6) 2 53 := ⟨by decide +kernel, rfl⟩
theorem i29_53 : Ins jdk_42_method_46_code 53 (.if_icmp .ge 71) 3 56 := ⟨by decide +kernel, rfl⟩
theorem i29_56 : Ins jdk_42_method_46_code 56 (.aload 5) 2 58 := ⟨by decide +kernel, rfl⟩
theorem i29_58 : Ins jdk_42_method_46_code 58 (.iload 7) 2 60 := ⟨by decide +kernel, rfl⟩
theorem i29_60 : Ins jdk_42_method_46_code 60 (.baload) 1 61 := ⟨by decide +kernel, rfl⟩
theorem i29_61 : Ins jdk_42_method_46_code 61 (.istore 8) 2 63 := ⟨by decide +kernel, rfl⟩
theorem i29_63 : Ins jdk_42_method_46_code 63 (.iload 8) 2 65 := ⟨by decide +kernel, rfl⟩
theorem i29_65 : Ins jdk_42_method_46_code 65 (.ifCond .ge 44) 3 68 := ⟨by decide +kernel, rfl⟩
theorem i29_68 : Ins jdk_42_method_46_code 68 (.aload 4) 2 70 := ⟨by decide +kernel, rfl⟩
theorem i29_70 : Ins jdk_42_method_46_code 70 (.iload_n 3) 1 71 := ⟨by decide +kernel, rfl⟩
theorem i29_71 : Ins jdk_42_method_46_code 71 (.iinc 3 1) 3 74 := ⟨by decide +kernel, rfl⟩
theorem i29_74 : Ins jdk_42_method_46_code 74 (.sipush 192) 3 77 := ⟨by decide +kernel, rfl⟩
theorem i29_77 : Ins jdk_42_method_46_code 77 (.iload 8) 2 79 := ⟨by decide +kernel, rfl⟩
theorem i29_79 : Ins jdk_42_method_46_code 79 (.sipush 255) 3 82 := ⟨by decide +kernel, rfl⟩
theorem i29_82 : Ins jdk_42_method_46_code 82 (.iand) 1 83 := ⟨by decide +kernel, rfl⟩
theorem i29_83 : Ins jdk_42_method_46_code 83 (.bipush 6) 2 85 := ⟨by decide +kernel, rfl⟩
theorem i29_85 : Ins jdk_42_method_46_code 85 (.ishr) 1 86 := ⟨by decide +kernel, rfl⟩
theorem i29_86 : Ins jdk_42_method_46_code 86 (.ior) 1 87 := ⟨by decide +kernel, rfl⟩
theorem i29_87 : Ins jdk_42_method_46_code 87 (.i2b) 1 88 := ⟨by decide +kernel, rfl⟩
theorem i29_88 : Ins jdk_42_method_46_code 88 (.bastore) 1 89 := ⟨by decide +kernel, rfl⟩
theorem i29_89 : Ins jdk_42_method_46_code 89 (.aload 4) 2 91 := ⟨by decide +kernel, rfl⟩
theorem i29_91 : Ins jdk_42_method_46_code 91 (.iload_n 3) 1 92 := ⟨by decide +kernel, rfl⟩
theorem i29_92 : Ins jdk_42_method_46_code 92 (.iinc 3 1) 3 95 := ⟨by decide +kernel, rfl⟩
theorem i29_95 : Ins jdk_42_method_46_code 95 (.sipush 128) 3 98 := ⟨by decide +kernel, rfl⟩
theorem i29_98 : Ins jdk_42_method_46_code 98 (.iload 8) 2 100 := ⟨by decide +kernel, rfl⟩
theorem i29_100 : Ins jdk_42_method_46_code 100 (.bipush 63) 2 102 := ⟨by decide +kernel, rfl⟩
theorem i29_102 : Ins jdk_42_method_46_code 102 (.iand) 1 103 := ⟨by decide +kernel, rfl⟩
theorem i29_103 : Ins jdk_42_method_46_code 103 (.ior) 1 104 := ⟨by decide +kernel, rfl⟩
theorem i29_104 : Ins jdk_42_method_46_code 104 (.i2b) 1 105 := ⟨by decide +kernel, rfl⟩
theorem i29_105 : Ins jdk_42_method_46_code 105 (.bastore) 1 106 := ⟨by decide +kernel, rfl⟩
theorem i29_106 : Ins jdk_42_method_46_code 106 (.goto 12) 3 109 := ⟨by decide +kernel, rfl⟩
theorem i29_109 : Ins jdk_42_method_46_code 109 (.aload 4) 2 111 := ⟨by decide +kernel, rfl⟩
theorem i29_111 : Ins jdk_42_method_46_code 111 (.iload_n 3) 1 112 := ⟨by decide +kernel, rfl⟩
theorem i29_112 : Ins jdk_42_method_46_code 112 (.iinc 3 1) 3 115 := ⟨by decide +kernel, rfl⟩
theorem i29_115 : Ins jdk_42_method_46_code 115 (.iload 8) 2 117 := ⟨by decide +kernel, rfl⟩
theorem i29_117 : Ins jdk_42_method_46_code 117 (.bastore) 1 118 := ⟨by decide +kernel, rfl⟩
theorem i29_118 : Ins jdk_42_method_46_code 118 (.iinc 7 1) 3 121 := ⟨by decide +kernel, rfl⟩
theorem i29_121 : Ins jdk_42_method_46_code 121 (.goto (-72)) 3 124 := ⟨by decide +kernel, rfl⟩
theorem i29_124 : Ins jdk_42_method_46_code 124 (.iload_n 3) 1 125 := ⟨by decide +kernel, rfl⟩
theorem i29_125 : Ins jdk_42_method_46_code 125 (.aload 4) 2 127 := ⟨by decide +kernel, rfl⟩
theorem i29_127 : Ins jdk_42_method_46_code 127 (.arraylength) 1 128 := ⟨by decide +kernel, rfl⟩
theorem i29_128 : Ins jdk_42_method_46_code 128 (.if_icmp .ne 6) 3 131 := ⟨by decide +kernel, rfl⟩
theorem i29_134 : Ins jdk_42_method_46_code 134 (.aload 4) 2 136 := ⟨by decide +kernel, rfl⟩
theorem i29_136 : Ins jdk_42_method_46_code 136 (.iload_n 3) 1 137 := ⟨by decide +kernel, rfl⟩
theorem i29_137 : Ins jdk_42_method_46_code 137 (.invokestatic 102) 3 140 := ⟨by decide +kernel, rfl⟩
theorem i29_140 : Ins jdk_42_method_46_code 140 (.areturn) 1 141 := ⟨by decide +kernel, rfl⟩
theorem i30_0 : Ins jdk_123_method_2_code 0 (.aload_n 0) 1 1 := ⟨by decide +kernel, rfl⟩
theorem i30_1 : Ins jdk_123_method_2_code 1 (.iload_n 1) 1 2 := ⟨by decide +kernel, rfl⟩
theorem i30_2 : Ins jdk_123_method_2_code 2 (.iload_n 2) 1 3 := ⟨by decide +kernel, rfl⟩
theorem i30_3 : Ins jdk_123_method_2_code 3 (.invokestatic 7) 3 6 := ⟨by decide +kernel, rfl⟩
theorem i30_6 : Ins jdk_123_method_2_code 6 (.iload_n 2) 1 7 := ⟨by decide +kernel, rfl⟩
theorem i30_7 : Ins jdk_123_method_2_code 7 (.if_icmp .eq 7) 3 10 := ⟨by decide +kernel, rfl⟩
theorem i30_10 : Ins jdk_123_method_2_code 10 (.iconst 1) 1 11 := ⟨by decide +kernel, rfl⟩
theorem i30_11 : Ins jdk_123_method_2_code 11 (.goto 4) 3 14 := ⟨by decide +kernel, rfl⟩
theorem i30_14 : Ins jdk_123_method_2_code 14 (.iconst 0) 1 15 := ⟨by decide +kernel, rfl⟩
theorem i30_15 : Ins jdk_123_method_2_code 15 (.ireturn) 1 16 := ⟨by decide +kernel, rfl⟩
theorem i31_0 : Ins jdk_123_method_3_code 0 (.iload_n 1) 1 1 := ⟨by decide +kernel, rfl⟩
theorem i31_1 : Ins jdk_123_method_3_code 1 (.iload_n 2) 1 2 := ⟨by decide +kernel, rfl⟩
theorem i31_2 : Ins jdk_123_method_3_code 2 (.iadd) 1 3 := ⟨by decide +kernel, rfl⟩
theorem i31_3 : Ins jdk_123_method_3_code 3 (.istore_n 3) 1 4 := ⟨by decide +kernel, rfl⟩
theorem i31_4 : Ins jdk_123_method_3_code 4 (.iload_n 1) 1 5 := ⟨by decide +kernel, rfl⟩
theorem i31_5 : Ins jdk_123_method_3_code 5 (.istore 4) 2 7 := ⟨by decide +kernel, rfl⟩
theorem i31_7 : Ins jdk_123_method_3_code 7 (.iload 4) 2 9 := ⟨by decide +kernel, rfl⟩
theorem i31_9 : Ins jdk_123_method_3_code 9 (.iload_n 3) 1 10 := ⟨by decide +kernel, rfl⟩
theorem i31_10 : Ins jdk_123_method_3_code 10 (.if_icmp .ge 21) 3 13 := ⟨by decide +kernel, rfl⟩
theorem i31_13 : Ins jdk_123_method_3_code 13 (.aload_n 0) 1 14 := ⟨by decide +kernel, rfl⟩
theorem i31_14 : Ins jdk_123_method_3_code 14 (.iload 4) 2 16 := ⟨by decide +kernel, rfl⟩
theorem i31_16 : Ins jdk_123_method_3_code 16 (.baload) 1 17 := ⟨by decide +kernel, rfl⟩
theorem i31_17 : Ins jdk_123_method_3_code 17 (.ifCond .ge 8) 3 20 := ⟨by decide +kernel, rfl⟩
theorem i31_20 : Ins jdk_123_method_3_code 20 (.iload 4) 2 22 := ⟨by decide +kernel, rfl⟩
theorem i31_22 : Ins jdk_123_method_3_code 22 (.iload_n 1) 1 23 := ⟨by decide +kernel, rfl⟩
theorem i31_23 : Ins jdk_123_method_3_code 23 (.isub) 1 24 := ⟨by decide +kernel, rfl⟩
theorem i31_24 : Ins jdk_123_method_3_code 24 (.ireturn) 1 25 := ⟨by decide +kernel, rfl⟩
theorem i31_25 : Ins jdk_123_method_3_code 25 (.iinc 4 1) 3 28 := ⟨by decide +kernel, rfl⟩
theorem i31_28 : Ins jdk_123_method_3_code 28 (.goto (-21)) 3 31 := ⟨by decide +kernel, rfl⟩
theorem i31_31 : Ins jdk_123_method_3_code 31 (.iload_n 2) 1 32 := ⟨by decide +kernel, rfl⟩
theorem i31_32 : Ins jdk_123_method_3_code 32 (.ireturn) 1 33 := ⟨by decide +kernel, rfl⟩
theorem i32_0 : Ins prog_25_method_1_code 0 (.aload_n 0) 1 1 := ⟨by decide +kernel, rfl⟩
theorem i32_1 : Ins prog_25_method_1_code 1 (.invokespecial 1) 3 4 := ⟨by decide +kernel, rfl⟩
theorem i32_4 : Ins prog_25_method_1_code 4 (.aload_n 0) 1 5 := ⟨by decide +kernel, rfl⟩
theorem i32_5 : Ins prog_25_method_1_code 5 (.aload_n 1) 1 6 := ⟨by decide +kernel, rfl⟩
theorem i32_6 : Ins prog_25_method_1_code 6 (.putfield 7) 3 9 := ⟨by decide +kernel, rfl⟩
theorem i32_9 : Ins prog_25_method_1_code 9 (.aload_n 0) 1 10 := ⟨by decide +kernel, rfl⟩
theorem i32_10 : Ins prog_25_method_1_code 10 (.aload_n 2) 1 11 := ⟨by decide +kernel, rfl⟩
theorem i32_11 : Ins prog_25_method_1_code 11 (.putfield 13) 3 14 := ⟨by decide +kernel, rfl⟩
theorem i32_14 : Ins prog_25_method_1_code 14 (.aload_n 0) 1 15 := ⟨by decide +kernel, rfl⟩
theorem i32_15 : Ins prog_25_method_1_code 15 (.aload_n 3) 1 16 := ⟨by decide +kernel, rfl⟩
theorem i32_16 : Ins prog_25_method_1_code 16 (.putfield 17) 3 19 := ⟨by decide +kernel, rfl⟩
theorem i32_19 : Ins prog_25_method_1_code 19 (.aload_n 0) 1 20 := ⟨by decide +kernel, rfl⟩
theorem i32_20 : Ins prog_25_method_1_code 20 (.aload 4) 2 22 := ⟨by decide +kernel, rfl⟩
theorem i32_22 : Ins prog_25_method_1_code 22 (.putfield 20) 3 25 := ⟨by decide +kernel, rfl⟩
theorem i32_25 : Ins prog_25_method_1_code 25 (.return_) 1 26 := ⟨by decide +kernel, rfl⟩
theorem i33_0 : Ins jdk_30_method_1_code 0 (.aload_n 0) 1 1 := ⟨by decide +kernel, rfl⟩
theorem i33_1 : Ins jdk_30_method_1_code 1 (.invokespecial 1) 3 4 := ⟨by decide +kernel, rfl⟩
theorem i33_4 : Ins jdk_30_method_1_code 4 (.return_) 1 5 := ⟨by decide +kernel, rfl⟩
theorem i34_0 : Ins prog_25_method_7_code 0 (.aload_n 0) 1 1 := ⟨by decide +kernel, rfl⟩
theorem i34_1 : Ins prog_25_method_7_code 1 (.getfield 7) 3 4 := ⟨by decide +kernel, rfl⟩
theorem i34_4 : Ins prog_25_method_7_code 4 (.areturn) 1 5 := ⟨by decide +kernel, rfl⟩
theorem i35_0 : Ins prog_25_method_8_code 0 (.aload_n 0) 1 1 := ⟨by decide +kernel, rfl⟩
theorem i35_1 : Ins prog_25_method_8_code 1 (.getfield 13) 3 4 := ⟨by decide +kernel, rfl⟩
theorem i35_4 : Ins prog_25_method_8_code 4 (.areturn) 1 5 := ⟨by decide +kernel, rfl⟩
theorem i36_0 : Ins prog_25_method_9_code 0 (.aload_n 0) 1 1 := ⟨by decide +kernel, rfl⟩
theorem i36_1 : Ins prog_25_method_9_code 1 (.getfield 17) 3 4 := ⟨by decide +kernel, rfl⟩
theorem i36_4 : Ins prog_25_method_9_code 4 (.areturn) 1 5 := ⟨by decide +kernel, rfl⟩
theorem i37_0 : Ins prog_25_method_10_code 0 (.aload_n 0) 1 1 := ⟨by decide +kernel, rfl⟩
theorem i37_1 : Ins prog_25_method_10_code 1 (.getfield 20) 3 4 := ⟨by decide +kernel, rfl⟩
theorem i37_4 : Ins prog_25_method_10_code 4 (.areturn) 1 5 := ⟨by decide +kernel, rfl⟩
theorem i38_0 : Ins method_4_code 0 (.iload_n 3) 1 1 := ⟨by decide +kernel, rfl⟩
theorem i38_1 : Ins method_4_code 1 (.iload_n 2) 1 2 := ⟨by decide +kernel, rfl⟩
theorem i38_2 : Ins method_4_code 2 (.if_icmp .ge 12) 3 5 := ⟨by decide +kernel, rfl⟩
theorem i38_5 : Ins method_4_code 5 (.aload_n 0) 1 6 := ⟨by decide +kernel, rfl⟩
theorem i38_6 : Ins method_4_code 6 (.iload_n 3) 1 7 := ⟨by decide +kernel, rfl⟩
theorem i38_7 : Ins method_4_code 7 (.baload) 1 8 := ⟨by decide +kernel, rfl⟩
theorem i38_8 : Ins method_4_code 8 (.aload_n 1) 1 9 := ⟨by decide +kernel, rfl⟩
theorem i38_9 : Ins method_4_code 9 (.iload_n 3) 1 10 := ⟨by decide +kernel, rfl⟩
theorem i38_10 : Ins method_4_code 10 (.baload) 1 11 := ⟨by decide +kernel, rfl⟩
theorem i38_11 : Ins method_4_code 11 (.if_icmp .ne 7) 3 14 := ⟨by decide +kernel, rfl⟩
theorem i38_14 : Ins method_4_code 14 (.iconst 1) 1 15 := ⟨by decide +kernel, rfl⟩
theorem i38_15 : Ins method_4_code 15 (.goto 4) 3 18 := ⟨by decide +kernel, rfl⟩
theorem i38_19 : Ins method_4_code 19 (.ireturn) 1 20 := ⟨by decide +kernel, rfl⟩
theorem i39_0 : Ins jdk_52_method_16_code 0 (.iload_n 2) 1 1 := ⟨by decide +kernel, rfl⟩
theorem i39_1 : Ins jdk_52_method_16_code 1 (.newarray .byte) 2 3 := ⟨by decide +kernel, rfl⟩
theorem i39_3 : Ins jdk_52_method_16_code 3 (.astore_n 3) 1 4 := ⟨by decide +kernel, rfl⟩
theorem i39_4 : Ins jdk_52_method_16_code 4 (.aload_n 0) 1 5 := ⟨by decide +kernel, rfl⟩
theorem i39_5 : Ins jdk_52_method_16_code 5 (.iload_n 1) 1 6 := ⟨by decide +kernel, rfl⟩
theorem i39_6 : Ins jdk_52_method_16_code 6 (.aload_n 3) 1 7 := ⟨by decide +kernel, rfl⟩
theorem i39_7 : Ins jdk_52_method_16_code 7 (.iconst 0) 1 8 := ⟨by decide +kernel, rfl⟩
theorem i39_8 : Ins jdk_52_method_16_code 8 (.iload_n 2) 1 9 := ⟨by decide +kernel, rfl⟩
theorem i39_9 : Ins jdk_52_method_16_code 9 (.invokestatic 115) 3 12 := ⟨by decide +kernel, rfl⟩
theorem i39_12 : Ins jdk_52_method_16_code 12 (.istore 4) 2 14 := ⟨by decide +kernel, rfl⟩
theorem i39_14 : Ins jdk_52_method_16_code 14 (.iload 4) 2 16 := ⟨by decide +kernel, rfl⟩
theorem i39_16 : Ins jdk_52_method_16_code 16 (.iload_n 2) 1 17 := ⟨by decide +kernel, rfl⟩
theorem i39_17 : Ins jdk_52_method_16_code 17 (.if_icmp .eq 40) 3 20 := ⟨by decide +kernel, rfl⟩
theorem i39_20 : Ins jdk_52_method_16_code 20 (.aload_n 0) 1 21 := ⟨by decide +kernel, rfl⟩
theorem i39_21 : Ins jdk_52_method_16_code 21 (.iload_n 1) 1 22 := ⟨by decide +kernel, rfl⟩
theorem i39_22 : Ins jdk_52_method_16_code 22 (.iload_n 2) 1 23 := ⟨by decide +kernel, rfl⟩
theorem i39_23 : Ins jdk_52_method_16_code 23 (.invokestatic 119) 3 26 := ⟨by decide +kernel, rfl⟩
theorem i39_26 : Ins jdk_52_method_16_code 26 (.astore 5) 2 28 := ⟨by decide +kernel, rfl⟩
theorem i39_28 : Ins jdk_52_method_16_code 28 (.aload 5) 2 30 := ⟨by decide +kernel, rfl⟩
theorem i39_30 : Ins jdk_52_method_16_code 30 (.iload 4) 2 32 := ⟨by decide +kernel, rfl⟩
theorem i39_32 : Ins jdk_52_method_16_code 32 (.invokestatic 71) 3 35 := ⟨by decide +kernel, rfl⟩
theorem i39_35 : Ins jdk_52_method_16_code 35 (.sipush 255) 3 38 := ⟨by decide +kernel, rfl⟩
theorem i39_38 : Ins jdk_52_method_16_code 38 (.if_icmp .gt 16) 3 41 := ⟨by decide +kernel, rfl⟩
theorem i39_54 : Ins jdk_52_method_16_code 54 (.aload 5) 2 56 := ⟨by decide +kernel, rfl⟩
theorem i39_56 : Ins jdk_52_method_16_code 56 (.areturn) 1 57 := ⟨by decide +kernel, rfl⟩
theorem i39_57 : Ins jdk_52_method_16_code 57 (.aload_n 3) 1 58 := ⟨by decide +kernel, rfl⟩
theorem i39_58 : Ins jdk_52_method_16_code 58 (.areturn) 1 59 := ⟨by decide +kernel, rfl⟩
theorem i40_0 : Ins jdk_52_method_21_code 0 (.iconst 0) 1 1 := ⟨by decide +kernel, rfl⟩
theorem i40_1 : Ins jdk_52_method_21_code 1 (.istore 5) 2 3 := ⟨by decide +kernel, rfl⟩
theorem i40_3 : Ins jdk_52_method_21_code 3 (.iload 5) 2 5 := ⟨by decide +kernel, rfl⟩
theorem i40_5 : Ins jdk_52_method_21_code 5 (.iload 4) 2 7 := ⟨by decide +kernel, rfl⟩
theorem i40_7 : Ins jdk_52_method_21_code 7 (.if_icmp .ge 37) 3 10 := ⟨by decide +kernel, rfl⟩
theorem i40_10 : Ins jdk_52_method_21_code 10 (.aload_n 0) 1 11 := ⟨by decide +kernel, rfl⟩
theorem i40_11 : Ins jdk_52_method_21_code 11 (.iload_n 1) 1 12 := ⟨by decide +kernel, rfl⟩
theorem i40_12 : Ins jdk_52_method_21_code 12 (.caload) 1 13 := ⟨by decide +kernel, rfl⟩
theorem i40_13 : Ins jdk_52_method_21_code 13 (.istore 6) 2 15 := ⟨by decide +kernel, rfl⟩
theorem i40_15 : Ins jdk_52_method_21_code 15 (.iload 6) 2 17 := ⟨by decide +kernel, rfl⟩
theorem i40_17 : Ins jdk_52_method_21_code 17 (.sipush 255) 3 20 := ⟨by decide +kernel, rfl⟩
theorem i40_20 : Ins jdk_52_method_21_code 20 (.if_icmp .le 6) 3 23 := ⟨by decide +kernel, rfl⟩
theorem i40_23 : Ins jdk_52_method_21_code 23 (.iload 5) 2 25 := ⟨by decide +kernel, rfl⟩
theorem i40_25 : Ins jdk_52_method_21_code 25 (.ireturn) 1 26 := ⟨by decide +kernel, rfl⟩
theorem i40_26 : Ins jdk_52_method_21_code 26 (.aload_n 2) 1 27 := ⟨by decide +kernel, rfl⟩
theorem i40_27 : Ins jdk_52_method_21_code 27 (.iload_n 3) 1 28 := ⟨by decide +kernel, rfl⟩
theorem i40_28 : Ins jdk_52_method_21_code 28 (.iload 6) 2 30 := ⟨by decide +kernel, rfl⟩
theorem i40_30 : Ins jdk_52_method_21_code 30 (.i2b) 1 31 := ⟨by decide +kernel, rfl⟩
theorem i40_31 : Ins jdk_52_method_21_code 31 (.bastore) 1 32 := ⟨by decide +kernel, rfl⟩
theorem i40_32 : Ins jdk_52_method_21_code 32 (.iinc 1 1) 3 35 := ⟨by decide +kernel, rfl⟩
theorem i40_35 : Ins jdk_52_method_21_code 35 (.iinc 3 1) 3 38 := ⟨by decide +kernel, rfl⟩
theorem i40_38 : Ins jdk_52_method_21_code 38 (.iinc 5 1) 3 41 := ⟨by decide +kernel, rfl⟩
theorem i40_41 : Ins jdk_52_method_21_code 41 (.goto (-38)) 3 44 := ⟨by decide +kernel, rfl⟩
theorem i40_44 : Ins jdk_52_method_21_code 44 (.iload 4) 2 46 := ⟨by decide +kernel, rfl⟩
theorem i40_46 : Ins jdk_52_method_21_code 46 (.ireturn) 1 47 := ⟨by decide +kernel, rfl⟩
theorem i41_0 : Ins jdk_52_method_15_code 0 (.iload_n 1) 1 1 := ⟨by decide +kernel, rfl⟩
theorem i41_1 : Ins jdk_52_method_15_code 1 (.aload_n 0) 1 2 := ⟨by decide +kernel, rfl⟩
theorem i41_2 : Ins jdk_52_method_15_code 2 (.arraylength) 1 3 := ⟨by decide +kernel, rfl⟩
theorem i41_3 : Ins jdk_52_method_15_code 3 (.isub) 1 4 := ⟨by decide +kernel, rfl⟩
theorem i41_4 : Ins jdk_52_method_15_code 4 (.bipush 31) 2 6 := ⟨by decide +kernel, rfl⟩
theorem i41_6 : Ins jdk_52_method_15_code 6 (.iushr) 1 7 := ⟨by decide +kernel, rfl⟩
theorem i41_7 : Ins jdk_52_method_15_code 7 (.i2b) 1 8 := ⟨by decide +kernel, rfl⟩
theorem i41_8 : Ins jdk_52_method_15_code 8 (.ireturn) 1 9 := ⟨by decide +kernel, rfl⟩
theorem i42_0 : Ins method_3_code 0 (.iload_n 2) 1 1 := ⟨by decide +kernel, rfl⟩
theorem i42_1 : Ins method_3_code 1 (.sipush 128) 3 4 := ⟨by decide +kernel, rfl⟩
theorem i42_4 : Ins method_3_code 4 (.if_icmp .ge 12) 3 7 := ⟨by decide +kernel, rfl⟩
theorem i42_7 : Ins method_3_code 7 (.aload_n 0) 1 8 := ⟨by decide +kernel, rfl⟩
theorem i42_8 : Ins method_3_code 8 (.iload_n 1) 1 9 := ⟨by decide +kernel, rfl⟩
theorem i42_9 : Ins method_3_code 9 (.iload_n 2) 1 10 := ⟨by decide +kernel, rfl⟩
theorem i42_10 : Ins method_3_code 10 (.i2b) 1 11 := ⟨by decide +kernel, rfl⟩
theorem i42_11 : Ins method_3_code 11 (.bastore) 1 12 := ⟨by decide +kernel, rfl⟩
theorem i42_12 : Ins method_3_code 12 (.iload_n 1) 1 13 := ⟨by decide +kernel, rfl⟩
theorem i42_13 : Ins method_3_code 13 (.iconst 1) 1 14 := ⟨by decide +kernel, rfl⟩
theorem i42_14 : Ins method_3_code 14 (.iadd) 1 15 := ⟨by decide +kernel, rfl⟩
theorem i42_15 : Ins method_3_code 15 (.ireturn) 1 16 := ⟨by decide +kernel, rfl⟩
theorem i42_16 : Ins method_3_code 16 (.iload_n 2) 1 17 := ⟨by decide +kernel, rfl⟩
theorem i42_17 : Ins method_3_code 17 (.sipush 2048) 3 20 := ⟨by decide +kernel, rfl⟩
theorem i42_20 : Ins method_3_code 20 (.if_icmp .ge 33) 3 23 := ⟨by decide +kernel, rfl⟩
theorem i42_23 : Ins method_3_code 23 (.aload_n 0) 1 24 := ⟨by decide +kernel, rfl⟩
theorem i42_24 : Ins method_3_code 24 (.iload_n 1) 1 25 := ⟨by decide +kernel, rfl⟩
theorem i42_25 : Ins method_3_code 25 (.sipush 192) 3 28 := ⟨by decide +kernel, rfl⟩
theorem i42_28 : Ins method_3_code 28 (.iload_n 2) 1 29 := ⟨by decide +kernel, rfl⟩
theorem i42_29 : Ins method_3_code 29 (.bipush 6) 2 31 := ⟨by decide +kernel, rfl⟩
theorem i42_31 : Ins method_3_code 31 (.ishr) 1 32 := ⟨by decide +kernel, rfl⟩
theorem i42_32 : Ins method_3_code 32 (.ior) 1 33 := ⟨by decide +kernel, rfl⟩
theorem i42_33 : Ins method_3_code 33 (.i2b) 1 34 := ⟨by decide +kernel, rfl⟩
theorem i42_34 : Ins method_3_code 34 (.bastore) 1 35 := ⟨by decide +kernel, rfl⟩
theorem i42_35 : Ins method_3_code 35 (.aload_n 0) 1 36 := ⟨by decide +kernel, rfl⟩
theorem i42_36 : Ins method_3_code 36 (.iload_n 1) 1 37 := ⟨by decide +kernel, rfl⟩
theorem i42_37 : Ins method_3_code 37 (.iconst 1) 1 38 := ⟨by decide +kernel, rfl⟩
theorem i42_38 : Ins method_3_code 38 (.iadd) 1 39 := ⟨by decide +kernel, rfl⟩
theorem i42_39 : Ins method_3_code 39 (.sipush 128) 3 42 := ⟨by decide +kernel, rfl⟩
theorem i42_42 : Ins method_3_code 42 (.iload_n 2) 1 43 := ⟨by decide +kernel, rfl⟩
theorem i42_43 : Ins method_3_code 43 (.bipush 63) 2 45 := ⟨by decide +kernel, rfl⟩
theorem i42_45 : Ins method_3_code 45 (.iand) 1 46 := ⟨by decide +kernel, rfl⟩
theorem i42_46 : Ins method_3_code 46 (.ior) 1 47 := ⟨by decide +kernel, rfl⟩
theorem i42_47 : Ins method_3_code 47 (.i2b) 1 48 := ⟨by decide +kernel, rfl⟩
theorem i42_48 : Ins method_3_code 48 (.bastore) 1 49 := ⟨by decide +kernel, rfl⟩
theorem i42_49 : Ins method_3_code 49 (.iload_n 1) 1 50 := ⟨by decide +kernel, rfl⟩
theorem i42_50 : Ins method_3_code 50 (.iconst 2) 1 51 := ⟨by decide +kernel, rfl⟩
theorem i42_51 : Ins method_3_code 51 (.iadd) 1 52 := ⟨by decide +kernel, rfl⟩
theorem i42_52 : Ins method_3_code 52 (.ireturn) 1 53 := ⟨by decide +kernel, rfl⟩
theorem i42_53 : Ins method_3_code 53 (.aload_n 0) 1 54 := ⟨by decide +kernel, rfl⟩
theorem i42_54 : Ins method_3_code 54 (.iload_n 1) 1 55 := ⟨by decide +kernel, rfl⟩
theorem i42_55 : Ins method_3_code 55 (.sipush 224) 3 58 := ⟨by decide +kernel, rfl⟩
theorem i42_58 : Ins method_3_code 58 (.iload_n 2) 1 59 := ⟨by decide +kernel, rfl⟩
theorem i42_59 : Ins method_3_code 59 (.bipush 12) 2 61 := ⟨by decide +kernel, rfl⟩
theorem i42_61 : Ins method_3_code 61 (.ishr) 1 62 := ⟨by decide +kernel, rfl⟩
theorem i42_62 : Ins method_3_code 62 (.ior) 1 63 := ⟨by decide +kernel, rfl⟩
theorem i42_63 : Ins method_3_code 63 (.i2b) 1 64 := ⟨by decide +kernel, rfl⟩
theorem i42_64 : Ins method_3_code 64 (.bastore) 1 65 := ⟨by decide +kernel, rfl⟩
theorem i42_65 : Ins method_3_code 65 (.aload_n 0) 1 66 := ⟨by decide +kernel, rfl⟩
theorem i42_66 : Ins method_3_code 66 (.iload_n 1) 1 67 := ⟨by decide +kernel, rfl⟩
theorem i42_67 : Ins method_3_code 67 (.iconst 1) 1 68 := ⟨by decide +kernel, rfl⟩
theorem i42_68 : Ins method_3_code 68 (.iadd) 1 69 := ⟨by decide +kernel, rfl⟩
theorem i42_69 : Ins method_3_code 69 (.sipush 128) 3 72 := ⟨by decide +kernel, rfl⟩
theorem i42_72 : Ins method_3_code 72 (.iload_n 2) 1 73 := ⟨by decide +kernel, rfl⟩
theorem i42_73 : Ins method_3_code 73 (.bipush 6) 2 75 := ⟨by decide +kernel, rfl⟩
theorem i42_75 : Ins method_3_code 75 (.ishr) 1 76 := ⟨by decide +kernel, rfl⟩
theorem i42_76 : Ins method_3_code 76 (.bipush 63) 2 78 := ⟨by decide +kernel, rfl⟩
theorem i42_78 : Ins method_3_code 78 (.iand) 1 79 := ⟨by decide +kernel, rfl⟩
theorem i42_79 : Ins method_3_code 79 (.ior) 1 80 := ⟨by decide +kernel, rfl⟩
theorem i42_80 : Ins method_3_code 80 (.i2b) 1 81 := ⟨by decide +kernel, rfl⟩
theorem i42_81 : Ins method_3_code 81 (.bastore) 1 82 := ⟨by decide +kernel, rfl⟩
theorem i42_82 : Ins method_3_code 82 (.aload_n 0) 1 83 := ⟨by decide +kernel, rfl⟩
theorem i42_83 : Ins method_3_code 83 (.iload_n 1) 1 84 := ⟨by decide +kernel, rfl⟩
theorem i42_84 : Ins method_3_code 84 (.iconst 2) 1 85 := ⟨by decide +kernel, rfl⟩
theorem i42_85 : Ins method_3_code 85 (.iadd) 1 86 := ⟨by decide +kernel, rfl⟩
theorem i42_86 : Ins method_3_code 86 (.sipush 128) 3 89 := ⟨by decide +kernel, rfl⟩
theorem i42_89 : Ins method_3_code 89 (.iload_n 2) 1 90 := ⟨by decide +kernel, rfl⟩
theorem i42_90 : Ins method_3_code 90 (.bipush 63) 2 92 := ⟨by decide +kernel, rfl⟩
theorem i42_92 : Ins method_3_code 92 (.iand) 1 93 := ⟨by decide +kernel, rfl⟩
theorem i42_93 : Ins method_3_code 93 (.ior) 1 94 := ⟨by decide +kernel, rfl⟩
theorem i42_94 : Ins method_3_code 94 (.i2b) 1 95 := ⟨by decide +kernel, rfl⟩
theorem i42_95 : Ins method_3_code 95 (.bastore) 1 96 := ⟨by decide +kernel, rfl⟩
theorem i42_96 : Ins method_3_code 96 (.iload_n 1) 1 97 := ⟨by decide +kernel, rfl⟩
theorem i42_97 : Ins method_3_code 97 (.iconst 3) 1 98 := ⟨by decide +kernel, rfl⟩
theorem i42_98 : Ins method_3_code 98 (.iadd) 1 99 := ⟨by decide +kernel, rfl⟩
theorem i42_99 : Ins method_3_code 99 (.ireturn) 1 100 := ⟨by decide +kernel, rfl⟩
theorem i43_0 : Ins jdk_52_method_2_code 0 (.iload_n 0) 1 1 := ⟨by decide +kernel, rfl⟩
theorem i43_1 : Ins jdk_52_method_2_code 1 (.invokestatic 11) 3 4 := ⟨by decide +kernel, rfl⟩
theorem i43_4 : Ins jdk_52_method_2_code 4 (.newarray .byte) 2 6 := ⟨by decide +kernel, rfl⟩
theorem i43_6 : Ins jdk_52_method_2_code 6 (.areturn) 1 7 := ⟨by decide +kernel, rfl⟩
theorem i44_0 : Ins jdk_52_method_3_code 0 (.iload_n 0) 1 1 := ⟨by decide +kernel, rfl⟩
theorem i44_1 : Ins jdk_52_method_3_code 1 (.ifCond .ge 11) 3 4 := ⟨by decide +kernel, rfl⟩
theorem i44_12 : Ins jdk_52_method_3_code 12 (.iload_n 0) 1 13 := ⟨by decide +kernel, rfl⟩
theorem i44_13 : Ins jdk_52_method_3_code 13 (.ldc 20) 2 15 := ⟨by decide +kernel, rfl⟩
theorem i44_15 : Ins jdk_52_method_3_code 15 (.if_icmp .lt 40) 3 18 := ⟨by decide +kernel, rfl⟩
theorem i44_55 : Ins jdk_52_method_3_code 55 (.iload_n 0) 1 56 := ⟨by decide +kernel, rfl⟩
theorem i44_56 : Ins jdk_52_method_3_code 56 (.iconst 1) 1 57 := ⟨by decide +kernel, rfl⟩
theorem i44_57 : Ins jdk_52_method_3_code 57 (.ishl) 1 58 := ⟨by decide +kernel, rfl⟩
theorem i44_58 : Ins jdk_52_method_3_code 58 (.ireturn) 1 59 := ⟨by decide +kernel, rfl⟩
theorem i45_0 : Ins jdk_65_method_121_code 0 (.iload_n 1) 1 1 := ⟨by decide +kernel, rfl⟩
theorem i45_1 : Ins jdk_65_method_121_code 1 (.aload_n 0) 1 2 := ⟨by decide +kernel, rfl⟩
theorem i45_2 : Ins jdk_65_method_121_code 2 (.arraylength) 1 3 := ⟨by decide +kernel, rfl⟩
theorem i45_3 : Ins jdk_65_method_121_code 3 (.if_icmp .ne 11) 3 6 := ⟨by decide +kernel, rfl⟩
theorem i45_14 : Ins jdk_65_method_121_code 14 (.iload_n 1) 1 15 := ⟨by decide +kernel, rfl⟩
theorem i45_15 : Ins jdk_65_method_121_code 15 (.newarray .byte) 2 17 := ⟨by decide +kernel, rfl⟩
theorem i45_17 : Ins jdk_65_method_121_code 17 (.astore_n 2) 1 18 := ⟨by decide +kernel, rfl⟩
theorem i45_18 : Ins jdk_65_method_121_code 18 (.aload_n 0) 1 19 := ⟨by decide +kernel, rfl⟩
theorem i45_19 : Ins jdk_65_method_121_code 19 (.iconst 0) 1 20 := ⟨by decide +kernel, rfl⟩
theorem i45_20 : Ins jdk_65_method_121_code 20 (.aload_n 2) 1 21 := ⟨by decide +kernel, rfl⟩
theorem i45_21 : Ins jdk_65_method_121_code 21 (.iconst 0) 1 22 := ⟨by decide +kernel, rfl⟩
theorem i45_22 : Ins jdk_65_method_121_code 22 (.aload_n 0) 1 23 := ⟨by decide +kernel, rfl⟩
theorem i45_23 : Ins jdk_65_method_121_code 23 (.arraylength) 1 24 := ⟨by decide +kernel, rfl⟩
theorem i45_24 : Ins jdk_65_method_121_code 24 (.iload_n 1) 1 25 := ⟨by decide +kernel, rfl⟩
theorem i45_25 : Ins jdk_65_method_121_code 25 (.invokestatic 304) 3 28 := ⟨by decide +kernel, rfl⟩
theorem i45_28 : Ins jdk_65_method_121_code 28 (.invokestatic 150) 3 31 := ⟨by decide +kernel, rfl⟩
theorem i45_31 : Ins jdk_65_method_121_code 31 (.aload_n 2) 1 32 := ⟨by decide +kernel, rfl⟩
theorem i45_32 : Ins jdk_65_method_121_code 32 (.areturn) 1 33 := ⟨by decide +kernel, rfl⟩
theorem i46_0 : Ins jdk_52_method_14_code 0 (.iload_n 2) 1 1 := ⟨by decide +kernel, rfl⟩
theorem i46_1 : Ins jdk_52_method_14_code 1 (.invokestatic 107) 3 4 := ⟨by decide +kernel, rfl⟩
theorem i46_4 : Ins jdk_52_method_14_code 4 (.astore_n 3) 1 5 := ⟨by decide +kernel, rfl⟩
theorem i46_5 : Ins jdk_52_method_14_code 5 (.iconst 0) 1 6 := ⟨by decide +kernel, rfl⟩
theorem i46_6 : Ins jdk_52_method_14_code 6 (.istore 4) 2 8 := ⟨by decide +kernel, rfl⟩
theorem i46_8 : Ins jdk_52_method_14_code 8 (.iload 4) 2 10 := ⟨by decide +kernel, rfl⟩
theorem i46_10 : Ins jdk_52_method_14_code 10 (.iload_n 2) 1 11 := ⟨by decide +kernel, rfl⟩
theorem i46_11 : Ins jdk_52_method_14_code 11 (.if_icmp .ge 21) 3 14 := ⟨by decide +kernel, rfl⟩
theorem i46_14 : Ins jdk_52_method_14_code 14 (.aload_n 3) 1 15 := ⟨by decide +kernel, rfl⟩
theorem i46_15 : Ins jdk_52_method_14_code 15 (.iload 4) 2 17 := ⟨by decide +kernel, rfl⟩
theorem i46_17 : Ins jdk_52_method_14_code 17 (.aload_n 0) 1 18 := ⟨by decide +kernel, rfl⟩
theorem i46_18 : Ins jdk_52_method_14_code 18 (.iload_n 1) 1 19 := ⟨by decide +kernel, rfl⟩
theorem i46_19 : Ins jdk_52_method_14_code 19 (.caload) 1 20 := ⟨by decide +kernel, rfl⟩
theorem i46_20 : Ins jdk_52_method_14_code 20 (.invokestatic 111) 3 23 := ⟨by decide +kernel, rfl⟩
theorem i46_23 : Ins jdk_52_method_14_code 23 (.iinc 1 1) 3 26 := ⟨by decide +kernel, rfl⟩
theorem i46_26 : Ins jdk_52_method_14_code 26 (.iinc 4 1) 3 29 := ⟨by decide +kernel, rfl⟩
theorem i46_29 : Ins jdk_52_method_14_code 29 (.goto (-21)) 3 32 := ⟨by decide +kernel, rfl⟩
theorem i46_32 : Ins jdk_52_method_14_code 32 (.aload_n 3) 1 33 := ⟨by decide +kernel, rfl⟩
theorem i46_33 : Ins jdk_52_method_14_code 33 (.areturn) 1 34 := ⟨by decide +kernel, rfl⟩
theorem i47_0 : Ins jdk_52_method_4_code 0 (.getstatic 44) 3 3 := ⟨by decide +kernel, rfl⟩
theorem i47_3 : Ins jdk_52_method_4_code 3 (.ifCond .ne 25) 3 6 := ⟨by decide +kernel, rfl⟩
theorem i47_28 : Ins jdk_52_method_4_code 28 (.iload_n 1) 1 29 := ⟨by decide +kernel, rfl⟩
theorem i47_29 : Ins jdk_52_method_4_code 29 (.iconst 1) 1 30 := ⟨by decide +kernel, rfl⟩
theorem i47_30 : Ins jdk_52_method_4_code 30 (.ishl) 1 31 := ⟨by decide +kernel, rfl⟩
theorem i47_31 : Ins jdk_52_method_4_code 31 (.istore_n 1) 1 32 := ⟨by decide +kernel, rfl⟩
theorem i47_32 : Ins jdk_52_method_4_code 32 (.aload_n 0) 1 33 := ⟨by decide +kernel, rfl⟩
theorem i47_33 : Ins jdk_52_method_4_code 33 (.iload_n 1) 1 34 := ⟨by decide +kernel, rfl⟩
theorem i47_34 : Ins jdk_52_method_4_code 34 (.iinc 1 1) 3 37 := ⟨by decide +kernel, rfl⟩
theorem i47_37 : Ins jdk_52_method_4_code 37 (.iload_n 2) 1 38 := ⟨by decide +kernel, rfl⟩
theorem i47_38 : Ins jdk_52_method_4_code 38 (.getstatic 59) 3 41 := ⟨by decide +kernel, rfl⟩
theorem i47_41 : Ins jdk_52_method_4_code 41 (.ishr) 1 42 := ⟨by decide +kernel, rfl⟩
theorem i47_42 : Ins jdk_52_method_4_code 42 (.i2b) 1 43 := ⟨by decide +kernel, rfl⟩
theorem i47_43 : Ins jdk_52_method_4_code 43 (.bastore) 1 44 := ⟨by decide +kernel, rfl⟩
theorem i47_44 : Ins jdk_52_method_4_code 44 (.aload_n 0) 1 45 := ⟨by decide +kernel, rfl⟩
theorem i47_45 : Ins jdk_52_method_4_code 45 (.iload_n 1) 1 46 := ⟨by decide +kernel, rfl⟩
theorem i47_46 : Ins jdk_52_method_4_code 46 (.iload_n 2) 1 47 := ⟨by decide +kernel, rfl⟩
theorem i47_47 : Ins jdk_52_method_4_code 47 (.getstatic 63) 3 50 := ⟨by decide +kernel, rfl⟩
theorem i47_50 : Ins jdk_52_method_4_code 50 (.ishr) 1 51 := ⟨by decide +kernel, rfl⟩
theorem i47_51 : Ins jdk_52_method_4_code 51 (.i2b) 1 52 := ⟨by decide +kernel, rfl⟩
theorem i47_52 : Ins jdk_52_method_4_code 52 (.bastore) 1 53 := ⟨by decide +kernel, rfl⟩
theorem i47_53 : Ins jdk_52_method_4_code 53 (.return_) 1 54 := ⟨by decide +kernel, rfl⟩
theorem i48_0 : Ins jdk_52_method_5_code 0 (.getstatic 44) 3 3 := ⟨by decide +kernel, rfl⟩
theorem i48_3 : Ins jdk_52_method_5_code 3 (.ifCond .ne 25) 3 6 := ⟨by decide +kernel, rfl⟩
theorem i48_28 : Ins jdk_52_method_5_code 28 (.iload_n 1) 1 29 := ⟨by decide +kernel, rfl⟩
theorem i48_29 : Ins jdk_52_method_5_code 29 (.iconst 1) 1 30 := ⟨by decide +kernel, rfl⟩
theorem i48_30 : Ins jdk_52_method_5_code 30 (.ishl) 1 31 := ⟨by decide +kernel, rfl⟩
theorem i48_31 : Ins jdk_52_method_5_code 31 (.istore_n 1) 1 32 := ⟨by decide +kernel, rfl⟩
theorem i48_32 : Ins jdk_52_method_5_code 32 (.aload_n 0) 1 33 := ⟨by decide +kernel, rfl⟩
theorem i48_33 : Ins jdk_52_method_5_code 33 (.iload_n 1) 1 34 := ⟨by decide +kernel, rfl⟩
theorem i48_34 : Ins jdk_52_method_5_code 34 (.iinc 1 1) 3 37 := ⟨by decide +kernel, rfl⟩
theorem i48_37 : Ins jdk_52_method_5_code 37 (.baload) 1 38 := ⟨by decide +kernel, rfl⟩
theorem i48_38 : Ins jdk_52_method_5_code 38 (.sipush 255) 3 41 := ⟨by decide +kernel, rfl⟩
theorem i48_41 : Ins jdk_52_method_5_code 41 (.iand) 1 42 := ⟨by decide +kernel, rfl⟩
theorem i48_42 : Ins jdk_52_method_5_code 42 (.getstatic 59) 3 45 := ⟨by decide +kernel, rfl⟩
theorem i48_45 : Ins jdk_52_method_5_code 45 (.ishl) 1 46 := ⟨by decide +kernel, rfl⟩
theorem i48_46 : Ins jdk_52_method_5_code 46 (.aload_n 0) 1 47 := ⟨by decide +kernel, rfl⟩
theorem i48_47 : Ins jdk_52_method_5_code 47 (.iload_n 1) 1 48 := ⟨by decide +kernel, rfl⟩
theorem i48_48 : Ins jdk_52_method_5_code 48 (.baload) 1 49 := ⟨by decide +kernel, rfl⟩
theorem i48_49 : Ins jdk_52_method_5_code 49 (.sipush 255) 3 52 := ⟨by decide +kernel, rfl⟩
theorem i48_52 : Ins jdk_52_method_5_code 52 (.iand) 1 53 := ⟨by decide +kernel, rfl⟩
theorem i48_53 : Ins jdk_52_method_5_code 53 (.getstatic 63) 3 56 := ⟨by decide +kernel, rfl⟩
theorem i48_56 : Ins jdk_52_method_5_code 56 (.ishl) 1 57 := ⟨by decide +kernel, rfl⟩
theorem i48_57 : Ins jdk_52_method_5_code 57 (.ior) 1 58 := ⟨by decide +kernel, rfl⟩
theorem i48_58 : Ins jdk_52_method_5_code 58 (.i2c) 1 59 := ⟨by decide +kernel, rfl⟩
theorem i48_59 : Ins jdk_52_method_5_code 59 (.ireturn) 1 60 := ⟨by decide +kernel, rfl⟩
theorem i49_0 : Ins jdk_68_method_11_code 0 (.aload_n 0) 1 1 := ⟨by decide +kernel, rfl⟩
theorem i49_1 : Ins jdk_68_method_11_code 1 (.invokevirtual 83) 3 4 := ⟨by decide +kernel, rfl⟩
theorem i49_4 : Ins jdk_68_method_11_code 4 (.ifCond .ne 4) 3 7 := ⟨by decide +kernel, rfl⟩
theorem i49_8 : Ins jdk_68_method_11_code 8 (.aload_n 0) 1 9 := ⟨by decide +kernel, rfl⟩
theorem i49_9 : Ins jdk_68_method_11_code 9 (.getfield 15) 3 12 := ⟨by decide +kernel, rfl⟩
theorem i49_12 : Ins jdk_68_method_11_code 12 (.arraylength) 1 13 := ⟨by decide +kernel, rfl⟩
theorem i49_13 : Ins jdk_68_method_11_code 13 (.invokestatic 26) 3 16 := ⟨by decide +kernel, rfl⟩
theorem i49_16 : Ins jdk_68_method_11_code 16 (.astore_n 1) 1 17 := ⟨by decide +kernel, rfl⟩
theorem i49_17 : Ins jdk_68_method_11_code 17 (.aload_n 0) 1 18 := ⟨by decide +kernel, rfl⟩
theorem i49_18 : Ins jdk_68_method_11_code 18 (.getfield 15) 3 21 := ⟨by decide +kernel, rfl⟩
theorem i49_21 : Ins jdk_68_method_11_code 21 (.iconst 0) 1 22 := ⟨by decide +kernel, rfl⟩
theorem i49_22 : Ins jdk_68_method_11_code 22 (.aload_n 1) 1 23 := ⟨by decide +kernel, rfl⟩
theorem i49_23 : Ins jdk_68_method_11_code 23 (.iconst 0) 1 24 := ⟨by decide +kernel, rfl⟩
theorem i49_24 : Ins jdk_68_method_11_code 24 (.aload_n 0) 1 25 := ⟨by decide +kernel, rfl⟩
theorem i49_25 : Ins jdk_68_method_11_code 25 (.getfield 79) 3 28 := ⟨by decide +kernel, rfl⟩
theorem i49_28 : Ins jdk_68_method_11_code 28 (.invokestatic 125) 3 31 := ⟨by decide +kernel, rfl⟩
theorem i49_31 : Ins jdk_68_method_11_code 31 (.aload_n 0) 1 32 := ⟨by decide +kernel, rfl⟩
theorem i49_32 : Ins jdk_68_method_11_code 32 (.aload_n 1) 1 33 := ⟨by decide +kernel, rfl⟩
theorem i49_33 : Ins jdk_68_method_11_code 33 (.putfield 15) 3 36 := ⟨by decide +kernel, rfl⟩
theorem i49_36 : Ins jdk_68_method_11_code 36 (.aload_n 0) 1 37 := ⟨by decide +kernel, rfl⟩
theorem i49_37 : Ins jdk_68_method_11_code 37 (.iconst 1) 1 38 := ⟨by decide +kernel, rfl⟩
theorem i49_38 : Ins jdk_68_method_11_code 38 (.putfield 22) 3 41 := ⟨by decide +kernel, rfl⟩
theorem i49_41 : Ins jdk_68_method_11_code 41 (.return_) 1 42 := ⟨by decide +kernel, rfl⟩
theorem i50_0 : Ins jdk_43_method_50_code 0 (.aload_n 0) 1 1 := ⟨by decide +kernel, rfl⟩
theorem i50_1 : Ins jdk_43_method_50_code 1 (.iload_n 1) 1 2 := ⟨by decide +kernel, rfl⟩
theorem i50_2 : Ins jdk_43_method_50_code 2 (.aload_n 2) 1 3 := ⟨by decide +kernel, rfl⟩
theorem i50_3 : Ins jdk_43_method_50_code 3 (.iload_n 3) 1 4 := ⟨by decide +kernel, rfl⟩
theorem i50_4 : Ins jdk_43_method_50_code 4 (.iload 4) 2 6 := ⟨by decide +kernel, rfl⟩
theorem i50_6 : Ins jdk_43_method_50_code 6 (.invokestatic 240) 3 9 := ⟨by decide +kernel, rfl⟩
theorem i50_9 : Ins jdk_43_method_50_code 9 (.return_) 1 10 := ⟨by decide +kernel, rfl⟩
theorem i51_0 : Ins jdk_52_method_86_code 0 (.iload_n 3) 1 1 := ⟨by decide +kernel, rfl⟩
theorem i51_1 : Ins jdk_52_method_86_code 1 (.iload 4) 2 3 := ⟨by decide +kernel, rfl⟩
theorem i51_3 : Ins jdk_52_method_86_code 3 (.aload_n 2) 1 4 := ⟨by decide +kernel, rfl⟩
theorem i51_4 : Ins jdk_52_method_86_code 4 (.invokestatic 173) 3 7 := ⟨by decide +kernel, rfl⟩
theorem i51_7 : Ins jdk_52_method_86_code 7 (.iconst 0) 1 8 := ⟨by decide +kernel, rfl⟩
theorem i51_8 : Ins jdk_52_method_86_code 8 (.istore 5) 2 10 := ⟨by decide +kernel, rfl⟩
theorem i51_10 : Ins jdk_52_method_86_code 10 (.iload 5) 2 12 := ⟨by decide +kernel, rfl⟩
theorem i51_12 : Ins jdk_52_method_86_code 12 (.iload 4) 2 14 := ⟨by decide +kernel, rfl⟩
theorem i51_14 : Ins jdk_52_method_86_code 14 (.if_icmp .ge 27) 3 17 := ⟨by decide +kernel, rfl⟩
theorem i51_17 : Ins jdk_52_method_86_code 17 (.aload_n 2) 1 18 := ⟨by decide +kernel, rfl⟩
theorem i51_18 : Ins jdk_52_method_86_code 18 (.iload_n 3) 1 19 := ⟨by decide +kernel, rfl⟩
theorem i51_19 : Ins jdk_52_method_86_code 19 (.iinc 3 1) 3 22 := ⟨by decide +kernel, rfl⟩
theorem i51_22 : Ins jdk_52_method_86_code 22 (.aload_n 0) 1 23 := ⟨by decide +kernel, rfl⟩
theorem i51_23 : Ins jdk_52_method_86_code 23 (.iload_n 1) 1 24 := ⟨by decide +kernel, rfl⟩
theorem i51_24 : Ins jdk_52_method_86_code 24 (.iinc 1 1) 3 27 := ⟨by decide +kernel, rfl⟩
theorem i51_27 : Ins jdk_52_method_86_code 27 (.baload) 1 28 := ⟨by decide +kernel, rfl⟩
theorem i51_28 : Ins jdk_52_method_86_code 28 (.sipush 255) 3 31 := ⟨by decide +kernel, rfl⟩
theorem i51_31 : Ins jdk_52_method_86_code 31 (.iand) 1 32 := ⟨by decide +kernel, rfl⟩
theorem i51_32 : Ins jdk_52_method_86_code 32 (.invokestatic 111) 3 35 := ⟨by decide +kernel, rfl⟩
theorem i51_35 : Ins jdk_52_method_86_code 35 (.iinc 5 1) 3 38 := ⟨by decide +kernel, rfl⟩
theorem i51_38 : Ins jdk_52_method_86_code 38 (.goto (-28)) 3 41 := ⟨by decide +kernel, rfl⟩
theorem i51_41 : Ins jdk_52_method_86_code 41 (.return_) 1 42 := ⟨by decide +kernel, rfl⟩
theorem i52_0 : Ins jdk_52_method_94_code 0 (.iload_n 0) 1 1 := ⟨by decide +kernel, rfl⟩
theorem i52_1 : Ins jdk_52_method_94_code 1 (.iload_n 1) 1 2 := ⟨by decide +kernel, rfl⟩
theorem i52_2 : Ins jdk_52_method_94_code 2 (.aload_n 2) 1 3 := ⟨by decide +kernel, rfl⟩
theorem i52_3 : Ins jdk_52_method_94_code 3 (.invokestatic 48) 3 6 := ⟨by decide +kernel, rfl⟩
theorem i52_6 : Ins jdk_52_method_94_code 6 (.invokestatic 419) 3 9 := ⟨by decide +kernel, rfl⟩
theorem i52_9 : Ins jdk_52_method_94_code 9 (.pop) 1 10 := ⟨by decide +kernel, rfl⟩
theorem i52_10 : Ins jdk_52_method_94_code 10 (.return_) 1 11 := ⟨by decide +kernel, rfl⟩
theorem i53_0 : Ins jdk_52_method_6_code 0 (.aload_n 0) 1 1 := ⟨by decide +kernel, rfl⟩
theorem i53_1 : Ins jdk_52_method_6_code 1 (.arraylength) 1 2 := ⟨by decide +kernel, rfl⟩
theorem i53_2 : Ins jdk_52_method_6_code 2 (.iconst 1) 1 3 := ⟨by decide +kernel, rfl⟩
theorem i53_3 : Ins jdk_52_method_6_code 3 (.ishr) 1 4 := ⟨by decide +kernel, rfl⟩
theorem i53_4 : Ins jdk_52_method_6_code 4 (.ireturn) 1 5 := ⟨by decide +kernel, rfl⟩
theorem i54_0 : Ins jdk_42_method_157_code 0 (.iload_n 0) 1 1 := ⟨by decide +kernel, rfl⟩
theorem i54_1 : Ins jdk_42_method_157_code 1 (.iload_n 1) 1 2 := ⟨by decide +kernel, rfl⟩
theorem i54_2 : Ins jdk_42_method_157_code 2 (.iload_n 2) 1 3 := ⟨by decide +kernel, rfl⟩
theorem i54_3 : Ins jdk_42_method_157_code 3 (.getstatic 1053) 3 6 := ⟨by decide +kernel, rfl⟩
theorem i54_6 : Ins jdk_42_method_157_code 6 (.invokestatic 1065) 3 9 := ⟨by decide +kernel, rfl⟩
theorem i54_9 : Ins jdk_42_method_157_code 9 (.ireturn) 1 10 := ⟨by decide +kernel, rfl⟩
theorem i55_0 : Ins jdk_41_method_13_code 0 (.iload_n 2) 1 1 := ⟨by decide +kernel, rfl⟩
theorem i55_1 : Ins jdk_41_method_13_code 1 (.iload_n 0) 1 2 := ⟨by decide +kernel, rfl⟩
theorem i55_2 : Ins jdk_41_method_13_code 2 (.ior) 1 3 := ⟨by decide +kernel, rfl⟩
theorem i55_3 : Ins jdk_41_method_13_code 3 (.iload_n 1) 1 4 := ⟨by decide +kernel, rfl⟩
theorem i55_4 : Ins jdk_41_method_13_code 4 (.ior) 1 5 := ⟨by decide +kernel, rfl⟩
theorem i55_5 : Ins jdk_41_method_13_code 5 (.ifCond .lt 10) 3 8 := ⟨by decide +kernel, rfl⟩
theorem i55_8 : Ins jdk_41_method_13_code 8 (.iload_n 1) 1 9 := ⟨by decide +kernel, rfl⟩
theorem i55_9 : Ins jdk_41_method_13_code 9 (.iload_n 2) 1 10 := ⟨by decide +kernel, rfl⟩
theorem i55_10 : Ins jdk_41_method_13_code 10 (.iload_n 0) 1 11 := ⟨by decide +kernel, rfl⟩
theorem i55_11 : Ins jdk_41_method_13_code 11 (.isub) 1 12 := ⟨by decide +kernel, rfl⟩
theorem i55_12 : Ins jdk_41_method_13_code 12 (.if_icmp .le 11) 3 15 := ⟨by decide +kernel, rfl⟩
theorem i55_23 : Ins jdk_41_method_13_code 23 (.iload_n 0) 1 24 := ⟨by decide +kernel, rfl⟩
theorem i55_24 : Ins jdk_41_method_13_code 24 (.ireturn) 1 25 := ⟨by decide +kernel, rfl⟩
theorem i56_0 : Ins jdk_42_method_47_code 0 (.iconst 0) 1 1 := ⟨by decide +kernel, rfl⟩
theorem i56_1 : Ins jdk_42_method_47_code 1 (.istore_n 2) 1 2 := ⟨by decide +kernel, rfl⟩
theorem i56_2 : Ins jdk_42_method_47_code 2 (.iconst 0) 1 3 := ⟨by decide +kernel, rfl⟩
theorem i56_3 : Ins jdk_42_method_47_code 3 (.istore_n 3) 1 4 := ⟨by decide +kernel, rfl⟩
theorem i56_4 : Ins jdk_42_method_47_code 4 (.aload_n 0) 1 5 := ⟨by decide +kernel, rfl⟩
theorem i56_5 : Ins jdk_42_method_47_code 5 (.arraylength) 1 6 := ⟨by decide +kernel, rfl⟩
theorem i56_6 : Ins jdk_42_method_47_code 6 (.iconst 1) 1 7 := ⟨by decide +kernel, rfl⟩
theorem i56_7 : Ins jdk_42_method_47_code 7 (.ishr) 1 8 := ⟨by decide +kernel, rfl⟩
theorem i56_8 : Ins jdk_42_method_47_code 8 (.istore 4) 2 10 := ⟨by decide +kernel, rfl⟩
theorem i56_10 : Ins jdk_42_method_47_code 10 (.iload 4) 2 12 := ⟨by decide +kernel, rfl⟩
theorem i56_12 : Ins jdk_42_method_47_code 12 (.iconst 3) 1 13 := ⟨by decide +kernel, rfl⟩
theorem i56_13 : Ins jdk_42_method_47_code 13 (.imul) 1 14 := ⟨by decide +kernel, rfl⟩
theorem i56_14 : Ins jdk_42_method_47_code 14 (.newarray .byte) 2 16 := ⟨by decide +kernel, rfl⟩
theorem i56_16 : Ins jdk_42_method_47_code 16 (.astore 5) 2 18 := ⟨by decide +kernel, rfl⟩
theorem i56_18 : Ins jdk_42_method_47_code 18 (.iload_n 3) 1 19 := ⟨by decide +kernel, rfl⟩
theorem i56_19 : Ins jdk_42_method_47_code 19 (.iload 4) 2 21 := ⟨by decide +kernel, rfl⟩
theorem i56_21 : Ins jdk_42_method_47_code 21 (.if_icmp .ge 37) 3 24 := ⟨by decide +kernel, rfl⟩
theorem i56_24 : Ins jdk_42_method_47_code 24 (.aload_n 0) 1 25 := ⟨by decide +kernel, rfl⟩
theorem i56_25 : Ins jdk_42_method_47_code 25 (.iload_n 3) 1 26 := ⟨by decide +kernel, rfl⟩
theorem i56_26 : Ins jdk_42_method_47_code 26 (.invokestatic 360) 3 29 := ⟨by decide +kernel, rfl⟩
theorem i56_29 : Ins jdk_42_method_47_code 29 (.istore 6) 2 31 := ⟨by decide +kernel, rfl⟩
theorem i56_31 : Ins jdk_42_method_47_code 31 (.iload 6) 2 33 := ⟨by decide +kernel, rfl⟩
theorem i56_33 : Ins jdk_42_method_47_code 33 (.sipush 128) 3 36 := ⟨by decide +kernel, rfl⟩
theorem i56_36 : Ins jdk_42_method_47_code 36 (.if_icmp .lt 6) 3 39 := ⟨by decide +kernel, rfl⟩
theorem i56_39 : Ins jdk_42_method_47_code 39 (.goto 19) 3 42 := ⟨by decide +kernel, rfl⟩
theorem i56_42 : Ins jdk_42_method_47_code 42 (.aload 5) 2 44 := ⟨by decide +kernel, rfl⟩
theorem i56_44 : Ins jdk_42_method_47_code 44 (.iload_n 2) 1 45 := ⟨by decide +kernel, rfl⟩
theorem i56_45 : Ins jdk_42_method_47_code 45 (.iinc 2 1) 3 48 := ⟨by decide +kernel, rfl⟩
theorem i56_48 : Ins jdk_42_method_47_code 48 (.iload 6) 2 50 := ⟨by decide +kernel, rfl⟩
theorem i56_50 : Ins jdk_42_method_47_code 50 (.i2b) 1 51 := ⟨by decide +kernel, rfl⟩
theorem i56_51 : Ins jdk_42_method_47_code 51 (.bastore) 1 52 := ⟨by decide +kernel, rfl⟩
theorem i56_52 : Ins jdk_42_method_47_code 52 (.iinc 3 1) 3 55 := ⟨by decide +kernel, rfl⟩
theorem i56_55 : Ins jdk_42_method_47_code 55 (.goto (-37)) 3 58 := ⟨by decide +kernel, rfl⟩
theorem i56_58 : Ins jdk_42_method_47_code 58 (.iload_n 3) 1 59 := ⟨by decide +kernel, rfl⟩
theorem i56_59 : Ins jdk_42_method_47_code 59 (.iload 4) 2 61 := ⟨by decide +kernel, rfl⟩
theorem i56_61 : Ins jdk_42_method_47_code 61 (.if_icmp .ge 294) 3 64 := ⟨by decide +kernel, rfl⟩
theorem i56_64 : Ins jdk_42_method_47_code 64 (.aload_n 0) 1 65 := ⟨by decide +kernel, rfl⟩
theorem i56_65 : Ins jdk_42_method_47_code 65 (.iload_n 3) 1 66 := ⟨by decide +kernel, rfl⟩
theorem i56_66 : Ins jdk_42_method_47_code 66 (.iinc 3 1) 3 69 := ⟨by decide +kernel, rfl⟩
theorem i56_69 : Ins jdk_42_method_47_code 69 (.invokestatic 360) 3 72 := ⟨by decide +kernel, rfl⟩
theorem i56_72 : Ins jdk_42_method_47_code 72 (.istore 6) 2 74 := ⟨by decide +kernel, rfl⟩
theorem i56_74 : Ins jdk_42_method_47_code 74 (.iload 6) 2 76 := ⟨by decide +kernel, rfl⟩
theorem i56_76 : Ins jdk_42_method_47_code 76 (.sipush 128) 3 79 := ⟨by decide +kernel, rfl⟩
theorem i56_79 : Ins jdk_42_method_47_code 79 (.if_icmp .ge 16) 3 82 := ⟨by decide +kernel, rfl⟩
theorem i56_82 : Ins jdk_42_method_47_code 82 (.aload 5) 2 84 := ⟨by decide +kernel, rfl⟩
theorem i56_84 : Ins jdk_42_method_47_code 84 (.iload_n 2) 1 85 := ⟨by decide +kernel, rfl⟩
theorem i56_85 : Ins jdk_42_method_47_code 85 (.iinc 2 1) 3 88 := ⟨by decide +kernel, rfl⟩
theorem i56_88 : Ins jdk_42_method_47_code 88 (.iload 6) 2 90 := ⟨by decide +kernel, rfl⟩
theorem i56_90 : Ins jdk_42_method_47_code 90 (.i2b) 1 91 := ⟨by decide +kernel, rfl⟩
theorem i56_91 : Ins jdk_42_method_47_code 91 (.bastore) 1 92 := ⟨by decide +kernel, rfl⟩
theorem i56_92 : Ins jdk_42_method_47_code 92 (.goto 260) 3 95 := ⟨by decide +kernel, rfl⟩
theorem i56_95 : Ins jdk_42_method_47_code 95 (.iload 6) 2 97 := ⟨by decide +kernel, rfl⟩
theorem i56_97 : Ins jdk_42_method_47_code 97 (.sipush 2048) 3 100 := ⟨by decide +kernel, rfl⟩
theorem i56_100 : Ins jdk_42_method_47_code 100 (.if_icmp .ge 40) 3 103 := ⟨by decide +kernel, rfl⟩
theorem i56_103 : Ins jdk_42_method_47_code 103 (.aload 5) 2 105 := ⟨by decide +kernel, rfl⟩
theorem i56_105 : Ins jdk_42_method_47_code 105 (.iload_n 2) 1 106 := ⟨by decide +kernel, rfl⟩
theorem i56_106 : Ins jdk_42_method_47_code 106 (.iinc 2 1) 3 109 := ⟨by decide +kernel, rfl⟩
theorem i56_109 : Ins jdk_42_method_47_code 109 (.sipush 192) 3 112 := ⟨by decide +kernel, rfl⟩
theorem i56_112 : Ins jdk_42_method_47_code 112 (.iload 6) 2 114 := ⟨by decide +kernel, rfl⟩
theorem i56_114 : Ins jdk_42_method_47_code 114 (.bipush 6) 2 116 := ⟨by decide +kernel, rfl⟩
theorem i56_116 : Ins jdk_42_method_47_code 116 (.ishr) 1 117 := ⟨by decide +kernel, rfl⟩
theorem i56_117 : Ins jdk_42_method_47_code 117 (.ior) 1 118 := ⟨by decide +kernel, rfl⟩
theorem i56_118 : Ins jdk_42_method_47_code 118 (.i2b) 1 119 := ⟨by decide +kernel, rfl⟩
theorem i56_119 : Ins jdk_42_method_47_code 119 (.bastore) 1 120 := ⟨by decide +kernel, rfl⟩
theorem i56_120 : Ins jdk_42_method_47_code 120 (.aload 5) 2 122 := ⟨by decide +kernel, rfl⟩
theorem i56_122 : Ins jdk_42_method_47_code 122 (.iload_n 2) 1 123 := ⟨by decide +kernel, rfl⟩
theorem i56_123 : Ins jdk_42_method_47_code 123 (.iinc 2 1) 3 126 := ⟨by decide +kernel, rfl⟩
theorem i56_126 : Ins jdk_42_method_47_code 126 (.sipush 128) 3 129 := ⟨by decide +kernel, rfl⟩
theorem i56_129 : Ins jdk_42_method_47_code 129 (.iload 6) 2 131 := ⟨by decide +kernel, rfl⟩
theorem i56_131 : Ins jdk_42_method_47_code 131 (.bipush 63) 2 133 := ⟨by decide +kernel, rfl⟩
theorem i56_133 : Ins jdk_42_method_47_code 133 (.iand) 1 134 := ⟨by decide +kernel, rfl⟩
theorem i56_134 : Ins jdk_42_method_47_code 134 (.ior) 1 135 := ⟨by decide +kernel, rfl⟩
theorem i56_135 : Ins jdk_42_method_47_code 135 (.i2b) 1 136 := ⟨by decide +kernel, rfl⟩
theorem i56_136 : Ins jdk_42_method_47_code 136 (.bastore) 1 137 := ⟨by decide +kernel, rfl⟩
theorem i56_137 : Ins jdk_42_method_47_code 137 (.goto 215) 3 140 := ⟨by decide +kernel, rfl⟩
theorem i56_140 : Ins jdk_42_method_47_code 140 (.iload 6) 2 142 := ⟨by decide +kernel, rfl⟩
theorem i56_142 : Ins jdk_42_method_47_code 142 (.invokestatic 404) 3 145 := ⟨by decide +kernel, rfl⟩
theorem i56_145 : Ins jdk_42_method_47_code 145 (.ifCond .eq 153) 3 148 := ⟨by decide +kernel, rfl⟩
theorem i56_298 : Ins jdk_42_method_47_code 298 (.aload 5) 2 300 := ⟨by decide +kernel, rfl⟩
theorem i56_300 : Ins jdk_42_method_47_code 300 (.iload_n 2) 1 301 := ⟨by decide +kernel, rfl⟩
theorem i56_301 : Ins jdk_42_method_47_code 301 (.iinc 2 1) 3 304 := ⟨by decide +kernel, rfl⟩
theorem i56_304 : Ins jdk_42_method_47_code 304 (.sipush 224) 3 307 := ⟨by decide +kernel, rfl⟩
theorem i56_307 : Ins jdk_42_method_47_code 307 (.iload 6) 2 309 := ⟨by decide +kernel, rfl⟩
theorem i56_309 : Ins jdk_42_method_47_code 309 (.bipush 12) 2 311 := ⟨by decide +kernel, rfl⟩
theorem i56_311 : Ins jdk_42_method_47_code 311 (.ishr) 1 312 := ⟨by decide +kernel, rfl⟩
theorem i56_312 : Ins jdk_42_method_47_code 312 (.ior) 1 313 := ⟨by decide +kernel, rfl⟩
theorem i56_313 : Ins jdk_42_method_47_code 313 (.i2b) 1 314 := ⟨by decide +kernel, rfl⟩
theorem i56_314 : Ins jdk_42_method_47_code 314 (.bastore) 1 315 := ⟨by decide +kernel, rfl⟩
theorem i56_315 : Ins jdk_42_method_47_code 315 (.aload 5) 2 317 := ⟨by decide +kernel, rfl⟩
theorem i56_317 : Ins jdk_42_method_47_code 317 (.iload_n 2) 1 318 := ⟨by decide +kernel, rfl⟩
theorem i56_318 : Ins jdk_42_method_47_code 318 (.iinc 2 1) 3 321 := ⟨by decide +kernel, rfl⟩
theorem i56_321 : Ins jdk_42_method_47_code 321 (.sipush 128) 3 324 := ⟨by decide +kernel, rfl⟩
theorem i56_324 : Ins jdk_42_method_47_code 324 (.iload 6) 2 326 := ⟨by decide +kernel, rfl⟩
theorem i56_326 : Ins jdk_42_method_47_code 326 (.bipush 6) 2 328 := ⟨by decide +kernel, rfl⟩
theorem i56_328 : Ins jdk_42_method_47_code 328 (.ishr) 1 329 := ⟨by decide +kernel, rfl⟩
theorem i56_329 : Ins jdk_42_method_47_code 329 (.bipush 63) 2 331 := ⟨by decide +kernel, rfl⟩
theorem i56_331 : Ins jdk_42_method_47_code 331 (.iand) 1 332 := ⟨by decide +kernel, rfl⟩
theorem i56_332 : Ins jdk_42_method_47_code 332 (.ior) 1 333 := ⟨by decide +kernel, rfl⟩
theorem i56_333 : Ins jdk_42_method_47_code 333 (.i2b) 1 334 := ⟨by decide +kernel, rfl⟩
theorem i56_334 : Ins jdk_42_method_47_code 334 (.bastore) 1 335 := ⟨by decide +kernel, rfl⟩
theorem i56_335 : Ins jdk_42_method_47_code 335 (.aload 5) 2 337 := ⟨by decide +kernel, rfl⟩
theorem i56_337 : Ins jdk_42_method_47_code 337 (.iload_n 2) 1 338 := ⟨by decide +kernel, rfl⟩
theorem i56_338 : Ins jdk_42_method_47_code 338 (.iinc 2 1) 3 341 := ⟨by decide +kernel, rfl⟩
theorem i56_341 : Ins jdk_42_method_47_code 341 (.sipush 128) 3 344 := ⟨by decide +kernel, rfl⟩
theorem i56_344 : Ins jdk_42_method_47_code 344 (.iload 6) 2 346 := ⟨by decide +kernel, rfl⟩
theorem i56_346 : Ins jdk_42_method_47_code 346 (.bipush 63) 2 348 := ⟨by decide +kernel, rfl⟩
theorem i56_348 : Ins jdk_42_method_47_code 348 (.iand) 1 349 := ⟨by decide +kernel, rfl⟩
theorem i56_349 : Ins jdk_42_method_47_code 349 (.ior) 1 350 := ⟨by decide +kernel, rfl⟩
theorem i56_350 : Ins jdk_42_method_47_code 350 (.i2b) 1 351 := ⟨by decide +kernel, rfl⟩
theorem i56_351 : Ins jdk_42_method_47_code 351 (.bastore) 1 352 := ⟨by decide +kernel, rfl⟩
theorem i56_352 : Ins jdk_42_method_47_code 352 (.goto (-294)) 3 355 := ⟨by decide +kernel, rfl⟩
theorem i56_355 : Ins jdk_42_method_47_code 355 (.iload_n 2) 1 356 := ⟨by decide +kernel, rfl⟩
theorem i56_356 : Ins jdk_42_method_47_code 356 (.aload 5) 2 358 := ⟨by decide +kernel, rfl⟩
theorem i56_358 : Ins jdk_42_method_47_code 358 (.arraylength) 1 359 := ⟨by decide +kernel, rfl⟩
theorem i56_359 : Ins jdk_42_method_47_code 359 (.if_icmp .ne 6) 3 362 := ⟨by decide +kernel, rfl⟩
theorem i56_365 : Ins jdk_42_method_47_code 365 (.aload 5) 2 367 := ⟨by decide +kernel, rfl⟩
theorem i56_367 : Ins jdk_42_method_47_code 367 (.iload_n 2) 1 368 := ⟨by decide +kernel, rfl⟩
theorem i56_368 : Ins jdk_42_method_47_code 368 (.invokestatic 102) 3 371 := ⟨by decide +kernel, rfl⟩
theorem i56_371 : Ins jdk_42_method_47_code 371 (.areturn) 1 372 := ⟨by decide +kernel, rfl⟩
theorem i57_0 : Ins jdk_89_method_16_code 0 (.iload_n 0) 1 1 := ⟨by decide +kernel, rfl⟩
theorem i57_1 : Ins jdk_89_method_16_code 1 (.ldc 75) 2 3 := ⟨by decide +kernel, rfl⟩
theorem i57_3 : Ins jdk_89_method_16_code 3 (.if_icmp .lt 13) 3 6 := ⟨by decide +kernel, rfl⟩
theorem i57_6 : Ins jdk_89_method_16_code 6 (.iload_n 0) 1 7 := ⟨by decide +kernel, rfl⟩
theorem i57_7 : Ins jdk_89_method_16_code 7 (.ldc 77) 2 9 := ⟨by decide +kernel, rfl⟩
theorem i57_9 : Ins jdk_89_method_16_code 9 (.if_icmp .ge 7) 3 12 := ⟨by decide +kernel, rfl⟩
theorem i57_16 : Ins jdk_89_method_16_code 16 (.iconst 0) 1 17 := ⟨by decide +kernel, rfl⟩
theorem i57_17 : Ins jdk_89_method_16_code 17 (.ireturn) 1 18 := ⟨by decide +kernel, rfl⟩
theorem pd_0 : parseMethodDescriptor "(I)I" = some ⟨[.int], some .int⟩ := by decide +kernel
theorem pd_1 : parseMethodDescriptor "([BII)V" = some ⟨[(.array .byte), .int, .int], none⟩ := by decide +kernel
theorem pd_2 : parseMethodDescriptor "(I)[B" = some ⟨[.int], some (.array .byte)⟩ := by decide +kernel
theorem pd_3 : parseMethodDescriptor "([CI[BII)I" = some ⟨[(.array .char), .int, (.array .byte), .int, .int], some .int⟩ := by decide +kernel
theorem pd_4 : parseMethodDescriptor "([CII)[B" = some ⟨[(.array .char), .int, .int], some (.array .byte)⟩ := by decide +kernel
theorem pd_5 : parseMethodDescriptor "([BI)C" = some ⟨[(.array .byte), .int], some .char⟩ := by decide +kernel
theorem pd_6 : parseMethodDescriptor "([BI)B" = some ⟨[(.array .byte), .int], some .byte⟩ := by decide +kernel
theorem pd_7 : parseMethodDescriptor "([CIILjava/lang/Void;)V" = some ⟨[(.array .char), .int, .int, (.object "java/lang/Void")], none⟩ := by decide +kernel
theorem pd_8 : parseMethodDescriptor "(I)V" = some ⟨[.int], none⟩ := by decide +kernel
theorem pd_9 : parseMethodDescriptor "()B" = some ⟨[], some .byte⟩ := by decide +kernel
theorem pd_10 : parseMethodDescriptor "(Ljava/lang/String;)V" = some ⟨[(.object "java/lang/String")], none⟩ := by decide +kernel
theorem pd_11 : parseMethodDescriptor "([BIB)V" = some ⟨[(.array .byte), .int, .byte], none⟩ := by decide +kernel
theorem pd_12 : parseMethodDescriptor "()I" = some ⟨[], some .int⟩ := by decide +kernel
theorem pd_13 : parseMethodDescriptor "(ILjava/lang/String;)V" = some ⟨[.int, (.object "java/lang/String")], none⟩ := by decide +kernel
theorem pd_14 : parseMethodDescriptor "(Ljava/lang/String;)Ljava/lang/AbstractStringBuilder;" = some ⟨[(.object "java/lang/String")], some (.object "java/lang/AbstractStringBuilder")⟩ := by decide +kernel
theorem pd_15 : parseMethodDescriptor "(IIILjava/util/function/BiFunction;)I" = some ⟨[.int, .int, .int, (.object "java/util/function/BiFunction")], some .int⟩ := by decide +kernel
theorem pd_16 : parseMethodDescriptor "([B)I" = some ⟨[(.array .byte)], some .int⟩ := by decide +kernel
theorem pd_17 : parseMethodDescriptor "(III)I" = some ⟨[.int, .int, .int], some .int⟩ := by decide +kernel
theorem pd_18 : parseMethodDescriptor "(II[B)V" = some ⟨[.int, .int, (.array .byte)], none⟩ := by decide +kernel
theorem pd_19 : parseMethodDescriptor "([BI[BII)V" = some ⟨[(.array .byte), .int, (.array .byte), .int, .int], none⟩ := by decide +kernel
theorem pd_20 : parseMethodDescriptor "()Z" = some ⟨[], some .boolean⟩ := by decide +kernel
theorem pd_21 : parseMethodDescriptor "()V" = some ⟨[], none⟩ := by decide +kernel
theorem pd_22 : parseMethodDescriptor "(II)V" = some ⟨[.int, .int], none⟩ := by decide +kernel
theorem pd_23 : parseMethodDescriptor "(II)I" = some ⟨[.int, .int], some .int⟩ := by decide +kernel
theorem pd_24 : parseMethodDescriptor "([BII)[B" = some ⟨[(.array .byte), .int, .int], some (.array .byte)⟩ := by decide +kernel
theorem pd_25 : parseMethodDescriptor "()[B" = some ⟨[], some (.array .byte)⟩ := by decide +kernel
theorem pd_26 : parseMethodDescriptor "(Ljava/lang/AbstractStringBuilder;Ljava/lang/Void;)V" = some ⟨[(.object "java/lang/AbstractStringBuilder"), (.object "java/lang/Void")], none⟩ := by decide +kernel
theorem pd_27 : parseMethodDescriptor "(Ljava/lang/StringBuilder;)V" = some ⟨[(.object "java/lang/StringBuilder")], none⟩ := by decide +kernel
theorem pd_28 : parseMethodDescriptor "([BII)I" = some ⟨[(.array .byte), .int, .int], some .int⟩ := by decide +kernel
theorem pd_29 : parseMethodDescriptor "([BI)[B" = some ⟨[(.array .byte), .int], some (.array .byte)⟩ := by decide +kernel
theorem pd_30 : parseMethodDescriptor "([BII)Z" = some ⟨[(.array .byte), .int, .int], some .boolean⟩ := by decide +kernel
theorem pd_31 : parseMethodDescriptor "(B[BZ)[B" = some ⟨[.byte, (.array .byte), .boolean], some (.array .byte)⟩ := by decide +kernel
theorem pd_32 : parseMethodDescriptor "(Ljava/nio/charset/Charset;B[B)[B" = some ⟨[(.object "java/nio/charset/Charset"), .byte, (.array .byte)], some (.array .byte)⟩ := by decide +kernel
theorem pd_33 : parseMethodDescriptor "(C)Z" = some ⟨[.char], some .boolean⟩ := by decide +kernel
theorem pd_34 : parseMethodDescriptor "([BZ)[B" = some ⟨[(.array .byte), .boolean], some (.array .byte)⟩ := by decide +kernel
theorem pd_35 : parseMethodDescriptor "(Ljava/lang/String;)Ljava/lang/StringBuilder;" = some ⟨[(.object "java/lang/String")], some (.object "java/lang/StringBuilder")⟩ := by decide +kernel
theorem pd_36 : parseMethodDescriptor "()Ljava/lang/String;" = some ⟨[], some (.object "java/lang/String")⟩ := by decide +kernel
theorem pd_37 : parseMethodDescriptor "(Ljava/nio/charset/Charset;)[B" = some ⟨[(.object "java/nio/charset/Charset")], some (.array .byte)⟩ := by decide +kernel
theorem pd_38 : parseMethodDescriptor "(Lcom/example/pacerd/pacerd/run/RunStatus;Ljava/lang/Integer;Ljava/lang/Integer;[B)V" = some ⟨[(.object "com/example/pacerd/pacerd/run/RunStatus"), (.object "java/lang/Integer"), (.object "java/lang/Integer"), (.array .byte)], none⟩ := by decide +kernel
theorem pd_39 : parseMethodDescriptor "([C)V" = some ⟨[(.array .char)], none⟩ := by decide +kernel
theorem pd_40 : parseMethodDescriptor "(Ljava/lang/String;)Lcom/example/pacerd/pacerd/run/Outcome;" = some ⟨[(.object "java/lang/String")], some (.object "com/example/pacerd/pacerd/run/Outcome")⟩ := by decide +kernel
theorem pd_41 : parseMethodDescriptor "()Lcom/example/pacerd/pacerd/run/RunStatus;" = some ⟨[], some (.object "com/example/pacerd/pacerd/run/RunStatus")⟩ := by decide +kernel
theorem pd_42 : parseMethodDescriptor "()Ljava/lang/Integer;" = some ⟨[], some (.object "java/lang/Integer")⟩ := by decide +kernel
theorem pd_43 : parseMethodDescriptor "([B[BII)Z" = some ⟨[(.array .byte), (.array .byte), .int, .int], some .boolean⟩ := by decide +kernel
theorem own_cc {x : Int32} (h : ¬ x < 0 ∧ ¬ (65535 : Int32) < x) : nar .char x = x := by
  have e1 : (0 : Int32).toInt = 0 := rfl
  have e2 : (65535 : Int32).toInt = 65535 := rfl
  rw [Int32.lt_iff_toInt_lt, Int32.lt_iff_toInt_lt] at h
  have := c_i2c x
  have e : nar .char x = x.toUInt32.toUInt16.toUInt32.toInt32 := rfl
  rw [e]
  apply Int32.toInt_inj.mp
  omega
theorem own_bb (b : Int32) : b.toInt8.toInt32.toInt8.toInt32 = b.toInt8.toInt32 := by simp
theorem own_m255 (x : Int32) : ¬ (x &&& 255) < 0 ∧ ¬ (255 : Int32) < (x &&& 255) := by
  have h : (x &&& 255).toInt = x.toInt % (2 ^ 8 : Nat) := c_mask x 255 8 (by decide) (by decide)
  have e1 : (0 : Int32).toInt = 0 := rfl
  have e2 : (255 : Int32).toInt = 255 := rfl
  rw [Int32.lt_iff_toInt_lt, Int32.lt_iff_toInt_lt]
  omega
theorem own_255 {x : Int32} (h : ¬ x < 0 ∧ ¬ (255 : Int32) < x) : ¬ x < 0 ∧ ¬ (65535 : Int32) < x := by
  have e1 : (0 : Int32).toInt = 0 := rfl
  have e2 : (65535 : Int32).toInt = 65535 := rfl
  have e3 : (255 : Int32).toInt = 255 := rfl
  rw [Int32.lt_iff_toInt_lt, Int32.lt_iff_toInt_lt] at h ⊢
  omega
theorem own_i2c {x : Int32} (h : ¬ x < 0 ∧ ¬ (255 : Int32) < x) : x.toUInt32.toUInt16.toUInt32.toInt32 = x := own_cc (own_255 h)
theorem own_eqI {args : Array Value} {s : State} {t u : Term} {x y : Int32} (ht : t.eval args s none [] s = some (.int x)) (hu : u.eval args s none [] s = some (.int y)) : (Jvm.Cond.eq t u).value args s none s [] = some (decide (x = y)) := by simp [Cond.value, ht, hu]

def own_b (c : Int32) : Value := .int ((Int32.toInt8 c).toInt32)
def Lat (cs : List Int32) : Prop := ∀ c ∈ cs, ¬ c < 0 ∧ ¬ (255 : Int32) < c
/-- the String b, its bytes in the array t, says the chars cs, all of Latin-1 -/
def Str (Z : State) (h : Heap) (b t : Addr) (k : ClassId) (cs : List Int32) : Prop := Obj Z h b "java/lang/String" [("java/lang/String", "value", "[B", .ref t), ("java/lang/String", "coder", "B", .int 0)] ∧ Arv Z h t k .byte (Int32.ofNat cs.length) (cs.map own_b) (.int 0) ∧ Lat cs ∧ cs.length < 1000000
theorem Str.keep {Z : State} {h h' : Heap} {b t : Addr} {k : ClassId} {cs : List Int32} {ws : List Addr} (S : Str Z h b t k cs) (K : Keep h h' ws) (q : b ∉ ws) (r : t ∉ ws) : Str Z h' b t k cs := ⟨S.1.keep K q, S.2.1.keep K r, S.2.2⟩
theorem own_n0 (n : Nat) (h : n < 2147483648) : (Int32.ofNat n).toInt = n := Int32.toInt_ofNat_small h
theorem own_nn {n : Nat} (h : n < 2147483648) : ¬ Int32.ofNat n < 0 := by rw [Int32.lt_iff_toInt_lt, own_n0 n h]; show ¬ (n : Int) < 0; omega
theorem own_lt {a b : Nat} (h : a < b) (hb : b < 2147483648) : Int32.ofNat a < Int32.ofNat b := by rw [Int32.lt_iff_toInt_lt, own_n0 a (by omega), own_n0 b hb]; omega
theorem own_nlt {a b : Nat} (h : b ≤ a) (hb : a < 2147483648) : ¬ Int32.ofNat a < Int32.ofNat b := by rw [Int32.lt_iff_toInt_lt, own_n0 a hb, own_n0 b (by omega)]; omega
theorem own_cl {n : Nat} (h : n < 2147483648) : (Int32.ofNat n).toNatClampNeg = n := by
  have := own_n0 n h
  simp only [Int32.toNatClampNeg, this]; rfl
theorem own_inj {a b : Nat} (ha : a < 2147483648) (hb : b < 2147483648) : Int32.ofNat a = Int32.ofNat b ↔ a = b := ⟨fun q => by have := congrArg Int32.toInt q; rw [own_n0 a ha, own_n0 b hb] at this; omega, fun q => by rw [q]⟩
theorem own_add {a b : Nat} (h : a + b < 2147483648) : Int32.ofNat a + Int32.ofNat b = Int32.ofNat (a + b) := by
  apply Int32.toInt_inj.mp
  rw [Int32.toInt_add, own_n0 a (by omega), own_n0 b (by omega), own_n0 _ h]
  rw [Int.bmod_eq_of_le (by omega) (by omega)]; omega
theorem own_b8 {c d : Int32} (hc : ¬ c < 0 ∧ ¬ (255 : Int32) < c) (hd : ¬ d < 0 ∧ ¬ (255 : Int32) < d) (h : (Int32.toInt8 c).toInt32 = (Int32.toInt8 d).toInt32) : c = d := by
  have e1 : (0 : Int32).toInt = 0 := rfl
  have e2 : (255 : Int32).toInt = 255 := rfl
  rw [Int32.lt_iff_toInt_lt, Int32.lt_iff_toInt_lt] at hc hd
  have h1 := c_i2b c
  have h2 := c_i2b d
  rw [h] at h1
  apply Int32.toInt_inj.mp
  omega
theorem own_bmap : ∀ {cs ds : List Int32}, Lat cs → Lat ds → (cs.map (fun c => (Int32.toInt8 c).toInt32) = ds.map (fun c => (Int32.toInt8 c).toInt32) ↔ cs = ds)
  | [], [], _, _ => by simp
  | [], d :: ds, _, _ => by simp
  | c :: cs, [], _, _ => by simp
  | c :: cs, d :: ds, hc, hd => by
    have ih := own_bmap (cs := cs) (ds := ds) (fun x hx => hc x (List.mem_cons_of_mem _ hx)) (fun x hx => hd x (List.mem_cons_of_mem _ hx))
    simp only [List.map_cons, List.cons.injEq, ih]
    exact and_congr_left fun _ => ⟨own_b8 (hc c (List.mem_cons_self ..)) (hd d (List.mem_cons_self ..)), fun q => by rw [q]⟩
theorem own_getb (xs : List Int32) (i : Nat) : (xs.map Value.int).getD i (.int 0) = .int (xs.getD i 0) := by
  simp only [List.getD_eq_getElem?_getD, List.getElem?_map]; cases xs[i]? <;> rfl
theorem own_mapb (cs : List Int32) : cs.map own_b = (cs.map fun c => (Int32.toInt8 c).toInt32).map Value.int := by simp [own_b, Function.comp_def]
theorem own_take {xs ys : List Int32} {i : Nat} (h : xs.take i = ys.take i) (e : xs.getD i 0 = ys.getD i 0) (h1 : i < xs.length) (h2 : i < ys.length) : xs.take (i + 1) = ys.take (i + 1) := by
  rw [List.take_succ_eq_append_getElem h1, List.take_succ_eq_append_getElem h2, h]
  congr 2
  simpa [List.getD_eq_getElem?_getD, h1, h2] using e
theorem own_all {xs ys : List Int32} (hl : xs.length = ys.length) {i : Nat} (hi : i = ys.length) (hp : xs.take i = ys.take i) : xs = ys := by
  subst hi; rw [List.take_length, ← hl, List.take_length] at hp; exact hp
theorem own_drop {xs ys : List Int32} {i : Nat} (e : ¬ xs.getD i 0 = ys.getD i 0) : ¬ xs = ys := fun q => e (by rw [q])
theorem own_sub {a b : Nat} (h : b ≤ a) (ha : a < 2147483648) : Int32.ofNat a - Int32.ofNat b = Int32.ofNat (a - b) := by
  apply Int32.toInt_inj.mp
  rw [Int32.toInt_sub, own_n0 a ha, own_n0 b (by omega), own_n0 _ (by omega)]
  rw [Int.bmod_eq_of_le (by omega) (by omega)]; omega
theorem own_shr0 (x : Int32) : x >>> ((0 : Int32) &&& 31) = x := by
  apply Int32.toInt_inj.mp
  have := c_ishr x 0 0 (by decide)
  rw [this]; simp
theorem own_shl0 (x : Int32) : x <<< ((0 : Int32) &&& 31) = x := by
  apply Int32.toInt_inj.mp
  have h := c_ishl x 0 0 (by decide)
  have h1 := Int32.toInt_lt (x <<< ((0 : Int32) &&& 31)); have h2 := Int32.le_toInt (x <<< ((0 : Int32) &&& 31)); have h3 := Int32.toInt_lt x; have h4 := Int32.le_toInt x
  omega
/-- a copy of a whole array's values into a longer fresh one says the same -/
theorem own_copy (vs : List Value) (d : Value) (n c : Nat) (h1 : vs.length ≤ c) (h2 : c ≤ n) (i : Nat) : (((List.replicate n d).take 0 ++ (List.range c).map fun i => vs.getD (0 + i) d) ++ (List.replicate n d).drop (0 + c)).getD i d = vs.getD i d := by
  simp only [List.take_zero, List.nil_append, Nat.zero_add, List.getD_eq_getElem?_getD]
  by_cases q : i < c
  · rw [List.getElem?_append_left (by simpa using q)]; simp [q]
  · rw [List.getElem?_append_right (by simpa using q), List.getElem?_eq_none (l := vs) (by omega)]
    simp only [List.getElem?_drop, List.getElem?_replicate]; split <;> rfl
/-- values written behind the first ones -/
theorem own_app (xs ys : List Value) (d : Value) (m : Nat) (i : Nat) : (((xs ++ List.replicate (ys.length + m) d).take xs.length ++ ys) ++ (xs ++ List.replicate (ys.length + m) d).drop (xs.length + ys.length)).getD i d = (xs ++ ys).getD i d := by
  rw [List.take_left, List.drop_append, List.drop_eq_nil_of_le (by omega), List.nil_append, show xs.length + ys.length - xs.length = ys.length by omega, List.drop_replicate]
  simp only [List.getD_eq_getElem?_getD]
  by_cases q : i < (xs ++ ys).length
  · rw [List.getElem?_append_left q]
  · rw [List.getElem?_append_right (by omega), List.getElem?_eq_none (l := xs ++ ys) (by omega), List.getElem?_replicate]; split <;> rfl
theorem own_rng (ys : List Value) (d : Value) : (List.range ys.length).map (fun i => ys.getD (0 + i) d) = ys := by
  apply List.ext_getElem?; intro i
  by_cases q : i < ys.length
  · simp [q]
  · rw [List.getElem?_eq_none (by simpa using q), List.getElem?_eq_none (by simpa using q)]
theorem own_lat0 : Lat [] := fun _ q => nomatch q
theorem own_lat_app {xs ys : List Int32} (h1 : Lat xs) (h2 : Lat ys) : Lat (xs ++ ys) := fun c hc => (List.mem_append.mp hc).elim (h1 c) (h2 c)
/-- the builder a, its bytes in the array t of length cap, holds the chars xs, all of Latin-1 -/
def SBd (Z : State) (h : Heap) (a t : Addr) (k : ClassId) (cap : Nat) (xs : List Int32) : Prop := Obj Z h a "java/lang/StringBuilder" [("java/lang/AbstractStringBuilder", "value", "[B", (.ref t)), ("java/lang/AbstractStringBuilder", "coder", "B", (.int (0 : Int32))), ("java/lang/AbstractStringBuilder", "count", "I", (.int (Int32.ofNat xs.length))), ("java/lang/AbstractStringBuilder", "maybeLatin1", "Z", (.int (0 : Int32)))] ∧ Arv Z h t k .byte (Int32.ofNat cap) (xs.map own_b) (.int 0) ∧ Exa Z h t "[B" ∧ Lat xs ∧ xs.length ≤ cap ∧ cap < 1000000
theorem own_ltI {a b : Nat} (ha : a < 2147483648) (hb : b < 2147483648) : Int32.ofNat a < Int32.ofNat b ↔ a < b := by rw [Int32.lt_iff_toInt_lt, own_n0 a ha, own_n0 b hb]; omega
def own_lo (c : Int32) : Int32 := (Int32.toInt8 c).toInt32
def own_hi (c : Int32) : Int32 := (Int32.toInt8 (c >>> ((8 : Int32) &&& 31))).toInt32
def own_w (c : Int32) : List Value := [.int (own_lo c), .int (own_hi c)]
def own_ws (cs : List Int32) : List Value := cs.flatMap own_w
theorem own_wsl (cs : List Int32) : (own_ws cs).length = 2 * cs.length := by
  induction cs with
  | nil => rfl
  | cons c cs ih => rw [own_ws, List.flatMap_cons, List.length_append, ← own_ws, ih, List.length_cons]; show 2 + _ = _; omega
theorem own_wsa (xs ys : List Int32) : own_ws (xs ++ ys) = own_ws xs ++ own_ws ys := List.flatMap_append ..
theorem own_shl1 {n : Nat} (h : n < 1073741824) : Int32.ofNat n <<< ((1 : Int32) &&& 31) = Int32.ofNat (2 * n) := by
  apply Int32.toInt_inj.mp
  have h1 := c_ishl (Int32.ofNat n) 1 1 (by decide)
  rw [own_n0 n (by omega)] at h1
  rw [own_n0 _ (by omega)]
  have h2 := Int32.toInt_lt (Int32.ofNat n <<< ((1 : Int32) &&& 31)); have h3 := Int32.le_toInt (Int32.ofNat n <<< ((1 : Int32) &&& 31))
  omega
theorem own_shr1 {n : Nat} (h : n < 1073741824) : Int32.ofNat (2 * n) >>> ((1 : Int32) &&& 31) = Int32.ofNat n := by
  apply Int32.toInt_inj.mp
  have h1 := c_ishr (Int32.ofNat (2 * n)) 1 1 (by decide)
  rw [h1, own_n0 _ (by omega), own_n0 _ (by omega)]; omega
theorem own_put (xs : List Int32) (c : Int32) : ((own_ws xs ++ List.replicate 2 (Value.int 0)).set (2 * xs.length) (.int (own_lo c))).set (2 * xs.length + 1) (.int (own_hi c)) = own_ws (xs ++ [c]) := by
  rw [own_wsa, ← own_wsl, List.set_append_right _ _ (Nat.le_refl _), List.set_append_right _ _ (Nat.le_succ _)]
  simp [own_ws, own_w]
theorem own_getw : ∀ (xs : List Int32) (i : Nat), i < xs.length → (own_ws xs).getD (2 * i) (.int 0) = .int (own_lo (xs.getD i 0)) ∧ (own_ws xs).getD (2 * i + 1) (.int 0) = .int (own_hi (xs.getD i 0))
  | [], i, h => absurd h (Nat.not_lt_zero _)
  | c :: xs, 0, _ => ⟨rfl, rfl⟩
  | c :: xs, i + 1, h => by
    have := own_getw xs i (Nat.lt_of_succ_lt_succ h)
    have e : own_ws (c :: xs) = .int (own_lo c) :: .int (own_hi c) :: own_ws xs := rfl
    rw [e, show 2 * (i + 1) = 2 * i + 1 + 1 by omega]
    exact this
theorem own_or {a b : Nat} (ha : a < 256) (hb : b < 256) : Int32.ofNat a ||| Int32.ofNat (256 * b) = Int32.ofNat (256 * b + a) := by
  have h : 256 * b + a = 256 * b ||| a := Nat.two_pow_add_eq_or_of_lt (i := 8) ha b
  rw [h, Nat.or_comm]
  apply Int32.toBitVec_inj.mp
  rw [Int32.toBitVec_or]
  show BitVec.ofNat 32 a ||| BitVec.ofNat 32 (256 * b) = BitVec.ofNat 32 (a ||| 256 * b)
  rw [BitVec.ofNat_or]
theorem own_wchar {c : Int32} (h : ¬ c < 0 ∧ ¬ (65535 : Int32) < c) : ((own_lo c &&& 255) <<< ((0 : Int32) &&& 31)) ||| ((own_hi c &&& 255) <<< ((8 : Int32) &&& 31)) = c := by
  have e1 : (0 : Int32).toInt = 0 := rfl
  have e2 : (65535 : Int32).toInt = 65535 := rfl
  rw [Int32.lt_iff_toInt_lt, Int32.lt_iff_toInt_lt] at h
  have h1 : (own_lo c &&& 255).toInt = (own_lo c).toInt % (2 ^ 8 : Nat) := c_mask _ 255 8 (by decide) (by decide)
  have h2 : (own_hi c &&& 255).toInt = (own_hi c).toInt % (2 ^ 8 : Nat) := c_mask _ 255 8 (by decide) (by decide)
  have h3 := c_i2b c
  have h4 := c_i2b (c >>> ((8 : Int32) &&& 31))
  have h5 := c_ishr c 8 8 (by decide)
  have h6 := c_ishl (own_lo c &&& 255) 0 0 (by decide)
  have h7 := c_ishl (own_hi c &&& 255) 8 8 (by decide)
  have b1 := Int32.toInt_lt ((own_lo c &&& 255) <<< ((0 : Int32) &&& 31)); have b2 := Int32.le_toInt ((own_lo c &&& 255) <<< ((0 : Int32) &&& 31))
  have b3 := Int32.toInt_lt ((own_hi c &&& 255) <<< ((8 : Int32) &&& 31)); have b4 := Int32.le_toInt ((own_hi c &&& 255) <<< ((8 : Int32) &&& 31))
  have d1 : (own_lo c).toInt = (Int32.toInt8 c).toInt32.toInt := rfl
  have d2 : (own_hi c).toInt = (Int32.toInt8 (c >>> ((8 : Int32) &&& 31))).toInt32.toInt := rfl
  obtain ⟨a, ha⟩ : ∃ a : Nat, (a : Int) = c.toInt % 256 := ⟨(c.toInt % 256).toNat, by omega⟩
  obtain ⟨b, hb⟩ : ∃ b : Nat, (b : Int) = c.toInt / 256 := ⟨(c.toInt / 256).toNat, by omega⟩
  have x1 : (own_lo c &&& 255) <<< ((0 : Int32) &&& 31) = Int32.ofNat a := Int32.toInt_inj.mp (by rw [own_n0 a (by omega)]; omega)
  have x2 : (own_hi c &&& 255) <<< ((8 : Int32) &&& 31) = Int32.ofNat (256 * b) := Int32.toInt_inj.mp (by rw [own_n0 _ (by omega)]; omega)
  rw [x1, x2, own_or (by omega) (by omega)]
  exact Int32.toInt_inj.mp (by rw [own_n0 _ (by omega)]; omega)
theorem own_take1 {cs : List Int32} {i : Nat} (h : i < cs.length) : cs.take i ++ [cs.getD i 0] = cs.take (i + 1) := by
  rw [List.take_succ_eq_append_getElem h, List.getD_eq_getElem?_getD, List.getElem?_eq_getElem h]; rfl
theorem own_tkl {cs : List Int32} {i : Nat} (h : i ≤ cs.length) : (cs.take i).length = i := by rw [List.length_take]; omega
theorem own_or2 {a b : Nat} : Int32.ofNat a ||| Int32.ofNat b = Int32.ofNat (a ||| b) := by
  apply Int32.toBitVec_inj.mp
  rw [Int32.toBitVec_or]
  show BitVec.ofNat 32 a ||| BitVec.ofNat 32 b = BitVec.ofNat 32 (a ||| b)
  rw [BitVec.ofNat_or]
theorem own_orlt {a b : Nat} (ha : a < 1073741824) (hb : b < 1073741824) : a ||| b < 1073741824 := Nat.or_lt_two_pow (n := 30) ha hb
/-- chars of Java -/
def Chs (cs : List Int32) : Prop := ∀ c ∈ cs, ¬ c < 0 ∧ ¬ (65535 : Int32) < c
/-- the String b, its bytes in the array t, says the chars cs, two bytes each -/
def Stw (Z : State) (h : Heap) (b t : Addr) (k : ClassId) (cs : List Int32) : Prop := Obj Z h b "java/lang/String" [("java/lang/String", "value", "[B", .ref t), ("java/lang/String", "coder", "B", .int 1)] ∧ Arv Z h t k .byte (Int32.ofNat (2 * cs.length)) (own_ws cs) (.int 0) ∧ Chs cs ∧ cs.length < 1000000
theorem Stw.keep {Z : State} {h h' : Heap} {b t : Addr} {k : ClassId} {cs : List Int32} {ws : List Addr} (S : Stw Z h b t k cs) (K : Keep h h' ws) (q : b ∉ ws) (r : t ∉ ws) : Stw Z h' b t k cs := ⟨S.1.keep K q, S.2.1.keep K r, S.2.2⟩
theorem own_chg {ys : List Int32} (h : Chs ys) {i : Nat} (hi : i < ys.length) : ¬ ys.getD i 0 < 0 ∧ ¬ (65535 : Int32) < ys.getD i 0 := by
  rw [List.getD_eq_getElem?_getD, List.getElem?_eq_getElem hi]; exact h _ (List.getElem_mem hi)
theorem own_setb (xs : List Int32) (c : Int32) (m : Nat) : ((xs.map own_b) ++ List.replicate (1 + m) (Value.int 0)).set xs.length (own_b c) = (xs ++ [c]).map own_b ++ List.replicate m (.int 0) := by
  rw [show 1 + m = m + 1 by omega, List.replicate_succ, ← List.length_map (f := own_b) (as := xs), List.set_append_right _ _ (Nat.le_refl _), Nat.sub_self, List.set_cons_zero, List.map_append, List.append_assoc]; rfl
theorem own_latof {cs : List Int32} (hC : Chs cs) (h : ∀ i, i < cs.length → ¬ (255 : Int32) < cs.getD i 0) : Lat cs := fun c hc => by
  obtain ⟨i, hi, rfl⟩ := List.getElem_of_mem hc
  have := h i hi
  rw [List.getD_eq_getElem?_getD, List.getElem?_eq_getElem hi] at this
  exact ⟨(hC _ hc).1, this⟩
theorem own_b255 {c : Int32} (h : ¬ c < 0 ∧ ¬ (255 : Int32) < c) : (Int32.toInt8 c).toInt32 &&& 255 = c := by
  have e1 : (0 : Int32).toInt = 0 := rfl
  have e2 : (255 : Int32).toInt = 255 := rfl
  rw [Int32.lt_iff_toInt_lt, Int32.lt_iff_toInt_lt] at h
  have h1 := c_i2b c
  have h2 : ((Int32.toInt8 c).toInt32 &&& 255).toInt = ((Int32.toInt8 c).toInt32).toInt % (2 ^ 8 : Nat) := c_mask _ 255 8 (by decide) (by decide)
  apply Int32.toInt_inj.mp
  omega
theorem own_gbv (ys : List Int32) (i : Nat) : (ys.map own_b).getD i (.int 0) = .int ((Int32.toInt8 (ys.getD i 0)).toInt32) := by
  rw [own_mapb, own_getb]; congr 1; simp only [List.getD_eq_getElem?_getD, List.getElem?_map]; cases ys[i]? <;> rfl
theorem own_latg {ys : List Int32} (h : Lat ys) {i : Nat} (hi : i < ys.length) : ¬ ys.getD i 0 < 0 ∧ ¬ (255 : Int32) < ys.getD i 0 := by
  rw [List.getD_eq_getElem?_getD, List.getElem?_eq_getElem hi]; exact h _ (List.getElem_mem hi)
def own_8 (z : Int32) : Int32 := (Int32.toInt8 z).toInt32
theorem own_88 (z : Int32) : (Int32.toInt8 (own_8 z)).toInt32 = own_8 z := own_bb z
theorem own_map8 (cs : List Int32) : cs.map own_b = (cs.map own_8).map Value.int := own_mapb cs
theorem own_get8 (cs : List Int32) (i : Nat) : (cs.map own_b).getD i (.int 0) = .int (own_8 (cs.getD i 0)) := own_gbv cs i
theorem own_setL (L : List Int32) (y : Int32) : ((L.map Value.int) ++ List.replicate (1 + 0) (Value.int 0)).set L.length (.int y) = (L ++ [y]).map Value.int := by
  rw [← List.length_map (f := Value.int) (as := L), List.set_append_right _ _ (Nat.le_refl _), Nat.sub_self, List.map_append]; rfl
/-- a byte behind the bytes L -/
theorem own_bapp {w : Nat} {l : Launch} {Z : State} {EL : List (String × Nat)} {n0 : Nat} {own nm : String} {code : ByteArray} {ml : Nat} {ret : Option FieldType} {R : Room} {Q : Option Value → Heap → List Addr → Prop} {D : List Addr} {h : Heap} {kc ks pc pc' : Nat} {ls : Array Slot} {rest : List Value} {a : Addr} {k : ClassId} {x y : Int32} {L : List Int32} {c j : Nat} (hd : Ins code pc .bastore 1 pc') (A : Arv Z h a k .byte (Int32.ofNat c) (L.map Value.int) (.int 0)) (hj : j = L.length) (hc : L.length < c) (hcap : c < 2147483648) (hy : x.toInt8.toInt32 = y) (hg : n0 ≤ a) (hD : a ∈ D)
    (K : ∀ h', Keep h h' [a] → Arv Z h' a k .byte (Int32.ofNat c) ((L ++ [y]).map Value.int) (.int 0) → Runs w l Z EL n0 own nm code ml ret R Q D h' kc ks pc' ls rest) : Runs w l Z EL n0 own nm code ml ret R Q D h kc ks pc ls (.int x :: .int (Int32.ofNat j) :: .ref a :: rest) := by
  subst hj
  have A1 : Arv Z h a k .byte (Int32.ofNat c) (L.map Value.int ++ List.replicate (1 + 0) (.int 0)) (.int 0) := A.pad (pad_rep _ _ _)
  refine Runs.bastore (i := L.length) (y := y) hd A1 ⟨own_nn (by omega), own_lt (by omega) (by omega)⟩ (own_cl (by omega)) (by simp) hy hg (Or.inl hD) ?_
  intro h' K' A'
  exact K h' K' (by rw [← own_setL]; exact A')
theorem own_cfl {n m : Nat} (hn : n < 1000000) (hm : m < 1000000) : (Int32.toInt8 (Jvm.Free.XT.ushr (Int32.ofNat n - Int32.ofNat m) 31)).toInt32 = if m ≤ n then 0 else 1 := by
  have h1 : (Jvm.Free.XT.ushr (Int32.ofNat n - Int32.ofNat m) 31).toInt = _ := c_iushr (Int32.ofNat n - Int32.ofNat m) 31 31 (by decide) (by decide)
  have h2 : (Int32.ofNat n - Int32.ofNat m).toInt = (n : Int) - m := by rw [Int32.toInt_sub, own_n0 n (by omega), own_n0 m (by omega), Int.bmod_eq_of_le (by omega) (by omega)]
  have h3 := c_i2b (Jvm.Free.XT.ushr (Int32.ofNat n - Int32.ofNat m) 31)
  rw [h2] at h1
  have e0 : (0 : Int32).toInt = 0 := rfl
  have e1 : (1 : Int32).toInt = 1 := rfl
  split
  · exact Int32.toInt_inj.mp (by rw [e0]; omega)
  · exact Int32.toInt_inj.mp (by rw [e1]; omega)
/-- the String b says the chars cs; its bytes are one a char where all are of Latin-1, else two -/
def Sx (Z : State) (h : Heap) (b t : Addr) (k : ClassId) (cs : List Int32) : Prop := Str Z h b t k cs ∨ (¬ Lat cs ∧ Stw Z h b t k cs)
theorem Sx.keep {Z : State} {h h' : Heap} {b t : Addr} {k : ClassId} {cs : List Int32} {ws : List Addr} (S : Sx Z h b t k cs) (K : Keep h h' ws) (q : b ∉ ws) (r : t ∉ ws) : Sx Z h' b t k cs := S.imp (fun S => S.keep K q r) (fun S => ⟨S.1, S.2.keep K q r⟩)
/-- the builder a, its bytes in the array t of length 2 * cap, holds the chars xs, two bytes each -/
def SBw (Z : State) (h : Heap) (a t : Addr) (k : ClassId) (cap : Nat) (xs : List Int32) : Prop := Obj Z h a "java/lang/StringBuilder" [("java/lang/AbstractStringBuilder", "value", "[B", (.ref t)), ("java/lang/AbstractStringBuilder", "coder", "B", (.int (1 : Int32))), ("java/lang/AbstractStringBuilder", "count", "I", (.int (Int32.ofNat xs.length))), ("java/lang/AbstractStringBuilder", "maybeLatin1", "Z", (.int (0 : Int32)))] ∧ Arv Z h t k .byte (Int32.ofNat (2 * cap)) (own_ws xs) (.int 0) ∧ Exa Z h t "[B" ∧ Chs xs ∧ xs.length ≤ cap ∧ cap < 1000000
theorem own_chl {xs : List Int32} (h : Lat xs) : Chs xs := fun c hc => own_255 (h c hc)
theorem own_cha_app {xs ys : List Int32} (h1 : Chs xs) (h2 : Chs ys) : Chs (xs ++ ys) := fun c hc => (List.mem_append.mp hc).elim (h1 c) (h2 c)
def own_enc (c : Int32) : List Int32 := if c < 128 then [own_8 c] else if c < 2048 then [own_8 ((192 : Int32) ||| (c >>> ((6 : Int32) &&& 31))), own_8 ((128 : Int32) ||| (c &&& (63 : Int32)))] else [own_8 ((224 : Int32) ||| (c >>> ((12 : Int32) &&& 31))), own_8 ((128 : Int32) ||| ((c >>> ((6 : Int32) &&& 31)) &&& (63 : Int32))), own_8 ((128 : Int32) ||| (c &&& (63 : Int32)))]
/-- the bytes of UTF-8 of chars that are no surrogates -/
def own_e8 (cs : List Int32) : List Int32 := cs.flatMap own_enc
theorem own_e8a (xs ys : List Int32) : own_e8 (xs ++ ys) = own_e8 xs ++ own_e8 ys := List.flatMap_append ..
theorem own_enc1 {c : Int32} (h : c < 128) : own_enc c = [own_8 c] := if_pos h
theorem own_enc2 {c : Int32} (h : ¬ c < 128) (h2 : c < 2048) : own_enc c = [own_8 ((192 : Int32) ||| (c >>> ((6 : Int32) &&& 31))), own_8 ((128 : Int32) ||| (c &&& (63 : Int32)))] := (if_neg h).trans (if_pos h2)
theorem own_enc3 {c : Int32} (h : ¬ c < 128) (h2 : ¬ c < 2048) : own_enc c = [own_8 ((224 : Int32) ||| (c >>> ((12 : Int32) &&& 31))), own_8 ((128 : Int32) ||| ((c >>> ((6 : Int32) &&& 31)) &&& (63 : Int32))), own_8 ((128 : Int32) ||| (c &&& (63 : Int32)))] := (if_neg h).trans (if_neg h2)
theorem own_encl (c : Int32) : 1 ≤ (own_enc c).length ∧ (own_enc c).length ≤ 3 := by
  by_cases h : c < 128
  · rw [own_enc1 h]; exact ⟨Nat.le_of_ble_eq_true rfl, Nat.le_of_ble_eq_true rfl⟩
  · by_cases h2 : c < 2048
    · rw [own_enc2 h h2]; exact ⟨Nat.le_of_ble_eq_true rfl, Nat.le_of_ble_eq_true rfl⟩
    · rw [own_enc3 h h2]; exact ⟨Nat.le_of_ble_eq_true rfl, Nat.le_of_ble_eq_true rfl⟩
theorem own_e8l (cs : List Int32) : (own_e8 cs).length ≤ 3 * cs.length := by
  induction cs with
  | nil => exact Nat.le_refl _
  | cons c cs ih => rw [own_e8, List.flatMap_cons, List.length_append, ← own_e8, List.length_cons]; have := own_encl c; omega
theorem own_encL {c : Int32} (h : ¬ (255 : Int32) < c) : (own_enc c).length ≤ 2 := by
  by_cases h1 : c < 128
  · rw [own_enc1 h1]; exact Nat.le_of_ble_eq_true rfl
  · have h2 : c < 2048 := by
      have e1 : (255 : Int32).toInt = 255 := rfl
      have e2 : (2048 : Int32).toInt = 2048 := rfl
      rw [Int32.lt_iff_toInt_lt] at h ⊢; omega
    rw [own_enc2 h1 h2]; exact Nat.le_refl _
theorem own_e8L {cs : List Int32} (h : Lat cs) : (own_e8 cs).length ≤ 2 * cs.length := by
  induction cs with
  | nil => exact Nat.le_refl _
  | cons c cs ih => rw [own_e8, List.flatMap_cons, List.length_append, ← own_e8, List.length_cons]; have := own_encL (h c (List.mem_cons_self ..)).2; have := ih (fun x hx => h x (List.mem_cons_of_mem _ hx)); omega
theorem own_e8s {cs : List Int32} {i : Nat} (h : i < cs.length) : own_e8 (cs.take (i + 1)) = own_e8 (cs.take i) ++ own_enc (cs.getD i 0) := by
  rw [← own_take1 h, own_e8a]; congr 1; simp [own_e8]
theorem own_neg8 {c : Int32} (h : ¬ c < 0 ∧ ¬ (255 : Int32) < c) : own_8 c < 0 ↔ ¬ c < 128 := by
  have e1 : (0 : Int32).toInt = 0 := rfl
  have e2 : (255 : Int32).toInt = 255 := rfl
  have e3 : (128 : Int32).toInt = 128 := rfl
  rw [Int32.lt_iff_toInt_lt, Int32.lt_iff_toInt_lt] at h
  have h1 := c_i2b c
  have h2 : (own_8 c).toInt = (Int32.toInt8 c).toInt32.toInt := rfl
  rw [Int32.lt_iff_toInt_lt, Int32.lt_iff_toInt_lt]
  omega
theorem own_lat2048 {c : Int32} (h : ¬ c < 0 ∧ ¬ (255 : Int32) < c) : c < 2048 := by
  have e2 : (255 : Int32).toInt = 255 := rfl
  have e3 : (2048 : Int32).toInt = 2048 := rfl
  rw [Int32.lt_iff_toInt_lt, Int32.lt_iff_toInt_lt] at h
  rw [Int32.lt_iff_toInt_lt]; omega
theorem own_8and63 (c : Int32) : own_8 c &&& 63 = c &&& 63 := by
  have h1 : (own_8 c &&& 63).toInt = (own_8 c).toInt % (2 ^ 6 : Nat) := c_mask _ 63 6 (by decide) (by decide)
  have h2 : (c &&& 63).toInt = c.toInt % (2 ^ 6 : Nat) := c_mask _ 63 6 (by decide) (by decide)
  have h3 := c_i2b c
  have h4 : (own_8 c).toInt = (Int32.toInt8 c).toInt32.toInt := rfl
  apply Int32.toInt_inj.mp
  omega
theorem own_e8p : ∀ {cs : List Int32}, Lat cs → (∀ i, i < cs.length → ¬ own_8 (cs.getD i 0) < 0) → own_e8 cs = cs.map own_8
  | [], _, _ => rfl
  | c :: cs, hL, h => by
    have ih := own_e8p (cs := cs) (fun x hx => hL x (List.mem_cons_of_mem _ hx)) (fun i hi => h (i + 1) (Nat.succ_lt_succ hi))
    have h0 : ¬ own_8 c < 0 := h 0 (Nat.succ_pos _)
    rw [own_neg8 (hL c (List.mem_cons_self ..)), Decidable.not_not] at h0
    show own_enc c ++ own_e8 cs = own_8 c :: cs.map own_8
    rw [own_enc1 h0, ih]; rfl
theorem own_mul3 {n : Nat} (h : n < 100000000) : Int32.ofNat n * 3 = Int32.ofNat (3 * n) := by
  apply Int32.toInt_inj.mp
  have h1 := c_imul (Int32.ofNat n) 3
  have e3 : (3 : Int32).toInt = 3 := rfl
  rw [own_n0 n (by omega), e3] at h1
  rw [own_n0 _ (by omega)]
  have h2 := Int32.toInt_lt (Int32.ofNat n * 3); have h3 := Int32.le_toInt (Int32.ofNat n * 3)
  omega
/-- no surrogates -/
def Nsr (cs : List Int32) : Prop := ∀ c ∈ cs, c < 55296 ∨ ¬ c < 57344
theorem own_nsg {cs : List Int32} (h : Nsr cs) {i : Nat} (hi : i < cs.length) : cs.getD i 0 < 55296 ∨ ¬ cs.getD i 0 < 57344 := by
  rw [List.getD_eq_getElem?_getD, List.getElem?_eq_getElem hi]; exact h _ (List.getElem_mem hi)
def own_tx (i : Nat) : String := match tables_1[i]? with | some (Jvm.Cond.stringLink _ _ t) => t | _ => ""
def own_T (i : Nat) : List Int32 := (own_tx i).toList.map fun c => Int32.ofNat c.toNat
theorem own_byte : ∀ n : Nat, n < 256 → Jvm.Lit.byteI n.toUInt16 = (Int32.toInt8 (Int32.ofNat n)).toInt32 := by decide +kernel
theorem own_Tb {i : Nat} (h : ∀ c ∈ (own_tx i).toList, c.toNat < 256) : (own_tx i).toList.map (fun c => Value.int (Jvm.Lit.byteI c.toNat.toUInt16)) = (own_T i).map own_b := by
  unfold own_T
  rw [List.map_map]
  exact List.map_congr_left fun c hc => congrArg Value.int (own_byte _ (h c hc))
theorem own_Tl {i : Nat} (h : ∀ c ∈ (own_tx i).toList, c.toNat < 256) : Lat (own_T i) := fun c hc => by
  unfold own_T at hc
  obtain ⟨d, hd, rfl⟩ := List.mem_map.mp hc
  have := h d hd
  refine ⟨own_nn (by omega), ?_⟩
  have e1 : (255 : Int32).toInt = 255 := rfl
  rw [Int32.lt_iff_toInt_lt, own_n0 _ (by omega), e1]; omega
theorem own_aS {α : Type} {P : α → Prop} {a : α} {l : List α} (h : P a) (k : ∀ x ∈ l, P x) : ∀ x ∈ a :: l, P x := fun x hx => by
  rcases List.mem_cons.mp hx with rfl | hx
  · exact h
  · exact k x hx
theorem own_a0 {α : Type} {P : α → Prop} : ∀ x ∈ ([] : List α), P x := fun _ q => nomatch q
theorem own_Tlen (i : Nat) : (own_T i).length = (own_tx i).toList.length := by unfold own_T; rw [List.length_map]
theorem own_c50 : ∀ c ∈ (own_tx 50).toList, c.toNat < 256 := by decide +kernel
theorem own_L50 : (own_T 50).length = 8 := by rw [own_Tlen]; decide +kernel
theorem own_k50 {Z : State} {a0 : Array Value} (hw : Wds Z a0) : (Jvm.Cond.stringLink "com/example/pacerd/pacerd/run/Outcome" 27 (own_tx 50)).before a0 Z = true := hw _ (List.mem_of_getElem? (i := 50) rfl)
theorem own_c20 : ∀ c ∈ (own_tx 20).toList, c.toNat < 256 := by decide +kernel
theorem own_L20 : (own_T 20).length = 0 := by rw [own_Tlen]; decide +kernel
theorem own_k20 {Z : State} {a0 : Array Value} (hw : Wds Z a0) : (Jvm.Cond.stringLink "java/lang/String" 7 (own_tx 20)).before a0 Z = true := hw _ (List.mem_of_getElem? (i := 20) rfl)
theorem own_sa {Z : State} {a0 : Array Value} (hw : Wds Z a0) : ∀ a ∈ Bundle.stringAtoms, a.before a0 Z = true := fun a ha => by
  simp only [Bundle.stringAtoms, List.mem_cons, List.not_mem_nil, or_false] at ha
  rcases ha with rfl | rfl | rfl | rfl | rfl | rfl | rfl
  · exact (w9 hw)
  · exact (w8 hw)
  · exact (w21 hw)
  · exact (w22 hw)
  · exact (w23 hw)
  · exact (w24 hw)
  · exact (w25 hw)
theorem own_EW {Z : State} {a0 : Array Value} (hw : Wds Z a0) : EW Z a0 [("com/example/pacerd/pacerd/run/Outcome", 27), ("java/lang/String", 7)] := (EW.cons (own_k50 hw) own_c50 (EW.cons (own_k20 hw) own_c20 EW.nil))
theorem own_and3 (x : Int32) : x &&& 3 = 0 ∨ x &&& 3 = 1 ∨ x &&& 3 = 2 ∨ x &&& 3 = 3 := by
  have h : (x &&& 3).toInt = x.toInt % (2 ^ 2 : Nat) := c_mask x 3 2 (by decide) (by decide)
  have e : ∀ k : Int32, (x &&& 3).toInt = k.toInt → x &&& 3 = k := fun k q => Int32.toInt_inj.mp q
  have h0 : (0 : Int32).toInt = 0 := rfl
  have h1 : (1 : Int32).toInt = 1 := rfl
  have h2 : (2 : Int32).toInt = 2 := rfl
  have h3 : (3 : Int32).toInt = 3 := rfl
  have : (x &&& 3).toInt = 0 ∨ (x &&& 3).toInt = 1 ∨ (x &&& 3).toInt = 2 ∨ (x &&& 3).toInt = 3 := by omega
  rcases this with q | q | q | q
  · exact Or.inl (e 0 (q.trans h0.symm))
  · exact Or.inr (Or.inl (e 1 (q.trans h1.symm)))
  · exact Or.inr (Or.inr (Or.inl (e 2 (q.trans h2.symm))))
  · exact Or.inr (Or.inr (Or.inr (e 3 (q.trans h3.symm))))
set_option maxRecDepth 65536 in
set_option maxHeartbeats 4000000 in
theorem own_cll (l : Launch) (Z : State) (a0 : Array Value) (hw : Wds Z a0) (n0 : Nat) (u t : Addr) (ku k : ClassId) (cs : List Int32) (hut : u ≠ t) (hcs : cs.length < 1000000) (hC : Chs cs) (h0 : Heap) (U0 : Arv Z h0 u ku .char (Int32.ofNat cs.length) (cs.map Value.int) (.int 0)) (gt : n0 ≤ t) (d : Nat) : ∀ (i : Nat) (h : Heap) (sl : Slot), (sl = .unset ∨ ∃ x : Int32, sl = .val (.int x)) → d + i = cs.length → (∀ j, j < i → ¬ (255 : Int32) < cs.getD j 0) → Keep h0 h [t] → Arv Z h t k .byte (Int32.ofNat cs.length) ((cs.take i).map own_b) (.int 0) → Runs 1 l Z [("com/example/pacerd/pacerd/run/Outcome", 27), ("java/lang/String", 7)] n0 "java/lang/StringUTF16" "compress" jdk_52_method_21_code 7 (some .int) ({ frames := 0, cells := 0, slots := 0, locals := 0 } : Room) (fun v h D' => ∃ j : Nat, v = some (.int (Int32.ofNat j)) ∧ j ≤ cs.length ∧ (∀ i, i < j → ¬ (255 : Int32) < cs.getD i 0) ∧ (j < cs.length → (255 : Int32) < cs.getD j 0) ∧ Keep h0 h [t] ∧ Arv Z h t k .byte (Int32.ofNat cs.length) ((cs.take j).map own_b) (.int 0) ∧ D' = []) [t] h 0 0 3 #[.val (.ref u), .val (.int (Int32.ofNat i)), .val (.ref t), .val (.int (Int32.ofNat i)), .val (.int (Int32.ofNat cs.length)), .val (.int (Int32.ofNat i)), sl] [] := by
  induction d with
  | zero =>
    intro i h sl hsl hd hp K T
    refine Runs.iload i40_3 rfl ?_
    refine Runs.iload i40_5 rfl ?_
    refine Runs.icY (t := 44) i40_7 (by decide) (flt (own_nlt (by omega) (by omega))).2.1 ?_
    refine Runs.iload i40_44 rfl ?_
    refine Runs.weak (D1 := []) (fun _ q => nomatch q) ?_
    exact Runs.retI (z := Int32.ofNat cs.length) i40_46 rfl (Or.inl rfl) rfl (by decide) (by decide) ⟨cs.length, rfl, Nat.le_refl _, fun j hj => hp j (by omega), fun q => absurd q (Nat.lt_irrefl _), K, by rw [show cs.take cs.length = cs.take i by rw [show i = cs.length by omega]]; exact T, rfl⟩
  | succ d ih =>
    intro i h sl hsl hd hp K T
    rcases hsl with rfl | ⟨cx, rfl⟩
    all_goals
      refine Runs.iload i40_3 rfl ?_
      refine Runs.iload i40_5 rfl ?_
      refine Runs.icN i40_7 (tlt (own_lt (by omega) (by omega))).2.1 ?_
      refine Runs.aloadN i40_10 rfl rfl ?_
      refine Runs.iloadN i40_11 rfl ?_
      refine Runs.caload (v := .int (cs.getD i 0)) i40_12 (U0.keep K (ninS hut nin0)) ⟨own_nn (by omega), own_lt (by omega) (by omega)⟩ (by rw [own_cl (by omega)]; exact own_getb _ _) ?_
      refine Runs.istore (ls' := #[.val (.ref u), .val (.int (Int32.ofNat i)), .val (.ref t), .val (.int (Int32.ofNat i)), .val (.int (Int32.ofNat cs.length)), .val (.int (Int32.ofNat i)), .val (.int (cs.getD i 0))]) i40_13 rfl ?_
      refine Runs.iload i40_15 rfl ?_
      refine Runs.sipush (v := (255 : Int32)) i40_17 (by decide) ?_
      by_cases hc20 : (255 : Int32) < (cs.getD i 0)
      · refine Runs.icN i40_20 (tlt hc20).2.2.2 ?_
        refine Runs.iload i40_23 rfl ?_
        refine Runs.weak (D1 := []) (fun _ q => nomatch q) ?_
        exact Runs.retI (z := Int32.ofNat i) i40_25 rfl (Or.inl rfl) rfl (by decide) (by decide) ⟨i, rfl, by omega, hp, fun _ => hc20, K, T, rfl⟩
      · refine Runs.icY (t := 26) i40_20 (by decide) (flt hc20).2.2.2 ?_
        refine Runs.aloadN i40_26 rfl rfl ?_
        refine Runs.iloadN i40_27 rfl ?_
        refine Runs.iload i40_28 rfl ?_
        refine Runs.i2b (z := ((Int32.toInt8 (cs.getD i 0)).toInt32)) i40_30 rfl ?_
        have T1 : Arv Z h t k .byte (Int32.ofNat cs.length) ((cs.take i).map own_b ++ List.replicate (1 + 0) (.int 0)) (.int 0) := T.pad (pad_rep _ _ _)
        refine Runs.bastore (i := i) (y := ((Int32.toInt8 (cs.getD i 0)).toInt32)) i40_31 T1 ⟨own_nn (by omega), own_lt (by omega) (by omega)⟩ (own_cl (by omega)) (by rw [List.length_append, List.length_map, own_tkl (show i ≤ cs.length by omega), List.length_replicate]; omega) (own_bb _) gt (Or.inl (List.mem_of_getElem? (i := 0) rfl)) ?_
        intro h_1 K_2 A_3
        have A_32 : Arv Z h_1 t k .byte (Int32.ofNat cs.length) ((cs.take (i + 1)).map own_b) (.int 0) := by
          have e := own_setb (cs.take i) (cs.getD i 0) 0
          rw [own_tkl (show i ≤ cs.length by omega), own_take1 (by omega), List.replicate_zero, List.append_nil] at e
          rw [← e]; exact A_3
        refine Runs.iinc (z := (Int32.ofNat (i + 1))) (ls' := #[.val (.ref u), .val (.int (Int32.ofNat (i + 1))), .val (.ref t), .val (.int (Int32.ofNat i)), .val (.int (Int32.ofNat cs.length)), .val (.int (Int32.ofNat i)), .val (.int (cs.getD i 0))]) i40_32 rfl (own_add (b := 1) (by omega)) rfl ?_
        refine Runs.iinc (z := (Int32.ofNat (i + 1))) (ls' := #[.val (.ref u), .val (.int (Int32.ofNat (i + 1))), .val (.ref t), .val (.int (Int32.ofNat (i + 1))), .val (.int (Int32.ofNat cs.length)), .val (.int (Int32.ofNat i)), .val (.int (cs.getD i 0))]) i40_35 rfl (own_add (b := 1) (by omega)) rfl ?_
        refine Runs.iinc (z := (Int32.ofNat (i + 1))) (ls' := #[.val (.ref u), .val (.int (Int32.ofNat (i + 1))), .val (.ref t), .val (.int (Int32.ofNat (i + 1))), .val (.int (Int32.ofNat cs.length)), .val (.int (Int32.ofNat (i + 1))), .val (.int (cs.getD i 0))]) i40_38 rfl (own_add (b := 1) (by omega)) rfl ?_
        refine Runs.goto (t := 3) i40_41 (by decide) ?_
        exact ih (i + 1) _ (.val (.int (cs.getD i 0))) (Or.inr ⟨_, rfl⟩) (by omega) (fun j hj => by rcases Nat.lt_or_ge j i with q | q; exact hp j q; rw [show j = i by omega]; exact hc20) (K.trans K_2 (allS (Or.inl (List.mem_of_getElem? (i := 0) rfl)) all0)) A_32
set_option maxRecDepth 65536 in
set_option maxHeartbeats 4000000 in
theorem own_cpl (l : Launch) (Z : State) (a0 : Array Value) (hw : Wds Z a0) (n0 : Nat) (u t : Addr) (ku k : ClassId) (cs : List Int32) (hut : u ≠ t) (hcs : cs.length < 1000000) (hC : Chs cs) (h0 : Heap) (U0 : Arv Z h0 u ku .char (Int32.ofNat cs.length) (cs.map Value.int) (.int 0)) (gt : n0 ≤ t) (T0 : Arv Z h0 t k .byte (Int32.ofNat cs.length) (([] : List Int32).map own_b) (.int 0)) : Con 1 l Z [("com/example/pacerd/pacerd/run/Outcome", 27), ("java/lang/String", 7)] n0 (⟨"java/lang/StringUTF16", "compress", "([CI[BII)I"⟩ : MethodName) jdk_52_method_21_code 7 (some .int) ({ frames := 0, cells := 0, slots := 0, locals := 0 } : Room) #[(.ref u), (.int (0 : Int32)), (.ref t), (.int (0 : Int32)), (.int (Int32.ofNat cs.length))] [t] h0 (fun v h D' => ∃ j : Nat, v = some (.int (Int32.ofNat j)) ∧ j ≤ cs.length ∧ (∀ i, i < j → ¬ (255 : Int32) < cs.getD i 0) ∧ (j < cs.length → (255 : Int32) < cs.getD j 0) ∧ Keep h0 h [t] ∧ Arv Z h t k .byte (Int32.ofNat cs.length) ((cs.take j).map own_b) (.int 0) ∧ D' = []) := by
  refine Con.of_runs (ls := #[.val (.ref u), .val (.int (0 : Int32)), .val (.ref t), .val (.int (0 : Int32)), .val (.int (Int32.ofNat cs.length)), .unset, .unset]) (by decide +kernel) (ef rfl rfl) ?_
  refine Runs.iconst (v := (0 : Int32)) i40_0 (by decide) ?_
  refine Runs.istore (ls' := #[.val (.ref u), .val (.int (0 : Int32)), .val (.ref t), .val (.int (0 : Int32)), .val (.int (Int32.ofNat cs.length)), .val (.int (0 : Int32)), .unset]) i40_1 rfl ?_
  exact own_cll l Z a0 hw n0 u t ku k cs hut hcs hC h0 U0 gt cs.length 0 _ .unset (Or.inl rfl) (by omega) (fun _ q => absurd q (Nat.not_lt_zero _)) (Keep.refl _ _) T0
set_option maxRecDepth 65536 in
set_option maxHeartbeats 4000000 in
theorem own_ubl (l : Launch) (Z : State) (a0 : Array Value) (hw : Wds Z a0) (n0 : Nat) (n : Nat) (hn : n < 1000000) (h0 : Heap) : Con 1 l Z [("com/example/pacerd/pacerd/run/Outcome", 27), ("java/lang/String", 7)] n0 (⟨"java/lang/StringUTF16", "newBytesLength", "(I)I"⟩ : MethodName) jdk_52_method_3_code 1 (some .int) ({ frames := 0, cells := 0, slots := 0, locals := 0 } : Room) #[(.int (Int32.ofNat n))] [] h0 (fun v h D' => v = some (.int (Int32.ofNat (2 * n))) ∧ h0 = h ∧ D' = []) := by
  refine Con.of_runs (ls := #[.val (.int (Int32.ofNat n))]) (by decide +kernel) (ef rfl rfl) ?_
  refine Runs.iloadN i44_0 rfl ?_
  refine Runs.ifY (t := 12) i44_1 (by decide) (flt (own_nn (by omega))).2.1 ?_
  refine Runs.iloadN i44_12 rfl ?_
  refine Runs.ldcI i44_13 (w240 hw) ?_
  refine Runs.icY (t := 55) i44_15 (by decide) (tlt (own_lt (a := n) (b := 1073741823) (by omega) (by omega))).1 ?_
  refine Runs.iloadN i44_55 rfl ?_
  refine Runs.iconst (v := (1 : Int32)) i44_56 (by decide) ?_
  refine Runs.ishl (z := Int32.ofNat (2 * n)) i44_57 (own_shl1 (by omega)) ?_
  exact Runs.retI (z := (Int32.ofNat (2 * n))) i44_58 rfl (Or.inl rfl) rfl (by decide) (by decide) ⟨rfl, rfl, rfl⟩
set_option maxRecDepth 65536 in
set_option maxHeartbeats 4000000 in
theorem own_ubf (l : Launch) (Z : State) (a0 : Array Value) (hw : Wds Z a0) (n0 : Nat) (n NS : Nat) (hn : n < 1000000) (hNS : 2 * n ≤ NS ∧ NS < 10000000) (h0 : Heap) : Con 1 l Z [("com/example/pacerd/pacerd/run/Outcome", 27), ("java/lang/String", 7)] n0 (⟨"java/lang/StringUTF16", "newBytesFor", "(I)[B"⟩ : MethodName) jdk_52_method_2_code 1 (some (.array .byte)) ({ frames := 1, cells := 1, slots := NS, locals := 12 } : Room) #[(.int (Int32.ofNat n))] [] h0 (fun v h D' => ∃ b k, v = some (.ref b) ∧ h0.size ≤ b ∧ Keep h0 h [] ∧ Arv Z h b k .byte (Int32.ofNat (2 * n)) (own_ws []) (.int 0) ∧ Exa Z h b "[B" ∧ D' = [b]) := by
  refine Con.of_runs (ls := #[.val (.int (Int32.ofNat n))]) (by decide +kernel) (ef rfl rfl) ?_
  refine Runs.iloadN i43_0 rfl ?_
  refine Runs.callSW (argsL := [(.int (Int32.ofNat n))]) (rest := []) (W := 0) i43_1 (w237 hw) (w238 hw) (w223 hw) (w239 hw) (by decide) pd_0 rfl rfl rfl rfl (by first | decide | (dsimp only; first | decide | omega)) (by first | decide | (dsimp only; first | decide | omega)) (by first | decide | (dsimp only; first | decide | omega)) (by first | decide | (dsimp only; first | decide | omega)) all0 (by decide) (own_ubl l Z a0 hw n0 n (by omega) _) ?_
  intro v h1 D1 q hsz
  obtain ⟨rfl, rfl, rfl⟩ := q
  show Runs 1 l Z [("com/example/pacerd/pacerd/run/Outcome", 27), ("java/lang/String", 7)] n0 _ _ _ _ _ _ _ [] h0 0 0 4 #[.val (.int (Int32.ofNat n))] [(.int (Int32.ofNat (2 * n)))]
  refine Runs.newP (cap := NS) (ad := "[B") i43_4 (w21 hw) (own_nn (by omega)) (by rw [own_cl (n := 2 * n) (by omega)]; omega) (by omega) (by first | decide | (dsimp only; first | decide | omega)) (by first | decide | (dsimp only; first | decide | omega)) rfl ?_
  intro h_1 b_2 k_3 g_6 ge_7 K_4 (A_5 : Arv Z h_1 b_2 k_3 .byte (Int32.ofNat (2 * n)) (own_ws []) (.int 0)) E_8
  exact Runs.retA i43_6 rfl rfl rfl (by first | decide | (dsimp only; first | decide | omega)) (by first | decide | (dsimp only; first | decide | omega)) ⟨b_2, k_3, rfl, g_6, K_4, A_5, E_8, rfl⟩
set_option maxRecDepth 65536 in
set_option maxHeartbeats 4000000 in
theorem own_upc (l : Launch) (Z : State) (a0 : Array Value) (hw : Wds Z a0) (n0 : Nat) (t : Addr) (k : ClassId) (cap : Nat) (xs : List Int32) (h0 : Heap) (T0 : Arv Z h0 t k .byte (Int32.ofNat (2 * cap)) (own_ws xs) (.int 0)) (c : Int32) (hx : xs.length < cap) (hcap : cap < 1000000) (gt : n0 ≤ t) (S_A : Sta Z Z.heap "java/lang/StringUTF16" "$assertionsDisabled" "Z" (.int 1)) (S_H : Sta Z Z.heap "java/lang/StringUTF16" "HI_BYTE_SHIFT" "I" (.int 0)) (S_L : Sta Z Z.heap "java/lang/StringUTF16" "LO_BYTE_SHIFT" "I" (.int 8)) : Con 1 l Z [("com/example/pacerd/pacerd/run/Outcome", 27), ("java/lang/String", 7)] n0 (⟨"java/lang/StringUTF16", "putChar", "([BII)V"⟩ : MethodName) jdk_52_method_4_code 3 none ({ frames := 0, cells := 0, slots := 0, locals := 0 } : Room) #[(.ref t), (.int (Int32.ofNat xs.length)), (.int c)] [t] h0 (fun v h D' => v = none ∧ Keep h0 h [t] ∧ Arv Z h t k .byte (Int32.ofNat (2 * cap)) (own_ws (xs ++ [c])) (.int 0) ∧ D' = []) := by
  refine Con.of_runs (ls := #[.val (.ref t), .val (.int (Int32.ofNat xs.length)), .val (.int c)]) (by decide +kernel) (ef rfl rfl) ?_
  refine Runs.getS i47_0 (w251 hw) Via.refl S_A ?_
  refine Runs.ifY (t := 28) i47_3 (by decide) (feq (by decide : ¬ ((1 : Int32) = (0 : Int32)))).2 ?_
  refine Runs.iloadN i47_28 rfl ?_
  refine Runs.iconst (v := (1 : Int32)) i47_29 (by decide) ?_
  refine Runs.ishl (z := Int32.ofNat (2 * xs.length)) i47_30 (own_shl1 (by omega)) ?_
  refine Runs.istoreN (ls' := #[.val (.ref t), .val (.int (Int32.ofNat (2 * xs.length))), .val (.int c)]) i47_31 rfl ?_
  refine Runs.aloadN i47_32 rfl rfl ?_
  refine Runs.iloadN i47_33 rfl ?_
  refine Runs.iinc (z := (Int32.ofNat ((2 * xs.length) + 1))) (ls' := #[.val (.ref t), .val (.int (Int32.ofNat ((2 * xs.length) + 1))), .val (.int c)]) i47_34 rfl (own_add (b := 1) (by omega)) rfl ?_
  refine Runs.iloadN i47_37 rfl ?_
  refine Runs.getS i47_38 (w252 hw) Via.refl S_H ?_
  refine Runs.ishr (z := c) i47_41 (own_shr0 _) ?_
  refine Runs.i2b (z := (own_lo c)) i47_42 rfl ?_
  have T1 : Arv Z h0 t k .byte (Int32.ofNat (2 * cap)) (own_ws xs ++ List.replicate 2 (.int 0)) (.int 0) := T0.pad (pad_rep _ _ _)
  refine Runs.bastore (i := (2 * xs.length)) (y := (own_lo c)) i47_43 T1 ⟨own_nn (by omega), own_lt (by omega) (by omega)⟩ (own_cl (by omega)) (by simp [own_wsl]) (own_bb _) gt (Or.inl (List.mem_of_getElem? (i := 0) rfl)) ?_
  intro h_1 K_2 A_3
  refine Runs.aloadN i47_44 rfl rfl ?_
  refine Runs.iloadN i47_45 rfl ?_
  refine Runs.iloadN i47_46 rfl ?_
  refine Runs.getS i47_47 (w253 hw) Via.refl S_L ?_
  refine Runs.ishr (z := (c >>> ((8 : Int32) &&& 31))) i47_50 rfl ?_
  refine Runs.i2b (z := (own_hi c)) i47_51 rfl ?_
  refine Runs.bastore (i := ((2 * xs.length) + 1)) (y := (own_hi c)) i47_52 A_3 ⟨own_nn (by omega), own_lt (by omega) (by omega)⟩ (own_cl (by omega)) (by simp [own_wsl]) (own_bb _) gt (Or.inl (List.mem_of_getElem? (i := 0) rfl)) ?_
  intro h_4 K_5 A_6
  rw [own_put] at A_6
  exact Runs.weak (D1 := []) (fun _ q => nomatch q) (Runs.retV i47_53 rfl (by decide) (by decide) ⟨rfl, (((Keep.refl _ _).trans K_2 (allS (Or.inl (List.mem_of_getElem? (i := 0) rfl)) all0)).trans K_5 (allS (Or.inl (List.mem_of_getElem? (i := 0) rfl)) all0)), A_6, rfl⟩)
set_option maxRecDepth 65536 in
set_option maxHeartbeats 4000000 in
theorem own_utl (l : Launch) (Z : State) (a0 : Array Value) (hw : Wds Z a0) (n0 : Nat) (u : Addr) (ku : ClassId) (cs : List Int32) (NS : Nat) (hcs : cs.length < 1000000) (hNS : 2 * cs.length ≤ NS ∧ NS < 10000000) (h0 : Heap) (U0 : Arv Z h0 u ku .char (Int32.ofNat cs.length) (cs.map Value.int) (.int 0)) (S_A : Sta Z Z.heap "java/lang/StringUTF16" "$assertionsDisabled" "Z" (.int 1)) (S_H : Sta Z Z.heap "java/lang/StringUTF16" "HI_BYTE_SHIFT" "I" (.int 0)) (S_L : Sta Z Z.heap "java/lang/StringUTF16" "LO_BYTE_SHIFT" "I" (.int 8)) (t : Addr) (k : ClassId) (gt : h0.size ≤ t) (ge : n0 ≤ t) (d : Nat) : ∀ (i : Nat) (h : Heap), d + i = cs.length → Keep h0 h [] → Arv Z h t k .byte (Int32.ofNat (2 * cs.length)) (own_ws (cs.take i)) (.int 0) → Exa Z h t "[B" → Runs 1 l Z [("com/example/pacerd/pacerd/run/Outcome", 27), ("java/lang/String", 7)] n0 "java/lang/StringUTF16" "toBytes" jdk_52_method_14_code 5 (some (.array .byte)) ({ frames := 2, cells := 1, slots := NS, locals := 31 } : Room) (fun v h D' => ∃ b k, v = some (.ref b) ∧ h0.size ≤ b ∧ Keep h0 h [] ∧ Arv Z h b k .byte (Int32.ofNat (2 * cs.length)) (own_ws cs) (.int 0) ∧ Exa Z h b "[B" ∧ D' = [b]) [t] h 1 (0 + NS) 8 #[.val (.ref u), .val (.int (Int32.ofNat i)), .val (.int (Int32.ofNat cs.length)), .val (.ref t), .val (.int (Int32.ofNat i))] [] := by
  induction d with
  | zero =>
    intro i h hd K T E
    refine Runs.iload i46_8 rfl ?_
    refine Runs.iloadN i46_10 rfl ?_
    refine Runs.icY (t := 32) i46_11 (by decide) (flt (own_nlt (by omega) (by omega))).2.1 ?_
    refine Runs.aloadN i46_32 rfl rfl ?_
    exact Runs.retA i46_33 rfl rfl rfl (by first | decide | (dsimp only; first | decide | omega)) (by first | decide | (dsimp only; first | decide | omega)) ⟨t, k, rfl, gt, K, by rw [List.take_of_length_le (by omega)] at T; exact T, E, rfl⟩
  | succ d ih =>
    intro i h hd K T E
    refine Runs.iload i46_8 rfl ?_
    refine Runs.iloadN i46_10 rfl ?_
    refine Runs.icN i46_11 (tlt (own_lt (by omega) (by omega))).2.1 ?_
    refine Runs.aloadN i46_14 rfl rfl ?_
    refine Runs.iload i46_15 rfl ?_
    refine Runs.aloadN i46_17 rfl rfl ?_
    refine Runs.iloadN i46_18 rfl ?_
    refine Runs.caload (v := .int (cs.getD i 0)) i46_19 (U0.keep K nin0) ⟨own_nn (by omega), own_lt (by omega) (by omega)⟩ (by rw [own_cl (by omega)]; exact own_getb _ _) ?_
    have Hc := own_upc l Z a0 hw n0 t k cs.length (cs.take i) _ T (cs.getD i 0) (by rw [own_tkl (by omega)]; omega) hcs ge S_A S_H S_L
    rw [own_tkl (by omega)] at Hc
    refine Runs.callSW (argsL := [(.ref t), (.int (Int32.ofNat i)), (.int (cs.getD i 0))]) (rest := []) (W := 0) i46_20 (w248 hw) (w249 hw) (w223 hw) (w250 hw) (by decide) pd_1 rfl rfl rfl rfl (by first | decide | (dsimp only; first | decide | omega)) (by first | decide | (dsimp only; first | decide | omega)) (by first | decide | (dsimp only; first | decide | omega)) (by first | decide | (dsimp only; first | decide | omega)) (allS (List.mem_of_getElem? (i := 0) rfl) all0) (by decide) Hc ?_
    intro v h_3 D1 q hsz
    obtain ⟨rfl, K_1, A_2, rfl⟩ := q
    show Runs 1 l Z [("com/example/pacerd/pacerd/run/Outcome", 27), ("java/lang/String", 7)] n0 _ _ _ _ _ _ _ [t] h_3 1 (0 + NS) 23 #[.val (.ref u), .val (.int (Int32.ofNat i)), .val (.int (Int32.ofNat cs.length)), .val (.ref t), .val (.int (Int32.ofNat i))] []
    refine Runs.iinc (z := (Int32.ofNat (i + 1))) (ls' := #[.val (.ref u), .val (.int (Int32.ofNat (i + 1))), .val (.int (Int32.ofNat cs.length)), .val (.ref t), .val (.int (Int32.ofNat i))]) i46_23 rfl (own_add (b := 1) (by omega)) rfl ?_
    refine Runs.iinc (z := (Int32.ofNat (i + 1))) (ls' := #[.val (.ref u), .val (.int (Int32.ofNat (i + 1))), .val (.int (Int32.ofNat cs.length)), .val (.ref t), .val (.int (Int32.ofNat (i + 1)))]) i46_26 rfl (own_add (b := 1) (by omega)) rfl ?_
    refine Runs.goto (t := 8) i46_29 (by decide) ?_
    exact ih (i + 1) _ (by omega) (K.trans K_1 (allS (Or.inr gt) all0)) (by rw [← own_take1 (by omega)]; exact A_2) (E.keep K_1)
set_option maxRecDepth 65536 in
set_option maxHeartbeats 4000000 in
theorem own_utb (l : Launch) (Z : State) (a0 : Array Value) (hw : Wds Z a0) (n0 : Nat) (u : Addr) (ku : ClassId) (cs : List Int32) (NS : Nat) (hcs : cs.length < 1000000) (hNS : 2 * cs.length ≤ NS ∧ NS < 10000000) (h0 : Heap) (U0 : Arv Z h0 u ku .char (Int32.ofNat cs.length) (cs.map Value.int) (.int 0)) (S_A : Sta Z Z.heap "java/lang/StringUTF16" "$assertionsDisabled" "Z" (.int 1)) (S_H : Sta Z Z.heap "java/lang/StringUTF16" "HI_BYTE_SHIFT" "I" (.int 0)) (S_L : Sta Z Z.heap "java/lang/StringUTF16" "LO_BYTE_SHIFT" "I" (.int 8)) (hn0 : n0 ≤ h0.size) : Con 1 l Z [("com/example/pacerd/pacerd/run/Outcome", 27), ("java/lang/String", 7)] n0 (⟨"java/lang/StringUTF16", "toBytes", "([CII)[B"⟩ : MethodName) jdk_52_method_14_code 5 (some (.array .byte)) ({ frames := 2, cells := 1, slots := NS, locals := 31 } : Room) #[(.ref u), (.int (0 : Int32)), (.int (Int32.ofNat cs.length))] [] h0 (fun v h D' => ∃ b k, v = some (.ref b) ∧ h0.size ≤ b ∧ Keep h0 h [] ∧ Arv Z h b k .byte (Int32.ofNat (2 * cs.length)) (own_ws cs) (.int 0) ∧ Exa Z h b "[B" ∧ D' = [b]) := by
  refine Con.of_runs (ls := #[.val (.ref u), .val (.int (0 : Int32)), .val (.int (Int32.ofNat cs.length)), .unset, .unset]) (by decide +kernel) (ef rfl rfl) ?_
  refine Runs.iloadN i46_0 rfl ?_
  refine Runs.callSW (argsL := [(.int (Int32.ofNat cs.length))]) (rest := []) (W := 0) i46_1 (w247 hw) (w235 hw) (w223 hw) (w236 hw) (by decide) pd_2 rfl rfl rfl rfl (by first | decide | (dsimp only; first | decide | omega)) (by first | decide | (dsimp only; first | decide | omega)) (by first | decide | (dsimp only; first | decide | omega)) (by first | decide | (dsimp only; first | decide | omega)) all0 (by decide) (own_ubf l Z a0 hw n0 cs.length NS hcs hNS _) ?_
  intro v h_7 D1 q hsz
  obtain ⟨t_1, k_2, rfl, g_3, K_4, A_5, E_6, rfl⟩ := q
  show Runs 1 l Z [("com/example/pacerd/pacerd/run/Outcome", 27), ("java/lang/String", 7)] n0 _ _ _ _ _ _ _ [t_1] h_7 1 (0 + NS) 4 #[.val (.ref u), .val (.int (0 : Int32)), .val (.int (Int32.ofNat cs.length)), .unset, .unset] [(.ref t_1)]
  refine Runs.astoreN (ls' := #[.val (.ref u), .val (.int (0 : Int32)), .val (.int (Int32.ofNat cs.length)), .val (.ref t_1), .unset]) i46_4 rfl rfl ?_
  refine Runs.iconst (v := (0 : Int32)) i46_5 (by decide) ?_
  refine Runs.istore (ls' := #[.val (.ref u), .val (.int (0 : Int32)), .val (.int (Int32.ofNat cs.length)), .val (.ref t_1), .val (.int (0 : Int32))]) i46_6 rfl ?_
  exact own_utl l Z a0 hw n0 u ku cs NS hcs hNS h0 U0 S_A S_H S_L t_1 k_2 g_3 (Nat.le_trans hn0 g_3) cs.length 0 _ (by omega) K_4 A_5 E_6
set_option maxRecDepth 65536 in
set_option maxHeartbeats 4000000 in
theorem own_ugc (l : Launch) (Z : State) (a0 : Array Value) (hw : Wds Z a0) (n0 : Nat) (t : Addr) (k : ClassId) (cap : Nat) (xs : List Int32) (h0 : Heap) (T0 : Arv Z h0 t k .byte (Int32.ofNat (2 * cap)) (own_ws xs) (.int 0)) (i : Nat) (hi : i < xs.length) (hx : xs.length ≤ cap) (hcap : cap < 1000000) (hc : ¬ xs.getD i 0 < 0 ∧ ¬ (65535 : Int32) < xs.getD i 0) (S_A : Sta Z Z.heap "java/lang/StringUTF16" "$assertionsDisabled" "Z" (.int 1)) (S_H : Sta Z Z.heap "java/lang/StringUTF16" "HI_BYTE_SHIFT" "I" (.int 0)) (S_L : Sta Z Z.heap "java/lang/StringUTF16" "LO_BYTE_SHIFT" "I" (.int 8)) : Con 1 l Z [("com/example/pacerd/pacerd/run/Outcome", 27), ("java/lang/String", 7)] n0 (⟨"java/lang/StringUTF16", "getChar", "([BI)C"⟩ : MethodName) jdk_52_method_5_code 2 (some .char) ({ frames := 0, cells := 0, slots := 0, locals := 0 } : Room) #[(.ref t), (.int (Int32.ofNat i))] [] h0 (fun v h D' => v = some (.int (xs.getD i 0)) ∧ h0 = h ∧ D' = []) := by
  refine Con.of_runs (ls := #[.val (.ref t), .val (.int (Int32.ofNat i))]) (by decide +kernel) (ef rfl rfl) ?_
  refine Runs.getS i48_0 (w251 hw) Via.refl S_A ?_
  refine Runs.ifY (t := 28) i48_3 (by decide) (feq (by decide : ¬ ((1 : Int32) = (0 : Int32)))).2 ?_
  refine Runs.iloadN i48_28 rfl ?_
  refine Runs.iconst (v := (1 : Int32)) i48_29 (by decide) ?_
  refine Runs.ishl (z := Int32.ofNat (2 * i)) i48_30 (own_shl1 (by omega)) ?_
  refine Runs.istoreN (ls' := #[.val (.ref t), .val (.int (Int32.ofNat (2 * i)))]) i48_31 rfl ?_
  refine Runs.aloadN i48_32 rfl rfl ?_
  refine Runs.iloadN i48_33 rfl ?_
  refine Runs.iinc (z := (Int32.ofNat (2 * i + 1))) (ls' := #[.val (.ref t), .val (.int (Int32.ofNat (2 * i + 1)))]) i48_34 rfl (own_add (b := 1) (by omega)) rfl ?_
  refine Runs.baload (v := .int (own_lo (xs.getD i 0))) i48_37 T0 ⟨own_nn (by omega), own_lt (by omega) (by omega)⟩ (by rw [own_cl (by omega)]; exact (own_getw xs i hi).1) ?_
  refine Runs.sipush (v := (255 : Int32)) i48_38 (by decide) ?_
  refine Runs.iand (z := ((own_lo (xs.getD i 0)) &&& 255)) i48_41 rfl ?_
  refine Runs.getS i48_42 (w252 hw) Via.refl S_H ?_
  refine Runs.ishl (z := (((own_lo (xs.getD i 0)) &&& 255) <<< ((0 : Int32) &&& 31))) i48_45 rfl ?_
  refine Runs.aloadN i48_46 rfl rfl ?_
  refine Runs.iloadN i48_47 rfl ?_
  refine Runs.baload (v := .int (own_hi (xs.getD i 0))) i48_48 T0 ⟨own_nn (by omega), own_lt (by omega) (by omega)⟩ (by rw [own_cl (by omega)]; exact (own_getw xs i hi).2) ?_
  refine Runs.sipush (v := (255 : Int32)) i48_49 (by decide) ?_
  refine Runs.iand (z := ((own_hi (xs.getD i 0)) &&& 255)) i48_52 rfl ?_
  refine Runs.getS i48_53 (w253 hw) Via.refl S_L ?_
  refine Runs.ishl (z := (((own_hi (xs.getD i 0)) &&& 255) <<< ((8 : Int32) &&& 31))) i48_56 rfl ?_
  refine Runs.ior (z := xs.getD i 0) i48_57 (own_wchar hc) ?_
  refine Runs.i2c (z := xs.getD i 0) i48_58 (own_cc hc) ?_
  exact Runs.retI (z := (xs.getD i 0)) i48_59 rfl (Or.inr (Or.inr (Or.inr (Or.inl rfl)))) (congrArg Value.int (own_cc hc)) (by decide) (by decide) ⟨rfl, rfl, rfl⟩
set_option maxRecDepth 65536 in
set_option maxHeartbeats 4000000 in
theorem own_cpw (l : Launch) (Z : State) (a0 : Array Value) (hw : Wds Z a0) (n0 : Nat) (u : Addr) (ku : ClassId) (cs : List Int32) (NS : Nat) (hcs : cs.length < 400000) (hNS : 2 * cs.length ≤ NS ∧ NS < 1000000) (hC : Chs cs) (h0 : Heap) (U0 : Arv Z h0 u ku .char (Int32.ofNat cs.length) (cs.map Value.int) (.int 0)) (hn0 : n0 ≤ h0.size) (S_A : Sta Z Z.heap "java/lang/StringUTF16" "$assertionsDisabled" "Z" (.int 1)) (S_H : Sta Z Z.heap "java/lang/StringUTF16" "HI_BYTE_SHIFT" "I" (.int 0)) (S_L : Sta Z Z.heap "java/lang/StringUTF16" "LO_BYTE_SHIFT" "I" (.int 8)) : Con 1 l Z [("com/example/pacerd/pacerd/run/Outcome", 27), ("java/lang/String", 7)] n0 (⟨"java/lang/StringUTF16", "compress", "([CII)[B"⟩ : MethodName) jdk_52_method_16_code 6 (some (.array .byte)) ({ frames := 3, cells := 2, slots := (NS + NS), locals := 47 } : Room) #[(.ref u), (.int (0 : Int32)), (.int (Int32.ofNat cs.length))] [] h0 (fun v h D' => ∃ b k, v = some (.ref b) ∧ h0.size ≤ b ∧ Keep h0 h [] ∧ ((Lat cs ∧ Arv Z h b k .byte (Int32.ofNat cs.length) (cs.map own_b) (.int 0)) ∨ (¬ Lat cs ∧ Arv Z h b k .byte (Int32.ofNat (2 * cs.length)) (own_ws cs) (.int 0))) ∧ Exa Z h b "[B" ∧ D' = [b]) := by
  refine Con.of_runs (ls := #[.val (.ref u), .val (.int (0 : Int32)), .val (.int (Int32.ofNat cs.length)), .unset, .unset, .unset]) (by decide +kernel) (ef rfl rfl) ?_
  refine Runs.iloadN i39_0 rfl ?_
  refine Runs.newP (cap := NS) (ad := "[B") i39_1 (w21 hw) (own_nn (n := cs.length) (by omega)) (by rw [own_cl (n := cs.length) (by omega)]; omega) (by omega) (by first | decide | (dsimp only; first | decide | omega)) (by first | decide | (dsimp only; first | decide | omega)) rfl ?_
  intro h_1 b_2 k_3 g_6 ge_7 K_4 (A_5 : Arv Z h_1 b_2 k_3 .byte (Int32.ofNat cs.length) (([] : List Int32).map own_b) (.int 0)) E_8
  refine Runs.astoreN (ls' := #[.val (.ref u), .val (.int (0 : Int32)), .val (.int (Int32.ofNat cs.length)), .val (.ref b_2), .unset, .unset]) i39_3 rfl rfl ?_
  refine Runs.aloadN i39_4 rfl rfl ?_
  refine Runs.iloadN i39_5 rfl ?_
  refine Runs.aloadN i39_6 rfl rfl ?_
  refine Runs.iconst (v := (0 : Int32)) i39_7 (by decide) ?_
  refine Runs.iloadN i39_8 rfl ?_
  have A_9 := (U0.keep K_4 nin0)
  refine Runs.callSW (argsL := [(.ref u), (.int (0 : Int32)), (.ref b_2), (.int (0 : Int32)), (.int (Int32.ofNat cs.length))]) (rest := []) (W := 0) i39_9 (w225 hw) (w226 hw) (w223 hw) (w227 hw) (by decide) pd_3 rfl rfl rfl rfl (by first | decide | (dsimp only; first | decide | omega)) (by first | decide | (dsimp only; first | decide | omega)) (by first | decide | (dsimp only; first | decide | omega)) (by first | decide | (dsimp only; first | decide | omega)) (allS (List.mem_of_getElem? (i := 0) rfl) all0) (by decide) (own_cpl l Z a0 hw n0 u b_2 ku k_3 cs (Nat.ne_of_lt (Nat.lt_of_lt_of_le (Nat.lt_of_lt_of_le U0.lt (Nat.le_refl _)) g_6)) (by omega) hC _ A_9 ge_7 A_5) ?_
  intro v h_12 D1 q hsz
  obtain ⟨j, rfl, hj1, hj2, hj3, K_10, A_11, rfl⟩ := q
  show Runs 1 l Z [("com/example/pacerd/pacerd/run/Outcome", 27), ("java/lang/String", 7)] n0 _ _ _ _ _ _ _ [b_2] h_12 1 (0 + NS) 12 #[.val (.ref u), .val (.int (0 : Int32)), .val (.int (Int32.ofNat cs.length)), .val (.ref b_2), .unset, .unset] [(.int (Int32.ofNat j))]
  refine Runs.istore (ls' := #[.val (.ref u), .val (.int (0 : Int32)), .val (.int (Int32.ofNat cs.length)), .val (.ref b_2), .val (.int (Int32.ofNat j)), .unset]) i39_12 rfl ?_
  refine Runs.iload i39_14 rfl ?_
  refine Runs.iloadN i39_16 rfl ?_
  by_cases hc17 : (Int32.ofNat j) = (Int32.ofNat cs.length)
  · refine Runs.icY (t := 57) i39_17 (by decide) (teq hc17).1 ?_
    refine Runs.aloadN i39_57 rfl rfl ?_
    have ej : j = cs.length := (own_inj (by omega) (by omega)).mp hc17
    exact Runs.retA i39_58 rfl rfl rfl (by first | decide | (dsimp only; first | decide | omega)) (by first | decide | (dsimp only; first | decide | omega)) ⟨b_2, k_3, rfl, (Nat.le_trans (Nat.le_refl _) g_6), (((Keep.refl _ _).trans K_4 all0).trans K_10 (allS (Or.inr (Nat.le_trans (Nat.le_refl _) g_6)) all0)), Or.inl ⟨own_latof hC (fun i hi => hj2 i (by omega)), by rw [ej, List.take_length] at A_11; exact A_11⟩, (E_8.keep K_10), rfl⟩
  · refine Runs.icN i39_17 (feq hc17).1 ?_
    have hi : j < cs.length := by
      rcases Nat.lt_or_ge j cs.length with q | q
      · exact q
      · exact absurd (by rw [show j = cs.length by omega]) hc17
    refine Runs.aloadN i39_20 rfl rfl ?_
    refine Runs.iloadN i39_21 rfl ?_
    refine Runs.iloadN i39_22 rfl ?_
    have A_13 := (A_9.keep K_10 (ninS (Nat.ne_of_lt (Nat.lt_of_lt_of_le (Nat.lt_of_lt_of_le U0.lt (Nat.le_refl _)) g_6)) nin0))
    refine Runs.callSW (argsL := [(.ref u), (.int (0 : Int32)), (.int (Int32.ofNat cs.length))]) (rest := []) (W := 0) i39_23 (w244 hw) (w245 hw) (w223 hw) (w246 hw) (by decide) pd_4 rfl rfl rfl rfl (by first | decide | (dsimp only; first | decide | omega)) (by first | decide | (dsimp only; first | decide | omega)) (by first | decide | (dsimp only; first | decide | omega)) (by first | decide | (dsimp only; first | decide | omega)) all0 (by decide) (own_utb l Z a0 hw n0 u ku cs NS (by omega) (by omega) _ A_13 S_A S_H S_L (Nat.le_trans hn0 (Nat.le_trans K_4.1 K_10.1))) ?_
    intro v h_20 D1 q hsz
    obtain ⟨t_14, k_15, rfl, g_16, K_17, A_18, E_19, rfl⟩ := q
    show Runs 1 l Z [("com/example/pacerd/pacerd/run/Outcome", 27), ("java/lang/String", 7)] n0 _ _ _ _ _ _ _ [t_14, b_2] h_20 2 ((0 + NS) + NS) 26 #[.val (.ref u), .val (.int (0 : Int32)), .val (.int (Int32.ofNat cs.length)), .val (.ref b_2), .val (.int (Int32.ofNat j)), .unset] [(.ref t_14)]
    refine Runs.astore (ls' := #[.val (.ref u), .val (.int (0 : Int32)), .val (.int (Int32.ofNat cs.length)), .val (.ref b_2), .val (.int (Int32.ofNat j)), .val (.ref t_14)]) i39_26 rfl rfl ?_
    refine Runs.aload i39_28 rfl rfl ?_
    refine Runs.iload i39_30 rfl ?_
    refine Runs.callSW (argsL := [(.ref t_14), (.int (Int32.ofNat j))]) (rest := []) (W := 0) i39_32 (w254 hw) (w255 hw) (w223 hw) (w256 hw) (by decide) pd_5 rfl rfl rfl rfl (by first | decide | (dsimp only; first | decide | omega)) (by first | decide | (dsimp only; first | decide | omega)) (by first | decide | (dsimp only; first | decide | omega)) (by first | decide | (dsimp only; first | decide | omega)) all0 (by decide) (own_ugc l Z a0 hw n0 t_14 k_15 cs.length cs _ A_18 j hi (Nat.le_refl _) (by omega) (own_chg hC hi) S_A S_H S_L) ?_
    intro v h1 D1 q hsz
    obtain ⟨rfl, rfl, rfl⟩ := q
    show Runs 1 l Z [("com/example/pacerd/pacerd/run/Outcome", 27), ("java/lang/String", 7)] n0 _ _ _ _ _ _ _ [t_14, b_2] h_20 2 ((0 + NS) + NS) 35 #[.val (.ref u), .val (.int (0 : Int32)), .val (.int (Int32.ofNat cs.length)), .val (.ref b_2), .val (.int (Int32.ofNat j)), .val (.ref t_14)] [(.int (cs.getD j 0))]
    refine Runs.sipush (v := (255 : Int32)) i39_35 (by decide) ?_
    refine Runs.icY (t := 54) i39_38 (by decide) (tlt (hj3 hi)).2.2.1 ?_
    refine Runs.aload i39_54 rfl rfl ?_
    refine Runs.weak (D1 := [t_14]) (by simp) ?_
    exact Runs.retA i39_56 rfl rfl rfl (by first | decide | (dsimp only; first | decide | omega)) (by first | decide | (dsimp only; first | decide | omega)) ⟨t_14, k_15, rfl, (Nat.le_trans (Nat.le_trans K_4.1 K_10.1) g_16), ((((Keep.refl _ _).trans K_4 all0).trans K_10 (allS (Or.inr (Nat.le_trans (Nat.le_refl _) g_6)) all0)).trans K_17 all0), Or.inr ⟨fun q => (own_latg q hi).2 (hj3 hi), A_18⟩, E_19, rfl⟩
set_option maxRecDepth 65536 in
set_option maxHeartbeats 4000000 in
theorem own_cfa (l : Launch) (Z : State) (a0 : Array Value) (hw : Wds Z a0) (n0 : Nat) (t : Addr) (k : ClassId) (n m : Nat) (z : Int32) (hz : (if m ≤ n then (0 : Int32) else 1) = z) (hn : n < 1000000) (hm : m < 1000000) (vs : List Value) (d : Value) (h0 : Heap) (T0 : Arv Z h0 t k .byte (Int32.ofNat m) vs d) : Con 1 l Z [("com/example/pacerd/pacerd/run/Outcome", 27), ("java/lang/String", 7)] n0 (⟨"java/lang/StringUTF16", "coderFromArrayLen", "([BI)B"⟩ : MethodName) jdk_52_method_15_code 2 (some .byte) ({ frames := 0, cells := 0, slots := 0, locals := 0 } : Room) #[(.ref t), (.int (Int32.ofNat n))] [] h0 (fun v h D' => v = some (.int z) ∧ h0 = h ∧ D' = []) := by
  refine Con.of_runs (ls := #[.val (.ref t), .val (.int (Int32.ofNat n))]) (by decide +kernel) (ef rfl rfl) ?_
  refine Runs.iloadN i41_0 rfl ?_
  refine Runs.aloadN i41_1 rfl rfl ?_
  refine Runs.arrlen i41_2 T0 ?_
  refine Runs.isub (z := ((Int32.ofNat n) - (Int32.ofNat m))) i41_3 rfl ?_
  refine Runs.bipush (v := (31 : Int32)) i41_4 (by decide) ?_
  refine Runs.iushr (z := (Jvm.Free.XT.ushr ((Int32.ofNat n) - (Int32.ofNat m)) 31)) i41_6 rfl ?_
  refine Runs.i2b (z := z) i41_7 ((own_cfl hn hm).trans hz) ?_
  exact Runs.retI (z := z) i41_8 rfl (Or.inr (Or.inr (Or.inl rfl))) (by rw [← hz]; split <;> rfl) (by decide) (by decide) ⟨rfl, rfl, rfl⟩
set_option maxRecDepth 65536 in
set_option maxHeartbeats 4000000 in
theorem own_swi (l : Launch) (Z : State) (a0 : Array Value) (hw : Wds Z a0) (n0 : Nat) (a u : Addr) (ku : ClassId) (hua : u ≠ a) (cs : List Int32) (NS : Nat) (hcs : 0 < cs.length ∧ cs.length < 400000) (hNS : 2 * cs.length ≤ NS ∧ NS < 1000000) (hC : Chs cs) (cpt : Int32) (h0 : Heap) (ga : n0 ≤ a) (O0 : Obj Z h0 a "java/lang/String" [("java/lang/String", "value", "[B", .null), ("java/lang/String", "coder", "B", (.int (0 : Int32)))]) (U0 : Arv Z h0 u ku .char (Int32.ofNat cs.length) (cs.map Value.int) (.int 0)) (hn0 : n0 ≤ h0.size) (S_C : Sta Z Z.heap "java/lang/String" "COMPACT_STRINGS" "Z" (.int cpt)) (hcpt : ¬ cpt = 0) (S_A : Sta Z Z.heap "java/lang/StringUTF16" "$assertionsDisabled" "Z" (.int 1)) (S_H : Sta Z Z.heap "java/lang/StringUTF16" "HI_BYTE_SHIFT" "I" (.int 0)) (S_L : Sta Z Z.heap "java/lang/StringUTF16" "LO_BYTE_SHIFT" "I" (.int 8)) : Con 1 l Z [("com/example/pacerd/pacerd/run/Outcome", 27), ("java/lang/String", 7)] n0 (⟨"java/lang/String", "<init>", "([CIILjava/lang/Void;)V"⟩ : MethodName) jdk_42_method_149_code 6 none ({ frames := 4, cells := 2, slots := (NS + NS), locals := 64 } : Room) #[(.ref a), (.ref u), (.int (0 : Int32)), (.int (Int32.ofNat cs.length)), .null] [a] h0 (fun v h D' => v = none ∧ ∃ t k, h0.size ≤ t ∧ Keep h0 h [a] ∧ Sx Z h a t k cs ∧ Exa Z h t "[B" ∧ D' = []) := by
  refine Con.of_runs (ls := #[.val (.ref a), .val (.ref u), .val (.int (0 : Int32)), .val (.int (Int32.ofNat cs.length)), .val .null, .unset]) (by decide +kernel) (ef rfl rfl) ?_
  refine Runs.aloadN i3_0 rfl rfl ?_
  refine Runs.initO (W := 0) i3_1 (w17 hw) (w18 hw) (w19 hw) rfl (by first | decide | (dsimp only; first | decide | omega)) rfl (by first | decide | (dsimp only; first | decide | omega)) ?_
  refine Runs.iloadN i3_4 rfl ?_
  refine Runs.ifY (t := 27) i3_5 (by decide) (feq (fun q => absurd ((own_inj (a := cs.length) (b := 0) (by omega) (by omega)).mp q) (by omega))).2 ?_
  refine Runs.getS i3_27 (w71 hw) Via.refl S_C ?_
  refine Runs.ifN i3_30 (feq hcpt).1 ?_
  refine Runs.aloadN i3_33 rfl rfl ?_
  refine Runs.iloadN i3_34 rfl ?_
  refine Runs.iloadN i3_35 rfl ?_
  refine Runs.callSW (argsL := [(.ref u), (.int (0 : Int32)), (.int (Int32.ofNat cs.length))]) (rest := []) (W := 0) i3_36 (w221 hw) (w222 hw) (w223 hw) (w224 hw) (by decide) pd_4 rfl rfl rfl rfl (by first | decide | (dsimp only; first | decide | omega)) (by first | decide | (dsimp only; first | decide | omega)) (by first | decide | (dsimp only; first | decide | omega)) (by first | decide | (dsimp only; first | decide | omega)) all0 (by decide) (own_cpw l Z a0 hw n0 u ku cs NS (by omega) hNS hC _ U0 (Nat.le_trans hn0 (Nat.le_refl _)) S_A S_H S_L) ?_
  intro v h_7 D1 q hsz
  obtain ⟨b_1, k_2, rfl, g_3, K_4, H_5, E_6, rfl⟩ := q
  show Runs 1 l Z [("com/example/pacerd/pacerd/run/Outcome", 27), ("java/lang/String", 7)] n0 _ _ _ _ _ _ _ [b_1, a] h_7 2 (0 + (NS + NS)) 39 #[.val (.ref a), .val (.ref u), .val (.int (0 : Int32)), .val (.int (Int32.ofNat cs.length)), .val .null, .unset] [(.ref b_1)]
  rcases H_5 with ⟨hl, A⟩ | ⟨hl, A⟩
  · skip
    refine Runs.astore (ls' := #[.val (.ref a), .val (.ref u), .val (.int (0 : Int32)), .val (.int (Int32.ofNat cs.length)), .val .null, .val (.ref b_1)]) i3_39 rfl rfl ?_
    refine Runs.aloadN i3_41 rfl rfl ?_
    refine Runs.aload i3_42 rfl rfl ?_
    refine Runs.iloadN i3_44 rfl ?_
    refine Runs.callSW (argsL := [(.ref b_1), (.int (Int32.ofNat cs.length))]) (rest := [(.ref a)]) (W := 1) i3_45 (w228 hw) (w229 hw) (w223 hw) (w230 hw) (by decide) pd_6 rfl rfl rfl rfl (by first | decide | (dsimp only; first | decide | omega)) (by first | decide | (dsimp only; first | decide | omega)) (by first | decide | (dsimp only; first | decide | omega)) (by first | decide | (dsimp only; first | decide | omega)) all0 (by decide) (own_cfa l Z a0 hw n0 b_1 _ cs.length cs.length (0 : Int32) (if_pos (Nat.le_refl _)) (by omega) (by omega) _ _ _ A) ?_
    intro v h1 D1 q hsz
    obtain ⟨rfl, rfl, rfl⟩ := q
    show Runs 1 l Z [("com/example/pacerd/pacerd/run/Outcome", 27), ("java/lang/String", 7)] n0 _ _ _ _ _ _ _ [b_1, a] h_7 2 (0 + (NS + NS)) 48 #[.val (.ref a), .val (.ref u), .val (.int (0 : Int32)), .val (.int (Int32.ofNat cs.length)), .val .null, .val (.ref b_1)] [(.int (0 : Int32)), (.ref a)]
    have O_8 := (O0.keep K_4 nin0)
    refine Runs.putF (i := 1) (ty := .byte) i3_48 (host := "") (Or.inl (w27 hw)) Via.refl O_8 rfl (lay_0 hw) rfl (Or.inr ⟨(w23 hw), rfl, rfl⟩) (w8 hw) (by decide) rfl rfl ga (Or.inl (List.mem_of_getElem? (i := 1) rfl)) ?_
    intro h_9 K_10 (O_11 : Obj Z h_9 a "java/lang/String" [("java/lang/String", "value", "[B", .null), ("java/lang/String", "coder", "B", (.int (0 : Int32)))])
    refine Runs.aloadN i3_51 rfl rfl ?_
    refine Runs.aload i3_52 rfl rfl ?_
    refine Runs.putF (i := 0) (ty := (.array .byte)) i3_54 (host := "") (Or.inl (w26 hw)) Via.refl O_11 rfl (lay_0 hw) rfl (Or.inr ⟨(w22 hw), rfl, rfl⟩) (w8 hw) (by decide) rfl rfl ga (Or.inl (List.mem_of_getElem? (i := 1) rfl)) ?_
    intro h_12 K_13 (O_14 : Obj Z h_12 a "java/lang/String" [("java/lang/String", "value", "[B", (.ref b_1)), ("java/lang/String", "coder", "B", (.int (0 : Int32)))])
    have A_15 := ((A.keep K_10 (ninS (Nat.ne_of_gt (Nat.lt_of_lt_of_le (Nat.lt_of_lt_of_le O0.lt (Nat.le_refl _)) g_3)) nin0)).keep K_13 (ninS (Nat.ne_of_gt (Nat.lt_of_lt_of_le (Nat.lt_of_lt_of_le O0.lt (Nat.le_refl _)) g_3)) nin0))
    refine Runs.weak (D1 := []) (fun _ q => nomatch q) ?_
    exact Runs.retV i3_57 rfl (by first | decide | (dsimp only; first | decide | omega)) (by first | decide | (dsimp only; first | decide | omega)) ⟨rfl, b_1, k_2, (Nat.le_trans (Nat.le_refl _) g_3), ((((Keep.refl _ _).trans K_4 all0).trans K_10 (allS (Or.inl (List.mem_of_getElem? (i := 0) rfl)) all0)).trans K_13 (allS (Or.inl (List.mem_of_getElem? (i := 0) rfl)) all0)), (Or.inl ⟨O_14, A_15, hl, by omega⟩), ((E_6.keep K_10).keep K_13), rfl⟩
  · skip
    refine Runs.astore (ls' := #[.val (.ref a), .val (.ref u), .val (.int (0 : Int32)), .val (.int (Int32.ofNat cs.length)), .val .null, .val (.ref b_1)]) i3_39 rfl rfl ?_
    refine Runs.aloadN i3_41 rfl rfl ?_
    refine Runs.aload i3_42 rfl rfl ?_
    refine Runs.iloadN i3_44 rfl ?_
    refine Runs.callSW (argsL := [(.ref b_1), (.int (Int32.ofNat cs.length))]) (rest := [(.ref a)]) (W := 1) i3_45 (w228 hw) (w229 hw) (w223 hw) (w230 hw) (by decide) pd_6 rfl rfl rfl rfl (by first | decide | (dsimp only; first | decide | omega)) (by first | decide | (dsimp only; first | decide | omega)) (by first | decide | (dsimp only; first | decide | omega)) (by first | decide | (dsimp only; first | decide | omega)) all0 (by decide) (own_cfa l Z a0 hw n0 b_1 _ cs.length (2 * cs.length) (1 : Int32) (if_neg (by omega)) (by omega) (by omega) _ _ _ A) ?_
    intro v h1 D1 q hsz
    obtain ⟨rfl, rfl, rfl⟩ := q
    show Runs 1 l Z [("com/example/pacerd/pacerd/run/Outcome", 27), ("java/lang/String", 7)] n0 _ _ _ _ _ _ _ [b_1, a] h_7 2 (0 + (NS + NS)) 48 #[.val (.ref a), .val (.ref u), .val (.int (0 : Int32)), .val (.int (Int32.ofNat cs.length)), .val .null, .val (.ref b_1)] [(.int (1 : Int32)), (.ref a)]
    have O_16 := (O0.keep K_4 nin0)
    refine Runs.putF (i := 1) (ty := .byte) i3_48 (host := "") (Or.inl (w27 hw)) Via.refl O_16 rfl (lay_0 hw) rfl (Or.inr ⟨(w23 hw), rfl, rfl⟩) (w8 hw) (by decide) rfl rfl ga (Or.inl (List.mem_of_getElem? (i := 1) rfl)) ?_
    intro h_17 K_18 (O_19 : Obj Z h_17 a "java/lang/String" [("java/lang/String", "value", "[B", .null), ("java/lang/String", "coder", "B", (.int (1 : Int32)))])
    refine Runs.aloadN i3_51 rfl rfl ?_
    refine Runs.aload i3_52 rfl rfl ?_
    refine Runs.putF (i := 0) (ty := (.array .byte)) i3_54 (host := "") (Or.inl (w26 hw)) Via.refl O_19 rfl (lay_0 hw) rfl (Or.inr ⟨(w22 hw), rfl, rfl⟩) (w8 hw) (by decide) rfl rfl ga (Or.inl (List.mem_of_getElem? (i := 1) rfl)) ?_
    intro h_20 K_21 (O_22 : Obj Z h_20 a "java/lang/String" [("java/lang/String", "value", "[B", (.ref b_1)), ("java/lang/String", "coder", "B", (.int (1 : Int32)))])
    have A_23 := ((A.keep K_18 (ninS (Nat.ne_of_gt (Nat.lt_of_lt_of_le (Nat.lt_of_lt_of_le O0.lt (Nat.le_refl _)) g_3)) nin0)).keep K_21 (ninS (Nat.ne_of_gt (Nat.lt_of_lt_of_le (Nat.lt_of_lt_of_le O0.lt (Nat.le_refl _)) g_3)) nin0))
    refine Runs.weak (D1 := []) (fun _ q => nomatch q) ?_
    exact Runs.retV i3_57 rfl (by first | decide | (dsimp only; first | decide | omega)) (by first | decide | (dsimp only; first | decide | omega)) ⟨rfl, b_1, k_2, (Nat.le_trans (Nat.le_refl _) g_3), ((((Keep.refl _ _).trans K_4 all0).trans K_18 (allS (Or.inl (List.mem_of_getElem? (i := 0) rfl)) all0)).trans K_21 (allS (Or.inl (List.mem_of_getElem? (i := 0) rfl)) all0)), (Or.inr ⟨hl, O_22, A_23, hC, by omega⟩), ((E_6.keep K_18).keep K_21), rfl⟩
set_option maxRecDepth 65536 in
set_option maxHeartbeats 4000000 in
theorem own_sw (l : Launch) (Z : State) (a0 : Array Value) (hw : Wds Z a0) (n0 : Nat) (a u : Addr) (ku : ClassId) (hua : u ≠ a) (cs : List Int32) (NS : Nat) (hcs : 0 < cs.length ∧ cs.length < 400000) (hNS : 2 * cs.length ≤ NS ∧ NS < 1000000) (hC : Chs cs) (cpt : Int32) (h0 : Heap) (ga : n0 ≤ a) (O0 : Obj Z h0 a "java/lang/String" [("java/lang/String", "value", "[B", .null), ("java/lang/String", "coder", "B", (.int (0 : Int32)))]) (U0 : Arv Z h0 u ku .char (Int32.ofNat cs.length) (cs.map Value.int) (.int 0)) (hn0 : n0 ≤ h0.size) (S_C : Sta Z Z.heap "java/lang/String" "COMPACT_STRINGS" "Z" (.int cpt)) (hcpt : ¬ cpt = 0) (S_A : Sta Z Z.heap "java/lang/StringUTF16" "$assertionsDisabled" "Z" (.int 1)) (S_H : Sta Z Z.heap "java/lang/StringUTF16" "HI_BYTE_SHIFT" "I" (.int 0)) (S_L : Sta Z Z.heap "java/lang/StringUTF16" "LO_BYTE_SHIFT" "I" (.int 8)) : Con 1 l Z [("com/example/pacerd/pacerd/run/Outcome", 27), ("java/lang/String", 7)] n0 (⟨"java/lang/String", "<init>", "([C)V"⟩ : MethodName) jdk_42_method_3_code 2 none ({ frames := 5, cells := 2, slots := (NS + NS), locals := 81 } : Room) #[(.ref a), (.ref u)] [a] h0 (fun v h D' => v = none ∧ ∃ t k, h0.size ≤ t ∧ Keep h0 h [a] ∧ Sx Z h a t k cs ∧ Exa Z h t "[B" ∧ D' = []) := by
  refine Con.of_runs (ls := #[.val (.ref a), .val (.ref u)]) (by decide +kernel) (ef rfl rfl) ?_
  refine Runs.aloadN i2_0 rfl rfl ?_
  refine Runs.aloadN i2_1 rfl rfl ?_
  refine Runs.iconst (v := (0 : Int32)) i2_2 (by decide) ?_
  refine Runs.aloadN i2_3 rfl rfl ?_
  refine Runs.arrlen i2_4 U0 ?_
  refine Runs.aconstNull i2_5 ?_
  refine Runs.callCW (argsL := [(.ref u), (.int (0 : Int32)), (.int (Int32.ofNat cs.length)), .null]) (rest := []) (W := 0) i2_6 rfl (w13 hw) (w14 hw) (w16 hw) (w9 hw) (by decide) pd_7 rfl rfl rfl rfl (by first | decide | (dsimp only; first | decide | omega)) (by first | decide | (dsimp only; first | decide | omega)) (by first | decide | (dsimp only; first | decide | omega)) (by first | decide | (dsimp only; first | decide | omega)) (allS (List.mem_of_getElem? (i := 0) rfl) all0) (by decide) (own_swi l Z a0 hw n0 a u ku hua cs NS hcs hNS hC cpt _ ga O0 U0 hn0 S_C hcpt S_A S_H S_L) ?_
  intro v h1 D1 q hsz
  obtain ⟨rfl, t1, k1, g1, K1, S1, E1, rfl⟩ := q
  show Runs 1 l Z [("com/example/pacerd/pacerd/run/Outcome", 27), ("java/lang/String", 7)] n0 _ _ _ _ _ _ _ [a] h1 2 (0 + (NS + NS)) 9 #[.val (.ref a), .val (.ref u)] []
  refine Runs.weak (D1 := []) (fun _ q => nomatch q) ?_
  exact Runs.retV i2_9 rfl (by first | decide | (dsimp only; first | decide | omega)) (by first | decide | (dsimp only; first | decide | omega)) ⟨rfl, t1, k1, g1, K1, S1, E1, rfl⟩
set_option maxRecDepth 65536 in
set_option maxHeartbeats 4000000 in
theorem own_si4_0 (l : Launch) (Z : State) (a0 : Array Value) (hw : Wds Z a0) (n0 : Nat) (a u : Addr) (h0 : Heap) (ga : n0 ≤ a) (O0 : Obj Z h0 a "java/lang/String" [("java/lang/String", "value", "[B", .null), ("java/lang/String", "coder", "B", (.int (0 : Int32)))]) : Con 1 l Z [("com/example/pacerd/pacerd/run/Outcome", 27), ("java/lang/String", 7)] n0 (⟨"java/lang/String", "<init>", "([CIILjava/lang/Void;)V"⟩ : MethodName) jdk_42_method_149_code 6 none ({ frames := 1, cells := 4, slots := 8, locals := 12 } : Room) #[(.ref a), (.ref u), (.int (0 : Int32)), (.int (0 : Int32)), .null] [a] h0 (fun v h D' => v = none ∧ ∃ t k, Keep h0 h [a] ∧ Obj Z h a "java/lang/String" [("java/lang/String", "value", "[B", (.ref t)), ("java/lang/String", "coder", "B", (.int (0 : Int32)))] ∧ Arv Z h t k .byte (0 : Int32) [] (.int 0) ∧ D' = []) := by
  refine Con.of_runs (ls := #[.val (.ref a), .val (.ref u), .val (.int (0 : Int32)), .val (.int (0 : Int32)), .val .null, .unset]) (by decide +kernel) (ef rfl rfl) ?_
  refine Runs.aloadN i3_0 rfl rfl ?_
  refine Runs.initO (W := 0) i3_1 (w17 hw) (w18 hw) (w19 hw) rfl (by decide) rfl (by decide) ?_
  refine Runs.iloadN i3_4 rfl ?_
  refine Runs.ifN i3_5 (teq (by decide : (0 : Int32) = (0 : Int32))).2 ?_
  refine Runs.aloadN i3_8 rfl rfl ?_
  refine Runs.ldcT (vs := []) (z := (0 : Int32)) (n := 0) (by decide) i3_9 (hw _ (List.mem_of_getElem? (i := 20) rfl)) (own_sa hw) (own_EW hw) (List.mem_of_getElem? (i := 1) rfl) ⟨by decide, by decide⟩ (by decide) (by decide) (by decide) (by decide) (by decide) (by decide) ?_
  intro h_1 s_2 t_3 k_4 K_5 O_6 A_7 dd_8
  show Runs 1 l Z [("com/example/pacerd/pacerd/run/Outcome", 27), ("java/lang/String", 7)] n0 _ _ _ _ _ _ _ [a] h_1 2 4 11 #[.val (.ref a), .val (.ref u), .val (.int (0 : Int32)), .val (.int (0 : Int32)), .val .null, .unset] [(.ref s_2), (.ref a)]
  refine Runs.getF i3_11 (host := "") (Or.inl (w26 hw)) Via.refl (O_6.fld (i := 0) rfl) ?_
  have O_9 := (O0.keep K_5 nin0)
  refine Runs.putF (i := 0) (ty := (.array .byte)) i3_14 (host := "") (Or.inl (w26 hw)) Via.refl O_9 rfl (lay_0 hw) rfl (Or.inr ⟨(w22 hw), rfl, rfl⟩) (w8 hw) (by decide) rfl rfl ga (Or.inl (List.mem_of_getElem? (i := 0) rfl)) ?_
  intro h_10 K_11 (O_12 : Obj Z h_10 a "java/lang/String" [("java/lang/String", "value", "[B", (.ref t_3)), ("java/lang/String", "coder", "B", (.int (0 : Int32)))])
  refine Runs.aloadN i3_17 rfl rfl ?_
  refine Runs.ldcT (vs := []) (z := (0 : Int32)) (n := 0) (by decide) i3_18 (hw _ (List.mem_of_getElem? (i := 20) rfl)) (own_sa hw) (own_EW hw) (List.mem_of_getElem? (i := 1) rfl) ⟨by decide, by decide⟩ (by decide) (by decide) (by decide) (by decide) (by decide) (by decide) ?_
  intro h_13 s_14 t_15 k_16 K_17 O_18 A_19 dd_20
  show Runs 1 l Z [("com/example/pacerd/pacerd/run/Outcome", 27), ("java/lang/String", 7)] n0 _ _ _ _ _ _ _ [a] h_13 4 8 20 #[.val (.ref a), .val (.ref u), .val (.int (0 : Int32)), .val (.int (0 : Int32)), .val .null, .unset] [(.ref s_14), (.ref a)]
  refine Runs.getF i3_20 (host := "") (Or.inl (w27 hw)) Via.refl (O_18.fld (i := 1) rfl) ?_
  have O_21 := (O_12.keep K_17 nin0)
  refine Runs.putF (i := 1) (ty := .byte) i3_23 (host := "") (Or.inl (w27 hw)) Via.refl O_21 rfl (lay_0 hw) rfl (Or.inr ⟨(w23 hw), rfl, rfl⟩) (w8 hw) (by decide) rfl rfl ga (Or.inl (List.mem_of_getElem? (i := 0) rfl)) ?_
  intro h_22 K_23 (O_24 : Obj Z h_22 a "java/lang/String" [("java/lang/String", "value", "[B", (.ref t_3)), ("java/lang/String", "coder", "B", (.int (0 : Int32)))])
  have A_25 := (((A_7.keep K_11 (ninS (Ne.symm (dd_8 _ (List.mem_of_getElem? (i := 0) rfl)).2) nin0)).keep K_17 nin0).keep K_23 (ninS (Ne.symm (dd_8 _ (List.mem_of_getElem? (i := 0) rfl)).2) nin0))
  refine Runs.weak (D1 := []) (fun _ q => nomatch q) ?_
  exact Runs.retV i3_26 rfl (by decide) (by decide) ⟨rfl, t_3, k_4, (((((Keep.refl _ _).trans K_5 all0).trans K_11 (allS (Or.inl (List.mem_of_getElem? (i := 0) rfl)) all0)).trans K_17 all0).trans K_23 (allS (Or.inl (List.mem_of_getElem? (i := 0) rfl)) all0)), O_24, A_25, rfl⟩
set_option maxRecDepth 65536 in
set_option maxHeartbeats 4000000 in
theorem own_si_0 (l : Launch) (Z : State) (a0 : Array Value) (hw : Wds Z a0) (n0 : Nat) (a u : Addr) (ku : ClassId) (h0 : Heap) (ga : n0 ≤ a) (O0 : Obj Z h0 a "java/lang/String" [("java/lang/String", "value", "[B", .null), ("java/lang/String", "coder", "B", (.int (0 : Int32)))]) (U0 : Arv Z h0 u ku .char (0 : Int32) [] (.int 0)) : Con 1 l Z [("com/example/pacerd/pacerd/run/Outcome", 27), ("java/lang/String", 7)] n0 (⟨"java/lang/String", "<init>", "([C)V"⟩ : MethodName) jdk_42_method_3_code 2 none ({ frames := 2, cells := 4, slots := 8, locals := 29 } : Room) #[(.ref a), (.ref u)] [a] h0 (fun v h D' => v = none ∧ ∃ t k, Keep h0 h [a] ∧ Obj Z h a "java/lang/String" [("java/lang/String", "value", "[B", (.ref t)), ("java/lang/String", "coder", "B", (.int (0 : Int32)))] ∧ Arv Z h t k .byte (0 : Int32) [] (.int 0) ∧ D' = []) := by
  refine Con.of_runs (ls := #[.val (.ref a), .val (.ref u)]) (by decide +kernel) (ef rfl rfl) ?_
  refine Runs.aloadN i2_0 rfl rfl ?_
  refine Runs.aloadN i2_1 rfl rfl ?_
  refine Runs.iconst (v := (0 : Int32)) i2_2 (by decide) ?_
  refine Runs.aloadN i2_3 rfl rfl ?_
  refine Runs.arrlen i2_4 U0 ?_
  refine Runs.aconstNull i2_5 ?_
  refine Runs.callCW (argsL := [(.ref u), (.int (0 : Int32)), (.int (0 : Int32)), .null]) (rest := []) (W := 0) i2_6 rfl (w13 hw) (w14 hw) (w16 hw) (w9 hw) (by decide) pd_7 rfl rfl rfl rfl (by decide) (by decide) (by decide) (by decide) (allS (List.mem_of_getElem? (i := 0) rfl) all0) (by decide) (own_si4_0 l Z a0 hw n0 a u _ ga O0) ?_
  intro v h_6 D1 q hsz
  obtain ⟨rfl, t_1, k_2, K_3, O_4, A_5, rfl⟩ := q
  show Runs 1 l Z [("com/example/pacerd/pacerd/run/Outcome", 27), ("java/lang/String", 7)] n0 _ _ _ _ _ _ _ [a] h_6 4 8 9 #[.val (.ref a), .val (.ref u)] []
  refine Runs.weak (D1 := []) (fun _ q => nomatch q) ?_
  exact Runs.retV i2_9 rfl (by decide) (by decide) ⟨rfl, t_1, k_2, K_3, O_4, A_5, rfl⟩
set_option maxRecDepth 65536 in
set_option maxHeartbeats 4000000 in
theorem own_bi1 (l : Launch) (Z : State) (a0 : Array Value) (hw : Wds Z a0) (n0 : Nat) (a : Addr) (h0 : Heap) (ga : n0 ≤ a) (O0 : Obj Z h0 a "java/lang/StringBuilder" [("java/lang/AbstractStringBuilder", "value", "[B", .null), ("java/lang/AbstractStringBuilder", "coder", "B", (.int (0 : Int32))), ("java/lang/AbstractStringBuilder", "count", "I", (.int (0 : Int32))), ("java/lang/AbstractStringBuilder", "maybeLatin1", "Z", (.int (0 : Int32)))]) (cpt : Int32) (S_C : Sta Z Z.heap "java/lang/String" "COMPACT_STRINGS" "Z" (.int cpt)) (hcpt : ¬ cpt = 0) : Con 1 l Z [("com/example/pacerd/pacerd/run/Outcome", 27), ("java/lang/String", 7)] n0 (⟨"java/lang/AbstractStringBuilder", "<init>", "(I)V"⟩ : MethodName) jdk_68_method_2_code 2 none ({ frames := 1, cells := 1, slots := 16, locals := 13 } : Room) #[(.ref a), (.int (16 : Int32))] [] h0 (fun v h D' => v = none ∧ ∃ t k, h0.size ≤ t ∧ Keep h0 h [a] ∧ SBd Z h a t k 16 [] ∧ D' = [t]) := by
  refine Con.of_runs (ls := #[.val (.ref a), .val (.int (16 : Int32))]) (by decide +kernel) (ef rfl rfl) ?_
  refine Runs.aloadN i7_0 rfl rfl ?_
  refine Runs.initO (W := 0) i7_1 (w44 hw) (w18 hw) (w19 hw) rfl (by decide) rfl (by decide) ?_
  refine Runs.getS i7_4 (w45 hw) Via.refl S_C ?_
  refine Runs.ifN i7_7 (feq hcpt).1 ?_
  refine Runs.aloadN i7_10 rfl rfl ?_
  refine Runs.iloadN i7_11 rfl ?_
  refine Runs.newP (cap := 16) (ad := "[B") i7_12 (w21 hw) (by decide) (by decide) (by decide) (by decide) (by decide) rfl ?_
  intro h_1 b_2 k_3 g_6 ge_7 K_4 (A_5 : Arv Z h_1 b_2 k_3 .byte (Int32.ofNat 16) (([] : List Int32).map own_b) (.int 0)) E_8
  have O_9 := (O0.keep K_4 nin0)
  refine Runs.putF (i := 0) (ty := (.array .byte)) i7_14 (host := "") (Or.inl (w46 hw)) Via.refl O_9 rfl (lay_1 hw) rfl (Or.inl (w47 hw)) (w33 hw) (by decide) rfl rfl ga (Or.inr ⟨by decide, by decide⟩) ?_
  intro h_10 K_11 (O_12 : Obj Z h_10 a "java/lang/StringBuilder" [("java/lang/AbstractStringBuilder", "value", "[B", (.ref b_2)), ("java/lang/AbstractStringBuilder", "coder", "B", (.int (0 : Int32))), ("java/lang/AbstractStringBuilder", "count", "I", (.int (0 : Int32))), ("java/lang/AbstractStringBuilder", "maybeLatin1", "Z", (.int (0 : Int32)))])
  refine Runs.aloadN i7_17 rfl rfl ?_
  refine Runs.iconst (v := (0 : Int32)) i7_18 (by decide) ?_
  refine Runs.putF (i := 1) (ty := .byte) i7_19 (host := "") (Or.inl (w48 hw)) Via.refl O_12 rfl (lay_1 hw) rfl (Or.inl (w49 hw)) (w33 hw) (by decide) rfl rfl ga (Or.inr ⟨by decide, by decide⟩) ?_
  intro h_13 K_14 (O_15 : Obj Z h_13 a "java/lang/StringBuilder" [("java/lang/AbstractStringBuilder", "value", "[B", (.ref b_2)), ("java/lang/AbstractStringBuilder", "coder", "B", (.int (0 : Int32))), ("java/lang/AbstractStringBuilder", "count", "I", (.int (0 : Int32))), ("java/lang/AbstractStringBuilder", "maybeLatin1", "Z", (.int (0 : Int32)))])
  refine Runs.goto (t := 38) i7_22 (by decide) ?_
  have A_16 := ((A_5.keep K_11 (ninS (Nat.ne_of_gt (Nat.lt_of_lt_of_le (Nat.lt_of_lt_of_le O0.lt (Nat.le_refl _)) g_6)) nin0)).keep K_14 (ninS (Nat.ne_of_gt (Nat.lt_of_lt_of_le (Nat.lt_of_lt_of_le O0.lt (Nat.le_refl _)) g_6)) nin0))
  exact Runs.retV i7_38 rfl (by decide) (by decide) ⟨rfl, b_2, k_3, g_6, ((((Keep.refl _ _).trans K_4 all0).trans K_11 (allS (Or.inl (List.mem_of_getElem? (i := 0) rfl)) all0)).trans K_14 (allS (Or.inl (List.mem_of_getElem? (i := 0) rfl)) all0)), ⟨O_15, A_16, ((E_8.keep K_11).keep K_14), own_lat0, by decide, by decide⟩, rfl⟩
set_option maxRecDepth 65536 in
set_option maxHeartbeats 4000000 in
theorem own_bi (l : Launch) (Z : State) (a0 : Array Value) (hw : Wds Z a0) (n0 : Nat) (a : Addr) (h0 : Heap) (ga : n0 ≤ a) (O0 : Obj Z h0 a "java/lang/StringBuilder" [("java/lang/AbstractStringBuilder", "value", "[B", .null), ("java/lang/AbstractStringBuilder", "coder", "B", (.int (0 : Int32))), ("java/lang/AbstractStringBuilder", "count", "I", (.int (0 : Int32))), ("java/lang/AbstractStringBuilder", "maybeLatin1", "Z", (.int (0 : Int32)))]) (cpt : Int32) (S_C : Sta Z Z.heap "java/lang/String" "COMPACT_STRINGS" "Z" (.int cpt)) (hcpt : ¬ cpt = 0) : Con 1 l Z [("com/example/pacerd/pacerd/run/Outcome", 27), ("java/lang/String", 7)] n0 (⟨"java/lang/StringBuilder", "<init>", "()V"⟩ : MethodName) jdk_67_method_1_code 1 none ({ frames := 2, cells := 1, slots := 16, locals := 26 } : Room) #[(.ref a)] [] h0 (fun v h D' => v = none ∧ ∃ t k, h0.size ≤ t ∧ Keep h0 h [a] ∧ SBd Z h a t k 16 [] ∧ D' = [t]) := by
  refine Con.of_runs (ls := #[.val (.ref a)]) (by decide +kernel) (ef rfl rfl) ?_
  refine Runs.aloadN i6_0 rfl rfl ?_
  refine Runs.bipush (v := (16 : Int32)) i6_1 (by decide) ?_
  refine Runs.callCW (argsL := [(.int (16 : Int32))]) (rest := []) (W := 0) i6_3 rfl (w38 hw) (w39 hw) (w43 hw) (w42 hw) (by decide) pd_8 rfl rfl rfl rfl (by decide) (by decide) (by decide) (by decide) all0 (by decide) (own_bi1 l Z a0 hw n0 a _ ga O0 cpt S_C hcpt) ?_
  intro v h_6 D1 q hsz
  obtain ⟨rfl, t_1, k_2, g_3, K_4, B_5, rfl⟩ := q
  show Runs 1 l Z [("com/example/pacerd/pacerd/run/Outcome", 27), ("java/lang/String", 7)] n0 _ _ _ _ _ _ _ [t_1] h_6 1 16 6 #[.val (.ref a)] []
  exact Runs.retV i6_6 rfl (by decide) (by decide) ⟨rfl, t_1, k_2, g_3, K_4, B_5, rfl⟩
set_option maxRecDepth 65536 in
set_option maxHeartbeats 4000000 in
theorem own_cod (l : Launch) (Z : State) (a0 : Array Value) (hw : Wds Z a0) (n0 : Nat) (b u : Addr) (k : ClassId) (ys : List Int32) (h0 : Heap) (S0 : Str Z h0 b u k ys) (cpt : Int32) (S_C : Sta Z Z.heap "java/lang/String" "COMPACT_STRINGS" "Z" (.int cpt)) (hcpt : ¬ cpt = 0) : Con 1 l Z [("com/example/pacerd/pacerd/run/Outcome", 27), ("java/lang/String", 7)] n0 (⟨"java/lang/String", "coder", "()B"⟩ : MethodName) jdk_42_method_152_code 1 (some .byte) ({ frames := 0, cells := 0, slots := 0, locals := 0 } : Room) #[(.ref b)] [] h0 (fun v h D' => v = some (.int 0) ∧ h0 = h ∧ D' = []) := by
  refine Con.of_runs (ls := #[.val (.ref b)]) (by decide +kernel) (ef rfl rfl) ?_
  refine Runs.getS i11_0 (w71 hw) Via.refl S_C ?_
  refine Runs.ifN i11_3 (feq hcpt).1 ?_
  refine Runs.aloadN i11_6 rfl rfl ?_
  refine Runs.getF i11_7 (host := "") (Or.inl (w27 hw)) Via.refl (S0.1.fld (i := 1) rfl) ?_
  refine Runs.goto (t := 14) i11_10 (by decide) ?_
  exact Runs.retI (z := (0 : Int32)) i11_14 rfl (Or.inr (Or.inr (Or.inl rfl))) (by decide) (by decide) (by decide) ⟨rfl, rfl, rfl⟩
set_option maxRecDepth 65536 in
set_option maxHeartbeats 4000000 in
theorem own_len (l : Launch) (Z : State) (a0 : Array Value) (hw : Wds Z a0) (n0 : Nat) (b u : Addr) (k2 : ClassId) (ys : List Int32) (h0 : Heap) (S0 : Str Z h0 b u k2 ys) (cpt : Int32) (S_C : Sta Z Z.heap "java/lang/String" "COMPACT_STRINGS" "Z" (.int cpt)) (hcpt : ¬ cpt = 0) : Con 1 l Z [("com/example/pacerd/pacerd/run/Outcome", 27), ("java/lang/String", 7)] n0 (⟨"java/lang/String", "length", "()I"⟩ : MethodName) jdk_42_method_54_code 1 (some .int) ({ frames := 1, cells := 0, slots := 0, locals := 13 } : Room) #[(.ref b)] [] h0 (fun v h D' => v = some (.int (Int32.ofNat ys.length)) ∧ h0 = h ∧ D' = []) := by
  refine Con.of_runs (ls := #[.val (.ref b)]) (by decide +kernel) (ef rfl rfl) ?_
  refine Runs.aloadN i10_0 rfl rfl ?_
  refine Runs.getF i10_1 (host := "") (Or.inl (w26 hw)) Via.refl (S0.1.fld (i := 0) rfl) ?_
  refine Runs.arrlen i10_4 S0.2.1 ?_
  refine Runs.aloadN i10_5 rfl rfl ?_
  refine Runs.callVW (argsL := []) (rest := [(.int (Int32.ofNat ys.length))]) (W := 1) i10_6 (w66 hw) (w67 hw) (fun s hZ => notFace_of_selects (args := #[]) (mvT hZ (w69 hw))) (w69 hw) (w68 hw) (w70 hw) (w9 hw) (by decide) S0.1.1 pd_9 rfl rfl rfl rfl (by decide) (by decide) (by decide) (by decide) all0 (by decide) (own_cod l Z a0 hw n0 b u k2 ys _ S0 cpt S_C hcpt) ?_
  intro v h1 D1 q hsz
  obtain ⟨rfl, rfl, rfl⟩ := q
  show Runs 1 l Z [("com/example/pacerd/pacerd/run/Outcome", 27), ("java/lang/String", 7)] n0 _ _ _ _ _ _ _ [] h0 0 0 9 #[.val (.ref b)] [(.int (0 : Int32)), (.int (Int32.ofNat ys.length))]
  refine Runs.ishr (z := (Int32.ofNat ys.length)) i10_9 (own_shr0 _) ?_
  exact Runs.retI (z := (Int32.ofNat ys.length)) i10_10 rfl (Or.inl rfl) rfl (by decide) (by decide) ⟨rfl, rfl, rfl⟩
theorem own_sub0 {a b : Nat} (h : a ≤ b) (hb : b < 2147483648) : ¬ (0 : Int32) < Int32.ofNat a - Int32.ofNat b := by
  rw [Int32.lt_iff_toInt_lt, Int32.toInt_sub, own_n0 a (by omega), own_n0 b hb, Int.bmod_eq_of_le (by omega) (by omega)]; show ¬ (0 : Int) < _; omega
set_option maxRecDepth 65536 in
set_option maxHeartbeats 4000000 in
theorem own_ecf (l : Launch) (Z : State) (a0 : Array Value) (hw : Wds Z a0) (n0 : Nat) (a t : Addr) (k : ClassId) (cap : Nat) (xs : List Int32) (h0 : Heap) (B0 : SBd Z h0 a t k cap xs) (N : Nat) (hN : N ≤ cap) : Con 1 l Z [("com/example/pacerd/pacerd/run/Outcome", 27), ("java/lang/String", 7)] n0 (⟨"java/lang/AbstractStringBuilder", "ensureCapacityInternal", "(I)V"⟩ : MethodName) jdk_68_method_9_code 3 none ({ frames := 0, cells := 0, slots := 0, locals := 0 } : Room) #[(.ref a), (.int (Int32.ofNat N))] [] h0 (fun v h D' => v = none ∧ h0 = h ∧ D' = []) := by
  refine Con.of_runs (ls := #[.val (.ref a), .val (.int (Int32.ofNat N)), .unset]) (by decide +kernel) (ef rfl rfl) ?_
  obtain ⟨BO, BA, BE, BL, hle, hcap⟩ := id B0
  have hsub : ¬ (0 : Int32) < Int32.ofNat N - Int32.ofNat cap := own_sub0 hN (by omega)
  refine Runs.aloadN i12_0 rfl rfl ?_
  refine Runs.getF i12_1 (host := "") (Or.inl (w46 hw)) Via.refl (BO.fld (i := 0) rfl) ?_
  refine Runs.arrlen i12_4 BA ?_
  refine Runs.aloadN i12_5 rfl rfl ?_
  refine Runs.getF i12_6 (host := "") (Or.inl (w48 hw)) Via.refl (BO.fld (i := 1) rfl) ?_
  refine Runs.ishr (z := (Int32.ofNat cap)) i12_9 (own_shr0 _) ?_
  refine Runs.istoreN (ls' := #[.val (.ref a), .val (.int (Int32.ofNat N)), .val (.int (Int32.ofNat cap))]) i12_10 rfl ?_
  refine Runs.iloadN i12_11 rfl ?_
  refine Runs.iloadN i12_12 rfl ?_
  refine Runs.isub (z := Int32.ofNat N - Int32.ofNat cap) i12_13 rfl ?_
  refine Runs.ifY (t := 38) i12_14 (by decide) (flt hsub).2.2.2 ?_
  exact Runs.retV i12_38 rfl (by decide) (by decide) ⟨rfl, rfl, rfl⟩
set_option maxRecDepth 65536 in
set_option maxHeartbeats 4000000 in
theorem own_ifn (l : Launch) (Z : State) (a0 : Array Value) (hw : Wds Z a0) (n0 : Nat) (a t : Addr) (k : ClassId) (cap : Nat) (xs : List Int32) (h0 : Heap) (B0 : SBd Z h0 a t k cap xs) (s u : Addr) (k2 : ClassId) (ys : List Int32) (S0 : Str Z h0 s u k2 ys) (cpt : Int32) (S_C : Sta Z Z.heap "java/lang/String" "COMPACT_STRINGS" "Z" (.int cpt)) (hcpt : ¬ cpt = 0) : Con 1 l Z [("com/example/pacerd/pacerd/run/Outcome", 27), ("java/lang/String", 7)] n0 (⟨"java/lang/AbstractStringBuilder", "inflateIfNeededFor", "(Ljava/lang/String;)V"⟩ : MethodName) jdk_68_method_71_code 2 none ({ frames := 1, cells := 0, slots := 0, locals := 13 } : Room) #[(.ref a), (.ref s)] [] h0 (fun v h D' => v = none ∧ h0 = h ∧ D' = []) := by
  refine Con.of_runs (ls := #[.val (.ref a), .val (.ref s)]) (by decide +kernel) (ef rfl rfl) ?_
  obtain ⟨BO, BA, BE, BL, hle, hcap⟩ := id B0
  refine Runs.getS i14_0 (w45 hw) Via.refl S_C ?_
  refine Runs.ifN i14_3 (feq hcpt).1 ?_
  refine Runs.aloadN i14_6 rfl rfl ?_
  refine Runs.getF i14_7 (host := "") (Or.inl (w48 hw)) Via.refl (BO.fld (i := 1) rfl) ?_
  refine Runs.aloadN i14_10 rfl rfl ?_
  refine Runs.callVW (argsL := []) (rest := [(.int (0 : Int32))]) (W := 1) i14_11 (w89 hw) (w67 hw) (fun s hZ => notFace_of_selects (args := #[]) (mvT hZ (w69 hw))) (w69 hw) (w68 hw) (w70 hw) (w9 hw) (by decide) S0.1.1 pd_9 rfl rfl rfl rfl (by decide) (by decide) (by decide) (by decide) all0 (by decide) (own_cod l Z a0 hw n0 s u k2 ys _ S0 cpt S_C hcpt) ?_
  intro v h1 D1 q hsz
  obtain ⟨rfl, rfl, rfl⟩ := q
  show Runs 1 l Z [("com/example/pacerd/pacerd/run/Outcome", 27), ("java/lang/String", 7)] n0 _ _ _ _ _ _ _ [] h0 0 0 14 #[.val (.ref a), .val (.ref s)] [(.int (0 : Int32)), (.int (0 : Int32))]
  refine Runs.icY (t := 21) i14_14 (by decide) (teq (by decide : (0 : Int32) = (0 : Int32))).1 ?_
  exact Runs.retV i14_21 rfl (by decide) (by decide) ⟨rfl, rfl, rfl⟩
set_option maxRecDepth 65536 in
set_option maxHeartbeats 4000000 in
theorem own_gb (l : Launch) (Z : State) (a0 : Array Value) (hw : Wds Z a0) (n0 : Nat) (t : Addr) (k : ClassId) (cap : Nat) (xs : List Int32) (h0 : Heap) (BA : Arv Z h0 t k .byte (Int32.ofNat cap) (xs.map own_b) (.int 0)) (s u : Addr) (k2 : ClassId) (ys : List Int32) (S0 : Str Z h0 s u k2 ys) (hfit : xs.length + ys.length ≤ cap) (hcap : cap < 1000000) (gt : n0 ≤ t) (cpt : Int32) (S_C : Sta Z Z.heap "java/lang/String" "COMPACT_STRINGS" "Z" (.int cpt)) (hcpt : ¬ cpt = 0) : Con 1 l Z [("com/example/pacerd/pacerd/run/Outcome", 27), ("java/lang/String", 7)] n0 (⟨"java/lang/String", "getBytes", "([BIB)V"⟩ : MethodName) jdk_42_method_147_code 4 none ({ frames := 1, cells := 0, slots := 0, locals := 38 } : Room) #[(.ref s), (.ref t), (.int (Int32.ofNat xs.length)), (.int (0 : Int32))] [t] h0 (fun v h D' => v = none ∧ Keep h0 h [t] ∧ Arv Z h t k .byte (Int32.ofNat cap) ((xs ++ ys).map own_b) (.int 0) ∧ D' = []) := by
  refine Con.of_runs (ls := #[.val (.ref s), .val (.ref t), .val (.int (Int32.ofNat xs.length)), .val (.int (0 : Int32))]) (by decide +kernel) (ef rfl rfl) ?_
  have hys := S0.2.2.2
  refine Runs.aloadN i15_0 rfl rfl ?_
  refine Runs.callVW (argsL := []) (rest := []) (W := 0) i15_1 (w66 hw) (w67 hw) (fun s hZ => notFace_of_selects (args := #[]) (mvT hZ (w69 hw))) (w69 hw) (w68 hw) (w70 hw) (w9 hw) (by decide) S0.1.1 pd_9 rfl rfl rfl rfl (by decide) (by decide) (by decide) (by decide) all0 (by decide) (own_cod l Z a0 hw n0 s u k2 ys _ S0 cpt S_C hcpt) ?_
  intro v h1 D1 q hsz
  obtain ⟨rfl, rfl, rfl⟩ := q
  show Runs 1 l Z [("com/example/pacerd/pacerd/run/Outcome", 27), ("java/lang/String", 7)] n0 _ _ _ _ _ _ _ [t] h0 0 0 4 #[.val (.ref s), .val (.ref t), .val (.int (Int32.ofNat xs.length)), .val (.int (0 : Int32))] [(.int (0 : Int32))]
  refine Runs.iloadN i15_4 rfl ?_
  refine Runs.icN i15_5 (teq (by decide : (0 : Int32) = (0 : Int32))).2 ?_
  refine Runs.aloadN i15_8 rfl rfl ?_
  refine Runs.getF i15_9 (host := "") (Or.inl (w26 hw)) Via.refl (S0.1.fld (i := 0) rfl) ?_
  refine Runs.iconst (v := (0 : Int32)) i15_12 (by decide) ?_
  refine Runs.aloadN i15_13 rfl rfl ?_
  refine Runs.iloadN i15_14 rfl ?_
  refine Runs.iloadN i15_15 rfl ?_
  refine Runs.ishl (z := (Int32.ofNat xs.length)) i15_16 (own_shl0 _) ?_
  refine Runs.aloadN i15_17 rfl rfl ?_
  refine Runs.getF i15_18 (host := "") (Or.inl (w26 hw)) Via.refl (S0.1.fld (i := 0) rfl) ?_
  refine Runs.arrlen i15_21 S0.2.1 ?_
  have A_1 : Arv Z h0 t k .byte (Int32.ofNat cap) (xs.map own_b ++ List.replicate ((ys.map own_b).length + 0) (.int 0)) (.int 0) := BA.pad (pad_rep _ _ _)
  refine Runs.acopy (W := 0) (us := (ys.map own_b)) i15_22 (w95 hw) (w98 hw) (w96 hw) (w97 hw) S0.2.1 A_1 rfl (by decide) (own_nn (by omega)) (own_nn (by omega)) (by rw [own_cl (n := ys.length) (by omega)]; exact Nat.le_of_eq (Nat.zero_add _)) (by rw [own_cl (n := xs.length) (by omega), own_cl (n := ys.length) (by omega), own_cl (n := cap) (by omega)]; omega) (by rw [own_cl (n := ys.length) (by omega), ← List.length_map (f := own_b)]; exact (own_rng _ _).symm) (by rw [own_cl (n := xs.length) (by omega), own_cl (n := ys.length) (by omega)]; simp) gt (Or.inl (List.mem_of_getElem? (i := 0) rfl)) rfl (by decide) rfl (by decide) ?_
  intro h_2 K_3 A_4
  have A_5 : Arv Z h_2 t k .byte (Int32.ofNat cap) ((xs ++ ys).map own_b) (.int 0) := A_4.pad (fun i => by rw [own_cl (n := xs.length) (by omega), own_cl (n := ys.length) (by omega), List.map_append, ← own_app (xs.map own_b) (ys.map own_b) (.int 0) 0 i, List.length_map, List.length_map])
  refine Runs.goto (t := 43) i15_25 (by decide) ?_
  exact Runs.weak (D1 := []) (fun _ q => nomatch q) (Runs.retV i15_43 rfl (by decide) (by decide) ⟨rfl, K_3, A_5, rfl⟩)
set_option maxRecDepth 65536 in
set_option maxHeartbeats 4000000 in
theorem own_psa (l : Launch) (Z : State) (a0 : Array Value) (hw : Wds Z a0) (n0 : Nat) (a t : Addr) (k : ClassId) (cap : Nat) (xs : List Int32) (h0 : Heap) (B0 : SBd Z h0 a t k cap xs) (s u : Addr) (k2 : ClassId) (ys : List Int32) (S0 : Str Z h0 s u k2 ys) (hfit : xs.length + ys.length ≤ cap) (gt : n0 ≤ t) (cpt : Int32) (S_C : Sta Z Z.heap "java/lang/String" "COMPACT_STRINGS" "Z" (.int cpt)) (hcpt : ¬ cpt = 0) : Con 1 l Z [("com/example/pacerd/pacerd/run/Outcome", 27), ("java/lang/String", 7)] n0 (⟨"java/lang/AbstractStringBuilder", "putStringAt", "(ILjava/lang/String;)V"⟩ : MethodName) jdk_68_method_73_code 3 none ({ frames := 2, cells := 0, slots := 0, locals := 53 } : Room) #[(.ref a), (.int (Int32.ofNat xs.length)), (.ref s)] [t] h0 (fun v h D' => v = none ∧ Keep h0 h [t] ∧ Arv Z h t k .byte (Int32.ofNat cap) ((xs ++ ys).map own_b) (.int 0) ∧ D' = []) := by
  refine Con.of_runs (ls := #[.val (.ref a), .val (.int (Int32.ofNat xs.length)), .val (.ref s)]) (by decide +kernel) (ef rfl rfl) ?_
  obtain ⟨BO, BA, BE, BL, hle, hcap⟩ := id B0
  refine Runs.aloadN i13_0 rfl rfl ?_
  refine Runs.aloadN i13_1 rfl rfl ?_
  refine Runs.callVW (argsL := [(.ref s)]) (rest := []) (W := 0) i13_2 (w84 hw) (declares_of (w85 hw) (w88 hw)) (fun s hZ => notFace_of_selects (args := #[]) (mvT hZ (w87 hw))) (w87 hw) (w85 hw) (w88 hw) (w42 hw) (by decide) BO.1 pd_10 rfl rfl rfl rfl (by decide) (by decide) (by decide) (by decide) all0 (by decide) (own_ifn l Z a0 hw n0 a t k cap xs _ B0 s u k2 ys S0 cpt S_C hcpt) ?_
  intro v h1 D1 q hsz
  obtain ⟨rfl, rfl, rfl⟩ := q
  show Runs 1 l Z [("com/example/pacerd/pacerd/run/Outcome", 27), ("java/lang/String", 7)] n0 _ _ _ _ _ _ _ [t] h0 0 0 5 #[.val (.ref a), .val (.int (Int32.ofNat xs.length)), .val (.ref s)] []
  refine Runs.aloadN i13_5 rfl rfl ?_
  refine Runs.aloadN i13_6 rfl rfl ?_
  refine Runs.getF i13_7 (host := "") (Or.inl (w46 hw)) Via.refl (BO.fld (i := 0) rfl) ?_
  refine Runs.iloadN i13_10 rfl ?_
  refine Runs.aloadN i13_11 rfl rfl ?_
  refine Runs.getF i13_12 (host := "") (Or.inl (w48 hw)) Via.refl (BO.fld (i := 1) rfl) ?_
  refine Runs.callVW (argsL := [(.ref t), (.int (Int32.ofNat xs.length)), (.int (0 : Int32))]) (rest := []) (W := 0) i13_15 (w90 hw) (w91 hw) (fun s hZ => notFace_of_selects (args := #[]) (mvT hZ (w93 hw))) (w93 hw) (w92 hw) (w94 hw) (w9 hw) (by decide) S0.1.1 pd_11 rfl rfl rfl rfl (by decide) (by decide) (by decide) (by decide) (allS (List.mem_of_getElem? (i := 0) rfl) all0) (by decide) (own_gb l Z a0 hw n0 t k cap xs _ BA s u k2 ys S0 hfit hcap gt cpt S_C hcpt) ?_
  intro v h_1 D1 q hsz
  obtain ⟨rfl, K_2, A_3, rfl⟩ := q
  show Runs 1 l Z [("com/example/pacerd/pacerd/run/Outcome", 27), ("java/lang/String", 7)] n0 _ _ _ _ _ _ _ [t] h_1 0 0 18 #[.val (.ref a), .val (.int (Int32.ofNat xs.length)), .val (.ref s)] []
  exact Runs.weak (D1 := []) (fun _ q => nomatch q) (Runs.retV i13_18 rfl (by decide) (by decide) ⟨rfl, K_2, A_3, rfl⟩)
set_option maxRecDepth 65536 in
set_option maxHeartbeats 4000000 in
theorem own_ap1f (l : Launch) (Z : State) (a0 : Array Value) (hw : Wds Z a0) (n0 : Nat) (a t : Addr) (k : ClassId) (cap : Nat) (xs : List Int32) (h0 : Heap) (B0 : SBd Z h0 a t k cap xs) (s u : Addr) (k2 : ClassId) (ys : List Int32) (S0 : Str Z h0 s u k2 ys) (hfit : xs.length + ys.length ≤ cap) (gt : n0 ≤ t) (ga : n0 ≤ a) (cpt : Int32) (S_C : Sta Z Z.heap "java/lang/String" "COMPACT_STRINGS" "Z" (.int cpt)) (hcpt : ¬ cpt = 0) : Con 1 l Z [("com/example/pacerd/pacerd/run/Outcome", 27), ("java/lang/String", 7)] n0 (⟨"java/lang/AbstractStringBuilder", "append", "(Ljava/lang/String;)Ljava/lang/AbstractStringBuilder;"⟩ : MethodName) jdk_68_method_22_code 3 (some (.object "java/lang/AbstractStringBuilder")) ({ frames := 3, cells := 0, slots := 0, locals := 68 } : Room) #[(.ref a), (.ref s)] [t] h0 (fun v h D' => v = some (.ref a) ∧ Keep h0 h [a, t] ∧ SBd Z h a t k cap (xs ++ ys) ∧ D' = []) := by
  refine Con.of_runs (ls := #[.val (.ref a), .val (.ref s), .unset]) (by decide +kernel) (ef rfl rfl) ?_
  obtain ⟨BO, BA, BE, BL, hle, hcap⟩ := id B0
  have hys := S0.2.2.2
  have hat : a ≠ t := Exa.neArv BO.1 BA (w33 hw)
  refine Runs.aloadN i9_0 rfl rfl ?_
  refine Runs.nnullY (t := 9) i9_1 (by decide) ?_
  refine Runs.aloadN i9_9 rfl rfl ?_
  refine Runs.callVW (argsL := []) (rest := []) (W := 0) i9_10 (w61 hw) (w62 hw) (fun s hZ => notFace_of_selects (args := #[]) (mvT hZ (w64 hw))) (w64 hw) (w63 hw) (w65 hw) (w9 hw) (by decide) S0.1.1 pd_12 rfl rfl rfl rfl (by decide) (by decide) (by decide) (by decide) all0 (by decide) (own_len l Z a0 hw n0 s u k2 ys _ S0 cpt S_C hcpt) ?_
  intro v h1 D1 q hsz
  obtain ⟨rfl, rfl, rfl⟩ := q
  show Runs 1 l Z [("com/example/pacerd/pacerd/run/Outcome", 27), ("java/lang/String", 7)] n0 _ _ _ _ _ _ _ [t] h0 0 0 13 #[.val (.ref a), .val (.ref s), .unset] [(.int (Int32.ofNat ys.length))]
  refine Runs.istoreN (ls' := #[.val (.ref a), .val (.ref s), .val (.int (Int32.ofNat ys.length))]) i9_13 rfl ?_
  refine Runs.aloadN i9_14 rfl rfl ?_
  refine Runs.aloadN i9_15 rfl rfl ?_
  refine Runs.getF i9_16 (host := "") (Or.inl (w72 hw)) Via.refl (BO.fld (i := 2) rfl) ?_
  refine Runs.iloadN i9_19 rfl ?_
  refine Runs.iadd (z := (Int32.ofNat (xs.length + ys.length))) i9_20 (own_add (a := xs.length) (b := ys.length) (by omega)) ?_
  refine Runs.callVW (argsL := [(.int (Int32.ofNat (xs.length + ys.length)))]) (rest := []) (W := 0) i9_21 (w74 hw) (declares_of (w75 hw) (w78 hw)) (fun s hZ => notFace_of_selects (args := #[]) (mvT hZ (w77 hw))) (w77 hw) (w75 hw) (w78 hw) (w42 hw) (by decide) BO.1 pd_8 rfl rfl rfl rfl (by decide) (by decide) (by decide) (by decide) all0 (by decide) (own_ecf l Z a0 hw n0 a t k cap xs _ B0 (xs.length + ys.length) (by omega)) ?_
  intro v h1 D1 q hsz
  obtain ⟨rfl, rfl, rfl⟩ := q
  show Runs 1 l Z [("com/example/pacerd/pacerd/run/Outcome", 27), ("java/lang/String", 7)] n0 _ _ _ _ _ _ _ [t] h0 0 0 24 #[.val (.ref a), .val (.ref s), .val (.int (Int32.ofNat ys.length))] []
  refine Runs.aloadN i9_24 rfl rfl ?_
  refine Runs.aloadN i9_25 rfl rfl ?_
  refine Runs.getF i9_26 (host := "") (Or.inl (w72 hw)) Via.refl (BO.fld (i := 2) rfl) ?_
  refine Runs.aloadN i9_29 rfl rfl ?_
  refine Runs.callVW (argsL := [(.int (Int32.ofNat xs.length)), (.ref s)]) (rest := []) (W := 0) i9_30 (w79 hw) (declares_of (w80 hw) (w83 hw)) (fun s hZ => notFace_of_selects (args := #[]) (mvT hZ (w82 hw))) (w82 hw) (w80 hw) (w83 hw) (w42 hw) (by decide) BO.1 pd_13 rfl rfl rfl rfl (by decide) (by decide) (by decide) (by decide) (allS (List.mem_of_getElem? (i := 0) rfl) all0) (by decide) (own_psa l Z a0 hw n0 a t k cap xs _ B0 s u k2 ys S0 (by omega) gt cpt S_C hcpt) ?_
  intro v h_1 D1 q hsz
  obtain ⟨rfl, K_2, A_3, rfl⟩ := q
  show Runs 1 l Z [("com/example/pacerd/pacerd/run/Outcome", 27), ("java/lang/String", 7)] n0 _ _ _ _ _ _ _ [t] h_1 0 0 33 #[.val (.ref a), .val (.ref s), .val (.int (Int32.ofNat ys.length))] []
  refine Runs.aloadN i9_33 rfl rfl ?_
  refine Runs.dup i9_34 rfl ?_
  have O_4 := (BO.keep K_2 (ninS hat nin0))
  refine Runs.getF i9_35 (host := "") (Or.inl (w72 hw)) Via.refl (O_4.fld (i := 2) rfl) ?_
  refine Runs.iloadN i9_38 rfl ?_
  refine Runs.iadd (z := (Int32.ofNat (xs.length + ys.length))) i9_39 (own_add (a := xs.length) (b := ys.length) (by omega)) ?_
  refine Runs.putF (i := 2) (ty := .int) i9_40 (host := "") (Or.inl (w72 hw)) Via.refl O_4 rfl (lay_1 hw) rfl (Or.inl (w73 hw)) (w33 hw) (by decide) rfl rfl ga (Or.inr ⟨by decide, by decide⟩) ?_
  intro h_5 K_6 (O_7 : Obj Z h_5 a "java/lang/StringBuilder" [("java/lang/AbstractStringBuilder", "value", "[B", (.ref t)), ("java/lang/AbstractStringBuilder", "coder", "B", (.int (0 : Int32))), ("java/lang/AbstractStringBuilder", "count", "I", (.int (Int32.ofNat (xs.length + ys.length)))), ("java/lang/AbstractStringBuilder", "maybeLatin1", "Z", (.int (0 : Int32)))])
  refine Runs.aloadN i9_43 rfl rfl ?_
  have A_8 := (A_3.keep K_6 (ninS (Ne.symm hat) nin0))
  refine Runs.weak (D1 := []) (fun _ q => nomatch q) ?_
  exact Runs.retA i9_44 rfl rfl rfl (by decide) (by decide) ⟨rfl, (((Keep.refl _ _).trans K_2 (allS (Or.inl (List.mem_of_getElem? (i := 1) rfl)) all0)).trans K_6 (allS (Or.inl (List.mem_of_getElem? (i := 0) rfl)) all0)), ⟨by rw [List.length_append]; exact O_7, A_8, ((B0.2.2.1.keep K_2).keep K_6), own_lat_app BL S0.2.2.1, by rw [List.length_append]; omega, by omega⟩, rfl⟩
set_option maxRecDepth 65536 in
set_option maxHeartbeats 4000000 in
theorem own_apf (l : Launch) (Z : State) (a0 : Array Value) (hw : Wds Z a0) (n0 : Nat) (a t : Addr) (k : ClassId) (cap : Nat) (xs : List Int32) (h0 : Heap) (B0 : SBd Z h0 a t k cap xs) (s u : Addr) (k2 : ClassId) (ys : List Int32) (S0 : Str Z h0 s u k2 ys) (hfit : xs.length + ys.length ≤ cap) (gt : n0 ≤ t) (ga : n0 ≤ a) (cpt : Int32) (S_C : Sta Z Z.heap "java/lang/String" "COMPACT_STRINGS" "Z" (.int cpt)) (hcpt : ¬ cpt = 0) : Con 1 l Z [("com/example/pacerd/pacerd/run/Outcome", 27), ("java/lang/String", 7)] n0 (⟨"java/lang/StringBuilder", "append", "(Ljava/lang/String;)Ljava/lang/StringBuilder;"⟩ : MethodName) jdk_67_method_7_code 2 (some (.object "java/lang/StringBuilder")) ({ frames := 4, cells := 0, slots := 0, locals := 82 } : Room) #[(.ref a), (.ref s)] [t] h0 (fun v h D' => v = some (.ref a) ∧ Keep h0 h [a, t] ∧ SBd Z h a t k cap (xs ++ ys) ∧ D' = []) := by
  refine Con.of_runs (ls := #[.val (.ref a), .val (.ref s)]) (by decide +kernel) (ef rfl rfl) ?_
  obtain ⟨BO, BA, BE, BL, hle, hcap⟩ := id B0
  refine Runs.aloadN i8_0 rfl rfl ?_
  refine Runs.aloadN i8_1 rfl rfl ?_
  refine Runs.callUW (argsL := [(.ref s)]) (rest := []) (W := 0) i8_2 (w56 hw) (same_of (w59 hw) (nf_same (notFace_of_selects (w77 hw)) (w75 hw) rfl) (by decide)) (w57 hw) (w58 hw) (w60 hw) (w42 hw) (by decide) BO.1 pd_14 rfl rfl rfl rfl (by decide) (by decide) (by decide) (by decide) (allS (List.mem_of_getElem? (i := 0) rfl) all0) (by decide) (own_ap1f l Z a0 hw n0 a t k cap xs _ B0 s u k2 ys S0 hfit gt ga cpt S_C hcpt) ?_
  intro v h1 D1 q hsz
  obtain ⟨rfl, K1, B1, rfl⟩ := q
  show Runs 1 l Z [("com/example/pacerd/pacerd/run/Outcome", 27), ("java/lang/String", 7)] n0 _ _ _ _ _ _ _ [t] h1 0 0 5 #[.val (.ref a), .val (.ref s)] [(.ref a)]
  refine Runs.pop i8_5 rfl ?_
  refine Runs.aloadN i8_6 rfl rfl ?_
  refine Runs.weak (D1 := []) (fun _ q => nomatch q) ?_
  exact Runs.retA i8_7 rfl rfl rfl (by decide) (by decide) ⟨rfl, K1, B1, rfl⟩
set_option maxRecDepth 65536 in
set_option maxHeartbeats 4000000 in
theorem own_cow (l : Launch) (Z : State) (a0 : Array Value) (hw : Wds Z a0) (n0 : Nat) (s u : Addr) (k2 : ClassId) (ys : List Int32) (h0 : Heap) (S0 : Stw Z h0 s u k2 ys) (cpt : Int32) (S_C : Sta Z Z.heap "java/lang/String" "COMPACT_STRINGS" "Z" (.int cpt)) (hcpt : ¬ cpt = 0) : Con 1 l Z [("com/example/pacerd/pacerd/run/Outcome", 27), ("java/lang/String", 7)] n0 (⟨"java/lang/String", "coder", "()B"⟩ : MethodName) jdk_42_method_152_code 1 (some .byte) ({ frames := 0, cells := 0, slots := 0, locals := 0 } : Room) #[(.ref s)] [] h0 (fun v h D' => v = some (.int 1) ∧ h0 = h ∧ D' = []) := by
  refine Con.of_runs (ls := #[.val (.ref s)]) (by decide +kernel) (ef rfl rfl) ?_
  refine Runs.getS i11_0 (w71 hw) Via.refl S_C ?_
  refine Runs.ifN i11_3 (feq hcpt).1 ?_
  refine Runs.aloadN i11_6 rfl rfl ?_
  refine Runs.getF i11_7 (host := "") (Or.inl (w27 hw)) Via.refl (S0.1.fld (i := 1) rfl) ?_
  refine Runs.goto (t := 14) i11_10 (by decide) ?_
  exact Runs.retI (z := (1 : Int32)) i11_14 rfl (Or.inr (Or.inr (Or.inl rfl))) (by decide) (by decide) (by decide) ⟨rfl, rfl, rfl⟩
set_option maxRecDepth 65536 in
set_option maxHeartbeats 4000000 in
theorem own_lenw (l : Launch) (Z : State) (a0 : Array Value) (hw : Wds Z a0) (n0 : Nat) (s u : Addr) (k2 : ClassId) (ys : List Int32) (h0 : Heap) (S0 : Stw Z h0 s u k2 ys) (cpt : Int32) (S_C : Sta Z Z.heap "java/lang/String" "COMPACT_STRINGS" "Z" (.int cpt)) (hcpt : ¬ cpt = 0) : Con 1 l Z [("com/example/pacerd/pacerd/run/Outcome", 27), ("java/lang/String", 7)] n0 (⟨"java/lang/String", "length", "()I"⟩ : MethodName) jdk_42_method_54_code 1 (some .int) ({ frames := 1, cells := 0, slots := 0, locals := 13 } : Room) #[(.ref s)] [] h0 (fun v h D' => v = some (.int (Int32.ofNat ys.length)) ∧ h0 = h ∧ D' = []) := by
  refine Con.of_runs (ls := #[.val (.ref s)]) (by decide +kernel) (ef rfl rfl) ?_
  have hys := S0.2.2.2
  refine Runs.aloadN i10_0 rfl rfl ?_
  refine Runs.getF i10_1 (host := "") (Or.inl (w26 hw)) Via.refl (S0.1.fld (i := 0) rfl) ?_
  refine Runs.arrlen i10_4 S0.2.1 ?_
  refine Runs.aloadN i10_5 rfl rfl ?_
  refine Runs.callVW (argsL := []) (rest := [(.int (Int32.ofNat (2 * ys.length)))]) (W := 1) i10_6 (w66 hw) (w67 hw) (fun s hZ => notFace_of_selects (args := #[]) (mvT hZ (w69 hw))) (w69 hw) (w68 hw) (w70 hw) (w9 hw) (by decide) S0.1.1 pd_9 rfl rfl rfl rfl (by decide) (by decide) (by decide) (by decide) all0 (by decide) (own_cow l Z a0 hw n0 s u k2 ys _ S0 cpt S_C hcpt) ?_
  intro v h1 D1 q hsz
  obtain ⟨rfl, rfl, rfl⟩ := q
  show Runs 1 l Z [("com/example/pacerd/pacerd/run/Outcome", 27), ("java/lang/String", 7)] n0 _ _ _ _ _ _ _ [] h0 0 0 9 #[.val (.ref s)] [(.int (1 : Int32)), (.int (Int32.ofNat (2 * ys.length)))]
  refine Runs.ishr (z := Int32.ofNat ys.length) i10_9 (own_shr1 (by omega)) ?_
  exact Runs.retI (z := (Int32.ofNat ys.length)) i10_10 rfl (Or.inl rfl) rfl (by decide) (by decide) ⟨rfl, rfl, rfl⟩
set_option maxRecDepth 65536 in
set_option maxHeartbeats 4000000 in
theorem own_bil (l : Launch) (Z : State) (a0 : Array Value) (hw : Wds Z a0) (n0 : Nat) (a t : Addr) (k : ClassId) (cap : Nat) (xs : List Int32) (h0 : Heap) (B0 : SBd Z h0 a t k cap xs) (cpt : Int32) (S_C : Sta Z Z.heap "java/lang/String" "COMPACT_STRINGS" "Z" (.int cpt)) (hcpt : ¬ cpt = 0) : Con 1 l Z [("com/example/pacerd/pacerd/run/Outcome", 27), ("java/lang/String", 7)] n0 (⟨"java/lang/AbstractStringBuilder", "isLatin1", "()Z"⟩ : MethodName) jdk_68_method_68_code 1 (some .boolean) ({ frames := 0, cells := 0, slots := 0, locals := 0 } : Room) #[(.ref a)] [] h0 (fun v h D' => v = some (.int 1) ∧ h0 = h ∧ D' = []) := by
  refine Con.of_runs (ls := #[.val (.ref a)]) (by decide +kernel) (ef rfl rfl) ?_
  obtain ⟨BO, BA, BE, BL, hle, hcap⟩ := id B0
  refine Runs.getS i22_0 (w45 hw) Via.refl S_C ?_
  refine Runs.ifN i22_3 (feq hcpt).1 ?_
  refine Runs.aloadN i22_6 rfl rfl ?_
  refine Runs.getF i22_7 (host := "") (Or.inl (w48 hw)) Via.refl (BO.fld (i := 1) rfl) ?_
  refine Runs.ifN i22_10 (teq (by decide : (0 : Int32) = (0 : Int32))).2 ?_
  refine Runs.iconst (v := (1 : Int32)) i22_13 (by decide) ?_
  refine Runs.goto (t := 18) i22_14 (by decide) ?_
  exact Runs.retI (z := (1 : Int32)) i22_18 rfl (Or.inr (Or.inl rfl)) rfl (by decide) (by decide) ⟨rfl, rfl, rfl⟩
set_option maxRecDepth 65536 in
set_option maxHeartbeats 4000000 in
theorem own_cfs (l : Launch) (Z : State) (a0 : Array Value) (hw : Wds Z a0) (n0 : Nat) (n cap : Nat) (hn : n ≤ cap) (hcap : cap < 1000000) (fm : Value) (hfm : fm.isRef = true) (h0 : Heap) : Con 1 l Z [("com/example/pacerd/pacerd/run/Outcome", 27), ("java/lang/String", 7)] n0 (⟨"jdk/internal/util/Preconditions", "checkFromIndexSize", "(IIILjava/util/function/BiFunction;)I"⟩ : MethodName) jdk_41_method_13_code 4 (some .int) ({ frames := 0, cells := 0, slots := 0, locals := 0 } : Room) #[(.int (0 : Int32)), (.int (Int32.ofNat n)), (.int (Int32.ofNat cap)), fm] [] h0 (fun v h D' => v = some (.int 0) ∧ h0 = h ∧ D' = []) := by
  refine Con.of_runs (ls := #[.val (.int (0 : Int32)), .val (.int (Int32.ofNat n)), .val (.int (Int32.ofNat cap)), .val fm]) (by decide +kernel) (fun m => by rcases ref_cases hfm with rfl | ⟨_, rfl⟩ <;> exact ef rfl rfl m) ?_
  refine Runs.iloadN i55_0 rfl ?_
  refine Runs.iloadN i55_1 rfl ?_
  refine Runs.ior (z := Int32.ofNat (cap ||| 0)) i55_2 (own_or2 (a := cap) (b := 0)) ?_
  refine Runs.iloadN i55_3 rfl ?_
  refine Runs.ior (z := Int32.ofNat ((cap ||| 0) ||| n)) i55_4 (own_or2 (a := (cap ||| 0)) (b := n)) ?_
  refine Runs.ifN i55_5 (flt (own_nn (by have := own_orlt (own_orlt (a := cap) (b := 0) (by omega) (by omega)) (show n < 1073741824 by omega); omega))).1 ?_
  refine Runs.iloadN i55_8 rfl ?_
  refine Runs.iloadN i55_9 rfl ?_
  refine Runs.iloadN i55_10 rfl ?_
  refine Runs.isub (z := Int32.ofNat cap) i55_11 (own_sub (a := cap) (b := 0) (by omega) (by omega)) ?_
  refine Runs.icY (t := 23) i55_12 (by decide) (flt (own_nlt (a := cap) (b := n) hn (by omega))).2.2.2 ?_
  refine Runs.iloadN i55_23 rfl ?_
  exact Runs.retI (z := (0 : Int32)) i55_24 rfl (Or.inl rfl) rfl (by decide) (by decide) ⟨rfl, rfl, rfl⟩
set_option maxRecDepth 65536 in
set_option maxHeartbeats 4000000 in
theorem own_sbo (l : Launch) (Z : State) (a0 : Array Value) (hw : Wds Z a0) (n0 : Nat) (n cap : Nat) (hn : n ≤ cap) (hcap : cap < 1000000) (fm : Value) (hfm : fm.isRef = true) (S_F : Sta Z Z.heap "jdk/internal/util/Preconditions" "SIOOBE_FORMATTER" "Ljava/util/function/BiFunction;" fm) (h0 : Heap) : Con 1 l Z [("com/example/pacerd/pacerd/run/Outcome", 27), ("java/lang/String", 7)] n0 (⟨"java/lang/String", "checkBoundsOffCount", "(III)I"⟩ : MethodName) jdk_42_method_157_code 3 (some .int) ({ frames := 1, cells := 0, slots := 0, locals := 15 } : Room) #[(.int (0 : Int32)), (.int (Int32.ofNat n)), (.int (Int32.ofNat cap))] [] h0 (fun v h D' => v = some (.int 0) ∧ h0 = h ∧ D' = []) := by
  refine Con.of_runs (ls := #[.val (.int (0 : Int32)), .val (.int (Int32.ofNat n)), .val (.int (Int32.ofNat cap))]) (by decide +kernel) (ef rfl rfl) ?_
  refine Runs.iloadN i54_0 rfl ?_
  refine Runs.iloadN i54_1 rfl ?_
  refine Runs.iloadN i54_2 rfl ?_
  refine Runs.getS i54_3 (w280 hw) Via.refl S_F ?_
  refine Runs.callSW (argsL := [(.int (0 : Int32)), (.int (Int32.ofNat n)), (.int (Int32.ofNat cap)), fm]) (rest := []) (W := 0) i54_6 (w282 hw) (w283 hw) (w281 hw) (w284 hw) (by decide) pd_15 rfl rfl rfl rfl (by decide) (by decide) (by decide) (by decide) all0 (by decide) (own_cfs l Z a0 hw n0 n cap hn hcap fm hfm _) ?_
  intro v h1 D1 q hsz
  obtain ⟨rfl, rfl, rfl⟩ := q
  show Runs 1 l Z [("com/example/pacerd/pacerd/run/Outcome", 27), ("java/lang/String", 7)] n0 _ _ _ _ _ _ _ [] h0 0 0 9 #[.val (.int (0 : Int32)), .val (.int (Int32.ofNat n)), .val (.int (Int32.ofNat cap))] [(.int (0 : Int32))]
  exact Runs.retI (z := (0 : Int32)) i54_9 rfl (Or.inl rfl) rfl (by decide) (by decide) ⟨rfl, rfl, rfl⟩
set_option maxRecDepth 65536 in
set_option maxHeartbeats 4000000 in
theorem own_ulen (l : Launch) (Z : State) (a0 : Array Value) (hw : Wds Z a0) (n0 : Nat) (cap : Nat) (hcap : cap < 1000000) (t : Addr) (k : ClassId) (vs : List Value) (h0 : Heap) (T0 : Arv Z h0 t k .byte (Int32.ofNat (2 * cap)) vs (.int 0)) : Con 1 l Z [("com/example/pacerd/pacerd/run/Outcome", 27), ("java/lang/String", 7)] n0 (⟨"java/lang/StringUTF16", "length", "([B)I"⟩ : MethodName) jdk_52_method_6_code 1 (some .int) ({ frames := 0, cells := 0, slots := 0, locals := 0 } : Room) #[(.ref t)] [] h0 (fun v h D' => v = some (.int (Int32.ofNat cap)) ∧ h0 = h ∧ D' = []) := by
  refine Con.of_runs (ls := #[.val (.ref t)]) (by decide +kernel) (ef rfl rfl) ?_
  refine Runs.aloadN i53_0 rfl rfl ?_
  refine Runs.arrlen i53_1 T0 ?_
  refine Runs.iconst (v := (1 : Int32)) i53_2 (by decide) ?_
  refine Runs.ishr (z := Int32.ofNat cap) i53_3 (own_shr1 (by omega)) ?_
  exact Runs.retI (z := (Int32.ofNat cap)) i53_4 rfl (Or.inl rfl) rfl (by decide) (by decide) ⟨rfl, rfl, rfl⟩
set_option maxRecDepth 65536 in
set_option maxHeartbeats 4000000 in
theorem own_ubo (l : Launch) (Z : State) (a0 : Array Value) (hw : Wds Z a0) (n0 : Nat) (n cap : Nat) (hn : n ≤ cap) (hcap : cap < 1000000) (fm : Value) (hfm : fm.isRef = true) (S_F : Sta Z Z.heap "jdk/internal/util/Preconditions" "SIOOBE_FORMATTER" "Ljava/util/function/BiFunction;" fm) (t : Addr) (k : ClassId) (vs : List Value) (h0 : Heap) (T0 : Arv Z h0 t k .byte (Int32.ofNat (2 * cap)) vs (.int 0)) : Con 1 l Z [("com/example/pacerd/pacerd/run/Outcome", 27), ("java/lang/String", 7)] n0 (⟨"java/lang/StringUTF16", "checkBoundsOffCount", "(II[B)V"⟩ : MethodName) jdk_52_method_94_code 3 none ({ frames := 2, cells := 0, slots := 0, locals := 31 } : Room) #[(.int (0 : Int32)), (.int (Int32.ofNat n)), (.ref t)] [] h0 (fun v h D' => v = none ∧ h0 = h ∧ D' = []) := by
  refine Con.of_runs (ls := #[.val (.int (0 : Int32)), .val (.int (Int32.ofNat n)), .val (.ref t)]) (by decide +kernel) (ef rfl rfl) ?_
  refine Runs.iloadN i52_0 rfl ?_
  refine Runs.iloadN i52_1 rfl ?_
  refine Runs.aloadN i52_2 rfl rfl ?_
  refine Runs.callSW (argsL := [(.ref t)]) (rest := [(.int (Int32.ofNat n)), (.int (0 : Int32))]) (W := 2) i52_3 (w274 hw) (w275 hw) (w223 hw) (w276 hw) (by decide) pd_16 rfl rfl rfl rfl (by decide) (by decide) (by decide) (by decide) all0 (by decide) (own_ulen l Z a0 hw n0 cap hcap t k vs _ T0) ?_
  intro v h1 D1 q hsz
  obtain ⟨rfl, rfl, rfl⟩ := q
  show Runs 1 l Z [("com/example/pacerd/pacerd/run/Outcome", 27), ("java/lang/String", 7)] n0 _ _ _ _ _ _ _ [] h0 0 0 6 #[.val (.int (0 : Int32)), .val (.int (Int32.ofNat n)), .val (.ref t)] [(.int (Int32.ofNat cap)), (.int (Int32.ofNat n)), (.int (0 : Int32))]
  refine Runs.callSW (argsL := [(.int (0 : Int32)), (.int (Int32.ofNat n)), (.int (Int32.ofNat cap))]) (rest := []) (W := 0) i52_6 (w277 hw) (w278 hw) (w9 hw) (w279 hw) (by decide) pd_17 rfl rfl rfl rfl (by decide) (by decide) (by decide) (by decide) all0 (by decide) (own_sbo l Z a0 hw n0 n cap hn hcap fm hfm S_F _) ?_
  intro v h1 D1 q hsz
  obtain ⟨rfl, rfl, rfl⟩ := q
  show Runs 1 l Z [("com/example/pacerd/pacerd/run/Outcome", 27), ("java/lang/String", 7)] n0 _ _ _ _ _ _ _ [] h0 0 0 9 #[.val (.int (0 : Int32)), .val (.int (Int32.ofNat n)), .val (.ref t)] [(.int (0 : Int32))]
  refine Runs.pop i52_9 rfl ?_
  exact Runs.retV i52_10 rfl (by decide) (by decide) ⟨rfl, rfl, rfl⟩
set_option maxRecDepth 65536 in
set_option maxHeartbeats 4000000 in
theorem own_uil (l : Launch) (Z : State) (a0 : Array Value) (hw : Wds Z a0) (n0 : Nat) (u t : Addr) (ku k : ClassId) (c0 cap : Nat) (xs : List Int32) (vs : List Value) (hv : ∀ i, i < xs.length → vs.getD i (.int 0) = .int ((Int32.toInt8 (xs.getD i 0)).toInt32)) (hut : u ≠ t) (hx : xs.length ≤ cap) (hcap : cap < 1000000) (hc0 : xs.length ≤ c0 ∧ c0 < 1000000) (hL : Lat xs) (h0 : Heap) (U0 : Arv Z h0 u ku .byte (Int32.ofNat c0) vs (.int 0)) (gt : n0 ≤ t) (S_A : Sta Z Z.heap "java/lang/StringUTF16" "$assertionsDisabled" "Z" (.int 1)) (S_H : Sta Z Z.heap "java/lang/StringUTF16" "HI_BYTE_SHIFT" "I" (.int 0)) (S_L : Sta Z Z.heap "java/lang/StringUTF16" "LO_BYTE_SHIFT" "I" (.int 8)) (d : Nat) : ∀ (i : Nat) (h : Heap), d + i = xs.length → Keep h0 h [t] → Arv Z h t k .byte (Int32.ofNat (2 * cap)) (own_ws (xs.take i)) (.int 0) → Runs 1 l Z [("com/example/pacerd/pacerd/run/Outcome", 27), ("java/lang/String", 7)] n0 "java/lang/StringUTF16" "inflate" jdk_52_method_86_code 6 none ({ frames := 3, cells := 0, slots := 0, locals := 50 } : Room) (fun v h D' => v = none ∧ Keep h0 h [t] ∧ Arv Z h t k .byte (Int32.ofNat (2 * cap)) (own_ws xs) (.int 0) ∧ D' = []) [t] h 0 0 10 #[.val (.ref u), .val (.int (Int32.ofNat i)), .val (.ref t), .val (.int (Int32.ofNat i)), .val (.int (Int32.ofNat xs.length)), .val (.int (Int32.ofNat i))] [] := by
  induction d with
  | zero =>
    intro i h hd K T
    refine Runs.iload i51_10 rfl ?_
    refine Runs.iload i51_12 rfl ?_
    refine Runs.icY (t := 41) i51_14 (by decide) (flt (own_nlt (by omega) (by omega))).2.1 ?_
    exact Runs.weak (D1 := []) (fun _ q => nomatch q) (Runs.retV i51_41 rfl (by decide) (by decide) ⟨rfl, K, by rw [List.take_of_length_le (by omega)] at T; exact T, rfl⟩)
  | succ d ih =>
    intro i h hd K T
    refine Runs.iload i51_10 rfl ?_
    refine Runs.iload i51_12 rfl ?_
    refine Runs.icN i51_14 (tlt (own_lt (by omega) (by omega))).2.1 ?_
    refine Runs.aloadN i51_17 rfl rfl ?_
    refine Runs.iloadN i51_18 rfl ?_
    refine Runs.iinc (z := (Int32.ofNat (i + 1))) (ls' := #[.val (.ref u), .val (.int (Int32.ofNat i)), .val (.ref t), .val (.int (Int32.ofNat (i + 1))), .val (.int (Int32.ofNat xs.length)), .val (.int (Int32.ofNat i))]) i51_19 rfl (own_add (b := 1) (by omega)) rfl ?_
    refine Runs.aloadN i51_22 rfl rfl ?_
    refine Runs.iloadN i51_23 rfl ?_
    refine Runs.iinc (z := (Int32.ofNat (i + 1))) (ls' := #[.val (.ref u), .val (.int (Int32.ofNat (i + 1))), .val (.ref t), .val (.int (Int32.ofNat (i + 1))), .val (.int (Int32.ofNat xs.length)), .val (.int (Int32.ofNat i))]) i51_24 rfl (own_add (b := 1) (by omega)) rfl ?_
    refine Runs.baload (v := .int ((Int32.toInt8 (xs.getD i 0)).toInt32)) i51_27 (U0.keep K (ninS hut nin0)) ⟨own_nn (by omega), own_lt (by omega) (by omega)⟩ (by rw [own_cl (by omega)]; exact hv i (by omega)) ?_
    refine Runs.sipush (v := (255 : Int32)) i51_28 (by decide) ?_
    refine Runs.iand (z := xs.getD i 0) i51_31 (own_b255 (own_latg hL (by omega))) ?_
    have Hc := own_upc l Z a0 hw n0 t k cap (xs.take i) _ T (xs.getD i 0) (by rw [own_tkl (by omega)]; omega) hcap gt S_A S_H S_L
    rw [own_tkl (by omega)] at Hc
    refine Runs.callSW (argsL := [(.ref t), (.int (Int32.ofNat i)), (.int (xs.getD i 0))]) (rest := []) (W := 0) i51_32 (w248 hw) (w249 hw) (w223 hw) (w250 hw) (by decide) pd_1 rfl rfl rfl rfl (by decide) (by decide) (by decide) (by decide) (allS (List.mem_of_getElem? (i := 0) rfl) all0) (by decide) Hc ?_
    intro v h_3 D1 q hsz
    obtain ⟨rfl, K_1, A_2, rfl⟩ := q
    show Runs 1 l Z [("com/example/pacerd/pacerd/run/Outcome", 27), ("java/lang/String", 7)] n0 _ _ _ _ _ _ _ [t] h_3 0 0 35 #[.val (.ref u), .val (.int (Int32.ofNat (i + 1))), .val (.ref t), .val (.int (Int32.ofNat (i + 1))), .val (.int (Int32.ofNat xs.length)), .val (.int (Int32.ofNat i))] []
    refine Runs.iinc (z := (Int32.ofNat (i + 1))) (ls' := #[.val (.ref u), .val (.int (Int32.ofNat (i + 1))), .val (.ref t), .val (.int (Int32.ofNat (i + 1))), .val (.int (Int32.ofNat xs.length)), .val (.int (Int32.ofNat (i + 1)))]) i51_35 rfl (own_add (b := 1) (by omega)) rfl ?_
    refine Runs.goto (t := 10) i51_38 (by decide) ?_
    exact ih (i + 1) _ (by omega) (K.trans K_1 (allS (Or.inl (List.mem_of_getElem? (i := 0) rfl)) all0)) (by rw [← own_take1 (by omega)]; exact A_2)
set_option maxRecDepth 65536 in
set_option maxHeartbeats 4000000 in
theorem own_uin (l : Launch) (Z : State) (a0 : Array Value) (hw : Wds Z a0) (n0 : Nat) (u t : Addr) (ku k : ClassId) (c0 cap : Nat) (xs : List Int32) (vs : List Value) (hv : ∀ i, i < xs.length → vs.getD i (.int 0) = .int ((Int32.toInt8 (xs.getD i 0)).toInt32)) (hut : u ≠ t) (hx : xs.length ≤ cap) (hcap : cap < 1000000) (hc0 : xs.length ≤ c0 ∧ c0 < 1000000) (hL : Lat xs) (h0 : Heap) (U0 : Arv Z h0 u ku .byte (Int32.ofNat c0) vs (.int 0)) (gt : n0 ≤ t) (S_A : Sta Z Z.heap "java/lang/StringUTF16" "$assertionsDisabled" "Z" (.int 1)) (S_H : Sta Z Z.heap "java/lang/StringUTF16" "HI_BYTE_SHIFT" "I" (.int 0)) (S_L : Sta Z Z.heap "java/lang/StringUTF16" "LO_BYTE_SHIFT" "I" (.int 8)) (T0 : Arv Z h0 t k .byte (Int32.ofNat (2 * cap)) (own_ws []) (.int 0)) (fm : Value) (hfm : fm.isRef = true) (S_F : Sta Z Z.heap "jdk/internal/util/Preconditions" "SIOOBE_FORMATTER" "Ljava/util/function/BiFunction;" fm) : Con 1 l Z [("com/example/pacerd/pacerd/run/Outcome", 27), ("java/lang/String", 7)] n0 (⟨"java/lang/StringUTF16", "inflate", "([BI[BII)V"⟩ : MethodName) jdk_52_method_86_code 6 none ({ frames := 3, cells := 0, slots := 0, locals := 50 } : Room) #[(.ref u), (.int (0 : Int32)), (.ref t), (.int (0 : Int32)), (.int (Int32.ofNat xs.length))] [t] h0 (fun v h D' => v = none ∧ Keep h0 h [t] ∧ Arv Z h t k .byte (Int32.ofNat (2 * cap)) (own_ws xs) (.int 0) ∧ D' = []) := by
  refine Con.of_runs (ls := #[.val (.ref u), .val (.int (0 : Int32)), .val (.ref t), .val (.int (0 : Int32)), .val (.int (Int32.ofNat xs.length)), .unset]) (by decide +kernel) (ef rfl rfl) ?_
  refine Runs.iloadN i51_0 rfl ?_
  refine Runs.iload i51_1 rfl ?_
  refine Runs.aloadN i51_3 rfl rfl ?_
  refine Runs.callSW (argsL := [(.int (0 : Int32)), (.int (Int32.ofNat xs.length)), (.ref t)]) (rest := []) (W := 0) i51_4 (w271 hw) (w272 hw) (w223 hw) (w273 hw) (by decide) pd_18 rfl rfl rfl rfl (by decide) (by decide) (by decide) (by decide) all0 (by decide) (own_ubo l Z a0 hw n0 xs.length cap hx hcap fm hfm S_F t k _ _ T0) ?_
  intro v h1 D1 q hsz
  obtain ⟨rfl, rfl, rfl⟩ := q
  show Runs 1 l Z [("com/example/pacerd/pacerd/run/Outcome", 27), ("java/lang/String", 7)] n0 _ _ _ _ _ _ _ [t] h0 0 0 7 #[.val (.ref u), .val (.int (0 : Int32)), .val (.ref t), .val (.int (0 : Int32)), .val (.int (Int32.ofNat xs.length)), .unset] []
  refine Runs.iconst (v := (0 : Int32)) i51_7 (by decide) ?_
  refine Runs.istore (ls' := #[.val (.ref u), .val (.int (0 : Int32)), .val (.ref t), .val (.int (0 : Int32)), .val (.int (Int32.ofNat xs.length)), .val (.int (0 : Int32))]) i51_8 rfl ?_
  exact own_uil l Z a0 hw n0 u t ku k c0 cap xs vs hv hut hx hcap hc0 hL h0 U0 gt S_A S_H S_L xs.length 0 _ (by omega) (Keep.refl _ _) T0
set_option maxRecDepth 65536 in
set_option maxHeartbeats 4000000 in
theorem own_lin (l : Launch) (Z : State) (a0 : Array Value) (hw : Wds Z a0) (n0 : Nat) (u t : Addr) (ku k : ClassId) (c0 cap : Nat) (xs : List Int32) (vs : List Value) (hv : ∀ i, i < xs.length → vs.getD i (.int 0) = .int ((Int32.toInt8 (xs.getD i 0)).toInt32)) (hut : u ≠ t) (hx : xs.length ≤ cap) (hcap : cap < 1000000) (hc0 : xs.length ≤ c0 ∧ c0 < 1000000) (hL : Lat xs) (h0 : Heap) (U0 : Arv Z h0 u ku .byte (Int32.ofNat c0) vs (.int 0)) (gt : n0 ≤ t) (S_A : Sta Z Z.heap "java/lang/StringUTF16" "$assertionsDisabled" "Z" (.int 1)) (S_H : Sta Z Z.heap "java/lang/StringUTF16" "HI_BYTE_SHIFT" "I" (.int 0)) (S_L : Sta Z Z.heap "java/lang/StringUTF16" "LO_BYTE_SHIFT" "I" (.int 8)) (T0 : Arv Z h0 t k .byte (Int32.ofNat (2 * cap)) (own_ws []) (.int 0)) (fm : Value) (hfm : fm.isRef = true) (S_F : Sta Z Z.heap "jdk/internal/util/Preconditions" "SIOOBE_FORMATTER" "Ljava/util/function/BiFunction;" fm) : Con 1 l Z [("com/example/pacerd/pacerd/run/Outcome", 27), ("java/lang/String", 7)] n0 (⟨"java/lang/StringLatin1", "inflate", "([BI[BII)V"⟩ : MethodName) jdk_43_method_50_code 5 none ({ frames := 4, cells := 0, slots := 0, locals := 67 } : Room) #[(.ref u), (.int (0 : Int32)), (.ref t), (.int (0 : Int32)), (.int (Int32.ofNat xs.length))] [t] h0 (fun v h D' => v = none ∧ Keep h0 h [t] ∧ Arv Z h t k .byte (Int32.ofNat (2 * cap)) (own_ws xs) (.int 0) ∧ D' = []) := by
  refine Con.of_runs (ls := #[.val (.ref u), .val (.int (0 : Int32)), .val (.ref t), .val (.int (0 : Int32)), .val (.int (Int32.ofNat xs.length))]) (by decide +kernel) (ef rfl rfl) ?_
  refine Runs.aloadN i50_0 rfl rfl ?_
  refine Runs.iloadN i50_1 rfl ?_
  refine Runs.aloadN i50_2 rfl rfl ?_
  refine Runs.iloadN i50_3 rfl ?_
  refine Runs.iload i50_4 rfl ?_
  refine Runs.callSW (argsL := [(.ref u), (.int (0 : Int32)), (.ref t), (.int (0 : Int32)), (.int (Int32.ofNat xs.length))]) (rest := []) (W := 0) i50_6 (w268 hw) (w269 hw) (w223 hw) (w270 hw) (by decide) pd_19 rfl rfl rfl rfl (by decide) (by decide) (by decide) (by decide) (allS (List.mem_of_getElem? (i := 0) rfl) all0) (by decide) (own_uin l Z a0 hw n0 u t ku k c0 cap xs vs hv hut hx hcap hc0 hL h0 U0 gt S_A S_H S_L T0 fm hfm S_F) ?_
  intro v h1 D1 q hsz
  obtain ⟨rfl, K1, A1, rfl⟩ := q
  show Runs 1 l Z [("com/example/pacerd/pacerd/run/Outcome", 27), ("java/lang/String", 7)] n0 _ _ _ _ _ _ _ [t] h1 0 0 9 #[.val (.ref u), .val (.int (0 : Int32)), .val (.ref t), .val (.int (0 : Int32)), .val (.int (Int32.ofNat xs.length))] []
  refine Runs.weak (D1 := []) (fun _ q => nomatch q) ?_
  exact Runs.retV i50_9 rfl (by decide) (by decide) ⟨rfl, K1, A1, rfl⟩
set_option maxRecDepth 65536 in
set_option maxHeartbeats 4000000 in
theorem own_ain (l : Launch) (Z : State) (a0 : Array Value) (hw : Wds Z a0) (n0 : Nat) (a t : Addr) (k : ClassId) (cap : Nat) (xs : List Int32) (h0 : Heap) (B0 : SBd Z h0 a t k cap xs) (NS : Nat) (hNS : 2 * cap ≤ NS ∧ NS < 1000000) (ga : n0 ≤ a) (hn0 : n0 ≤ h0.size) (cpt : Int32) (S_C : Sta Z Z.heap "java/lang/String" "COMPACT_STRINGS" "Z" (.int cpt)) (hcpt : ¬ cpt = 0) (S_A : Sta Z Z.heap "java/lang/StringUTF16" "$assertionsDisabled" "Z" (.int 1)) (S_H : Sta Z Z.heap "java/lang/StringUTF16" "HI_BYTE_SHIFT" "I" (.int 0)) (S_L : Sta Z Z.heap "java/lang/StringUTF16" "LO_BYTE_SHIFT" "I" (.int 8)) (fm : Value) (hfm : fm.isRef = true) (S_F : Sta Z Z.heap "jdk/internal/util/Preconditions" "SIOOBE_FORMATTER" "Ljava/util/function/BiFunction;" fm) : Con 1 l Z [("com/example/pacerd/pacerd/run/Outcome", 27), ("java/lang/String", 7)] n0 (⟨"java/lang/AbstractStringBuilder", "inflate", "()V"⟩ : MethodName) jdk_68_method_11_code 2 none ({ frames := 5, cells := 1, slots := NS, locals := 83 } : Room) #[(.ref a)] [] h0 (fun v h D' => v = none ∧ ∃ t' k', h0.size ≤ t' ∧ Keep h0 h [a] ∧ SBw Z h a t' k' cap xs ∧ D' = [t']) := by
  refine Con.of_runs (ls := #[.val (.ref a), .unset]) (by decide +kernel) (ef rfl rfl) ?_
  obtain ⟨BO, BA, BE, BL, hle, hcap⟩ := id B0
  refine Runs.aloadN i49_0 rfl rfl ?_
  refine Runs.callVW (argsL := []) (rest := []) (W := 0) i49_1 (w262 hw) (w125 hw) (fun s hZ => notFace_of_selects (args := #[]) (mvT hZ (w127 hw))) (w127 hw) (w126 hw) (w128 hw) (w42 hw) (by decide) BO.1 pd_20 rfl rfl rfl rfl (by first | decide | (dsimp only; first | decide | omega)) (by first | decide | (dsimp only; first | decide | omega)) (by first | decide | (dsimp only; first | decide | omega)) (by first | decide | (dsimp only; first | decide | omega)) all0 (by decide) (own_bil l Z a0 hw n0 a t k cap xs _ B0 cpt S_C hcpt) ?_
  intro v h1 D1 q hsz
  obtain ⟨rfl, rfl, rfl⟩ := q
  show Runs 1 l Z [("com/example/pacerd/pacerd/run/Outcome", 27), ("java/lang/String", 7)] n0 _ _ _ _ _ _ _ [] h0 0 0 4 #[.val (.ref a), .unset] [(.int (1 : Int32))]
  refine Runs.ifY (t := 8) i49_4 (by decide) (feq (by decide : ¬ ((1 : Int32) = (0 : Int32)))).2 ?_
  refine Runs.aloadN i49_8 rfl rfl ?_
  refine Runs.getF i49_9 (host := "") (Or.inl (w46 hw)) Via.refl (BO.fld (i := 0) rfl) ?_
  refine Runs.arrlen i49_12 BA ?_
  refine Runs.callSW (argsL := [(.int (Int32.ofNat cap))]) (rest := []) (W := 0) i49_13 (w263 hw) (w235 hw) (w223 hw) (w236 hw) (by decide) pd_2 rfl rfl rfl rfl (by first | decide | (dsimp only; first | decide | omega)) (by first | decide | (dsimp only; first | decide | omega)) (by first | decide | (dsimp only; first | decide | omega)) (by first | decide | (dsimp only; first | decide | omega)) all0 (by decide) (own_ubf l Z a0 hw n0 cap NS (by omega) (by omega) _) ?_
  intro v h_7 D1 q hsz
  obtain ⟨b_1, k_2, rfl, g_3, K_4, A_5, E_6, rfl⟩ := q
  show Runs 1 l Z [("com/example/pacerd/pacerd/run/Outcome", 27), ("java/lang/String", 7)] n0 _ _ _ _ _ _ _ [b_1] h_7 1 (0 + NS) 16 #[.val (.ref a), .unset] [(.ref b_1)]
  have ge_b_1 : n0 ≤ b_1 := Nat.le_trans hn0 g_3
  refine Runs.astoreN (ls' := #[.val (.ref a), .val (.ref b_1)]) i49_16 rfl rfl ?_
  refine Runs.aloadN i49_17 rfl rfl ?_
  have O_8 := (BO.keep K_4 nin0)
  refine Runs.getF i49_18 (host := "") (Or.inl (w46 hw)) Via.refl (O_8.fld (i := 0) rfl) ?_
  refine Runs.iconst (v := (0 : Int32)) i49_21 (by decide) ?_
  refine Runs.aloadN i49_22 rfl rfl ?_
  refine Runs.iconst (v := (0 : Int32)) i49_23 (by decide) ?_
  refine Runs.aloadN i49_24 rfl rfl ?_
  refine Runs.getF i49_25 (host := "") (Or.inl (w72 hw)) Via.refl (O_8.fld (i := 2) rfl) ?_
  have A_9 := (BA.keep K_4 nin0)
  refine Runs.callSW (argsL := [(.ref t), (.int (0 : Int32)), (.ref b_1), (.int (0 : Int32)), (.int (Int32.ofNat xs.length))]) (rest := []) (W := 0) i49_28 (w264 hw) (w265 hw) (w266 hw) (w267 hw) (by decide) pd_19 rfl rfl rfl rfl (by first | decide | (dsimp only; first | decide | omega)) (by first | decide | (dsimp only; first | decide | omega)) (by first | decide | (dsimp only; first | decide | omega)) (by first | decide | (dsimp only; first | decide | omega)) (allS (List.mem_of_getElem? (i := 0) rfl) all0) (by decide) (own_lin l Z a0 hw n0 t b_1 k k_2 cap cap xs (xs.map own_b) (fun i _ => own_gbv xs i) (Nat.ne_of_lt (Nat.lt_of_lt_of_le (Nat.lt_of_lt_of_le BA.lt (Nat.le_refl _)) g_3)) hle hcap ⟨hle, hcap⟩ BL _ A_9 ge_b_1 S_A S_H S_L A_5 fm hfm S_F) ?_
  intro v h_10 D1 q hsz
  obtain ⟨rfl, K_11, A_12, rfl⟩ := q
  show Runs 1 l Z [("com/example/pacerd/pacerd/run/Outcome", 27), ("java/lang/String", 7)] n0 _ _ _ _ _ _ _ [b_1] h_10 1 (0 + NS) 31 #[.val (.ref a), .val (.ref b_1)] []
  refine Runs.aloadN i49_31 rfl rfl ?_
  refine Runs.aloadN i49_32 rfl rfl ?_
  have O_13 := (O_8.keep K_11 (ninS (Nat.ne_of_lt (Nat.lt_of_lt_of_le (Nat.lt_of_lt_of_le BO.lt (Nat.le_refl _)) g_3)) nin0))
  refine Runs.putF (i := 0) (ty := (.array .byte)) i49_33 (host := "") (Or.inl (w46 hw)) Via.refl O_13 rfl (lay_1 hw) rfl (Or.inl (w47 hw)) (w33 hw) (by decide) rfl rfl ga (Or.inr ⟨by decide, by decide⟩) ?_
  intro h_14 K_15 (O_16 : Obj Z h_14 a "java/lang/StringBuilder" [("java/lang/AbstractStringBuilder", "value", "[B", (.ref b_1)), ("java/lang/AbstractStringBuilder", "coder", "B", (.int (0 : Int32))), ("java/lang/AbstractStringBuilder", "count", "I", (.int (Int32.ofNat xs.length))), ("java/lang/AbstractStringBuilder", "maybeLatin1", "Z", (.int (0 : Int32)))])
  refine Runs.aloadN i49_36 rfl rfl ?_
  refine Runs.iconst (v := (1 : Int32)) i49_37 (by decide) ?_
  refine Runs.putF (i := 1) (ty := .byte) i49_38 (host := "") (Or.inl (w48 hw)) Via.refl O_16 rfl (lay_1 hw) rfl (Or.inl (w49 hw)) (w33 hw) (by decide) rfl rfl ga (Or.inr ⟨by decide, by decide⟩) ?_
  intro h_17 K_18 (O_19 : Obj Z h_17 a "java/lang/StringBuilder" [("java/lang/AbstractStringBuilder", "value", "[B", (.ref b_1)), ("java/lang/AbstractStringBuilder", "coder", "B", (.int (1 : Int32))), ("java/lang/AbstractStringBuilder", "count", "I", (.int (Int32.ofNat xs.length))), ("java/lang/AbstractStringBuilder", "maybeLatin1", "Z", (.int (0 : Int32)))])
  have A_20 := ((A_12.keep K_15 (ninS (Nat.ne_of_gt (Nat.lt_of_lt_of_le (Nat.lt_of_lt_of_le BO.lt (Nat.le_refl _)) g_3)) nin0)).keep K_18 (ninS (Nat.ne_of_gt (Nat.lt_of_lt_of_le (Nat.lt_of_lt_of_le BO.lt (Nat.le_refl _)) g_3)) nin0))
  exact Runs.retV i49_41 rfl (by first | decide | (dsimp only; first | decide | omega)) (by first | decide | (dsimp only; first | decide | omega)) ⟨rfl, b_1, k_2, g_3, (((((Keep.refl _ _).trans K_4 all0).trans K_11 (allS (Or.inr (Nat.le_trans (Nat.le_refl _) g_3)) all0)).trans K_15 (allS (Or.inl (List.mem_of_getElem? (i := 0) rfl)) all0)).trans K_18 (allS (Or.inl (List.mem_of_getElem? (i := 0) rfl)) all0)), ⟨O_19, A_20, (((E_6.keep K_11).keep K_15).keep K_18), own_chl BL, hle, hcap⟩, rfl⟩
set_option maxRecDepth 65536 in
set_option maxHeartbeats 4000000 in
theorem own_ifw (l : Launch) (Z : State) (a0 : Array Value) (hw : Wds Z a0) (n0 : Nat) (a t : Addr) (k : ClassId) (cap : Nat) (xs : List Int32) (h0 : Heap) (B0 : SBd Z h0 a t k cap xs) (s u : Addr) (k2 : ClassId) (ys : List Int32) (S0 : Stw Z h0 s u k2 ys) (NS : Nat) (hNS : 2 * cap ≤ NS ∧ NS < 1000000) (ga : n0 ≤ a) (hn0 : n0 ≤ h0.size) (cpt : Int32) (S_C : Sta Z Z.heap "java/lang/String" "COMPACT_STRINGS" "Z" (.int cpt)) (hcpt : ¬ cpt = 0) (S_A : Sta Z Z.heap "java/lang/StringUTF16" "$assertionsDisabled" "Z" (.int 1)) (S_H : Sta Z Z.heap "java/lang/StringUTF16" "HI_BYTE_SHIFT" "I" (.int 0)) (S_L : Sta Z Z.heap "java/lang/StringUTF16" "LO_BYTE_SHIFT" "I" (.int 8)) (fm : Value) (hfm : fm.isRef = true) (S_F : Sta Z Z.heap "jdk/internal/util/Preconditions" "SIOOBE_FORMATTER" "Ljava/util/function/BiFunction;" fm) : Con 1 l Z [("com/example/pacerd/pacerd/run/Outcome", 27), ("java/lang/String", 7)] n0 (⟨"java/lang/AbstractStringBuilder", "inflateIfNeededFor", "(Ljava/lang/String;)V"⟩ : MethodName) jdk_68_method_71_code 2 none ({ frames := 6, cells := 1, slots := NS, locals := 96 } : Room) #[(.ref a), (.ref s)] [] h0 (fun v h D' => v = none ∧ ∃ t' k', h0.size ≤ t' ∧ Keep h0 h [a] ∧ SBw Z h a t' k' cap xs ∧ D' = [t']) := by
  refine Con.of_runs (ls := #[.val (.ref a), .val (.ref s)]) (by decide +kernel) (ef rfl rfl) ?_
  obtain ⟨BO, BA, BE, BL, hle, hcap⟩ := id B0
  refine Runs.getS i14_0 (w45 hw) Via.refl S_C ?_
  refine Runs.ifN i14_3 (feq hcpt).1 ?_
  refine Runs.aloadN i14_6 rfl rfl ?_
  refine Runs.getF i14_7 (host := "") (Or.inl (w48 hw)) Via.refl (BO.fld (i := 1) rfl) ?_
  refine Runs.aloadN i14_10 rfl rfl ?_
  refine Runs.callVW (argsL := []) (rest := [(.int (0 : Int32))]) (W := 1) i14_11 (w89 hw) (w67 hw) (fun s hZ => notFace_of_selects (args := #[]) (mvT hZ (w69 hw))) (w69 hw) (w68 hw) (w70 hw) (w9 hw) (by decide) S0.1.1 pd_9 rfl rfl rfl rfl (by first | decide | (dsimp only; first | decide | omega)) (by first | decide | (dsimp only; first | decide | omega)) (by first | decide | (dsimp only; first | decide | omega)) (by first | decide | (dsimp only; first | decide | omega)) all0 (by decide) (own_cow l Z a0 hw n0 s u k2 ys _ S0 cpt S_C hcpt) ?_
  intro v h1 D1 q hsz
  obtain ⟨rfl, rfl, rfl⟩ := q
  show Runs 1 l Z [("com/example/pacerd/pacerd/run/Outcome", 27), ("java/lang/String", 7)] n0 _ _ _ _ _ _ _ [] h0 0 0 14 #[.val (.ref a), .val (.ref s)] [(.int (1 : Int32)), (.int (0 : Int32))]
  refine Runs.icN i14_14 (feq (by decide : ¬ ((0 : Int32) = (1 : Int32)))).1 ?_
  refine Runs.aloadN i14_17 rfl rfl ?_
  refine Runs.callVW (argsL := []) (rest := []) (W := 0) i14_18 (w257 hw) (declares_of (w258 hw) (w261 hw)) (fun s hZ => notFace_of_selects (args := #[]) (mvT hZ (w260 hw))) (w260 hw) (w258 hw) (w261 hw) (w42 hw) (by decide) BO.1 pd_21 rfl rfl rfl rfl (by first | decide | (dsimp only; first | decide | omega)) (by first | decide | (dsimp only; first | decide | omega)) (by first | decide | (dsimp only; first | decide | omega)) (by first | decide | (dsimp only; first | decide | omega)) all0 (by decide) (own_ain l Z a0 hw n0 a t k cap xs _ B0 NS hNS ga hn0 cpt S_C hcpt S_A S_H S_L fm hfm S_F) ?_
  intro v h1 D1 q hsz
  obtain ⟨rfl, t1, k1, g1, K1, B1, rfl⟩ := q
  show Runs 1 l Z [("com/example/pacerd/pacerd/run/Outcome", 27), ("java/lang/String", 7)] n0 _ _ _ _ _ _ _ [t1] h1 1 (0 + NS) 21 #[.val (.ref a), .val (.ref s)] []
  exact Runs.retV i14_21 rfl (by first | decide | (dsimp only; first | decide | omega)) (by first | decide | (dsimp only; first | decide | omega)) ⟨rfl, t1, k1, g1, K1, B1, rfl⟩
set_option maxRecDepth 65536 in
set_option maxHeartbeats 4000000 in
theorem own_gbw (l : Launch) (Z : State) (a0 : Array Value) (hw : Wds Z a0) (n0 : Nat) (t : Addr) (k : ClassId) (cap : Nat) (xs : List Int32) (h0 : Heap) (BA : Arv Z h0 t k .byte (Int32.ofNat (2 * cap)) (own_ws xs) (.int 0)) (s u : Addr) (k2 : ClassId) (ys : List Int32) (S0 : Stw Z h0 s u k2 ys) (hfit : xs.length + ys.length ≤ cap) (hcap : cap < 1000000) (gt : n0 ≤ t) (cpt : Int32) (S_C : Sta Z Z.heap "java/lang/String" "COMPACT_STRINGS" "Z" (.int cpt)) (hcpt : ¬ cpt = 0) : Con 1 l Z [("com/example/pacerd/pacerd/run/Outcome", 27), ("java/lang/String", 7)] n0 (⟨"java/lang/String", "getBytes", "([BIB)V"⟩ : MethodName) jdk_42_method_147_code 4 none ({ frames := 1, cells := 0, slots := 0, locals := 38 } : Room) #[(.ref s), (.ref t), (.int (Int32.ofNat xs.length)), (.int (1 : Int32))] [t] h0 (fun v h D' => v = none ∧ Keep h0 h [t] ∧ Arv Z h t k .byte (Int32.ofNat (2 * cap)) (own_ws (xs ++ ys)) (.int 0) ∧ D' = []) := by
  refine Con.of_runs (ls := #[.val (.ref s), .val (.ref t), .val (.int (Int32.ofNat xs.length)), .val (.int (1 : Int32))]) (by decide +kernel) (ef rfl rfl) ?_
  have hys := S0.2.2.2
  refine Runs.aloadN i15_0 rfl rfl ?_
  refine Runs.callVW (argsL := []) (rest := []) (W := 0) i15_1 (w66 hw) (w67 hw) (fun s hZ => notFace_of_selects (args := #[]) (mvT hZ (w69 hw))) (w69 hw) (w68 hw) (w70 hw) (w9 hw) (by decide) S0.1.1 pd_9 rfl rfl rfl rfl (by decide) (by decide) (by decide) (by decide) all0 (by decide) (own_cow l Z a0 hw n0 s u k2 ys _ S0 cpt S_C hcpt) ?_
  intro v h1 D1 q hsz
  obtain ⟨rfl, rfl, rfl⟩ := q
  show Runs 1 l Z [("com/example/pacerd/pacerd/run/Outcome", 27), ("java/lang/String", 7)] n0 _ _ _ _ _ _ _ [t] h0 0 0 4 #[.val (.ref s), .val (.ref t), .val (.int (Int32.ofNat xs.length)), .val (.int (1 : Int32))] [(.int (1 : Int32))]
  refine Runs.iloadN i15_4 rfl ?_
  refine Runs.icN i15_5 (teq (by decide : (1 : Int32) = (1 : Int32))).2 ?_
  refine Runs.aloadN i15_8 rfl rfl ?_
  refine Runs.getF i15_9 (host := "") (Or.inl (w26 hw)) Via.refl (S0.1.fld (i := 0) rfl) ?_
  refine Runs.iconst (v := (0 : Int32)) i15_12 (by decide) ?_
  refine Runs.aloadN i15_13 rfl rfl ?_
  refine Runs.iloadN i15_14 rfl ?_
  refine Runs.iloadN i15_15 rfl ?_
  refine Runs.ishl (z := Int32.ofNat (2 * xs.length)) i15_16 (own_shl1 (by omega)) ?_
  refine Runs.aloadN i15_17 rfl rfl ?_
  refine Runs.getF i15_18 (host := "") (Or.inl (w26 hw)) Via.refl (S0.1.fld (i := 0) rfl) ?_
  refine Runs.arrlen i15_21 S0.2.1 ?_
  have A_1 : Arv Z h0 t k .byte (Int32.ofNat (2 * cap)) (own_ws xs ++ List.replicate ((own_ws ys).length + 0) (.int 0)) (.int 0) := BA.pad (pad_rep _ _ _)
  refine Runs.acopy (W := 0) (us := (own_ws ys)) i15_22 (w95 hw) (w98 hw) (w96 hw) (w97 hw) S0.2.1 A_1 rfl (by decide) (own_nn (by omega)) (own_nn (by omega)) (by rw [own_cl (n := (2 * ys.length)) (by omega)]; exact Nat.le_of_eq (Nat.zero_add _)) (by rw [own_cl (n := (2 * xs.length)) (by omega), own_cl (n := (2 * ys.length)) (by omega), own_cl (n := 2 * cap) (by omega)]; omega) (by rw [own_cl (n := (2 * ys.length)) (by omega), ← own_wsl]; exact (own_rng _ _).symm) (by rw [own_cl (n := (2 * xs.length)) (by omega), own_cl (n := (2 * ys.length)) (by omega)]; simp [own_wsl]) gt (Or.inl (List.mem_of_getElem? (i := 0) rfl)) rfl (by decide) rfl (by decide) ?_
  intro h_2 K_3 A_4
  have A_5 : Arv Z h_2 t k .byte (Int32.ofNat (2 * cap)) (own_ws (xs ++ ys)) (.int 0) := A_4.pad (fun i => by rw [own_cl (n := (2 * xs.length)) (by omega), own_cl (n := (2 * ys.length)) (by omega), own_wsa, ← own_app (own_ws xs) (own_ws ys) (.int 0) 0 i, own_wsl, own_wsl])
  refine Runs.goto (t := 43) i15_25 (by decide) ?_
  exact Runs.weak (D1 := []) (fun _ q => nomatch q) (Runs.retV i15_43 rfl (by decide) (by decide) ⟨rfl, K_3, A_5, rfl⟩)
set_option maxRecDepth 65536 in
set_option maxHeartbeats 4000000 in
theorem own_psw (l : Launch) (Z : State) (a0 : Array Value) (hw : Wds Z a0) (n0 : Nat) (a t : Addr) (k : ClassId) (cap : Nat) (xs : List Int32) (h0 : Heap) (B0 : SBd Z h0 a t k cap xs) (s u : Addr) (k2 : ClassId) (ys : List Int32) (S0 : Stw Z h0 s u k2 ys) (hfit : xs.length + ys.length ≤ cap) (NS : Nat) (hNS : 2 * cap ≤ NS ∧ NS < 1000000) (ga : n0 ≤ a) (hn0 : n0 ≤ h0.size) (cpt : Int32) (S_C : Sta Z Z.heap "java/lang/String" "COMPACT_STRINGS" "Z" (.int cpt)) (hcpt : ¬ cpt = 0) (S_A : Sta Z Z.heap "java/lang/StringUTF16" "$assertionsDisabled" "Z" (.int 1)) (S_H : Sta Z Z.heap "java/lang/StringUTF16" "HI_BYTE_SHIFT" "I" (.int 0)) (S_L : Sta Z Z.heap "java/lang/StringUTF16" "LO_BYTE_SHIFT" "I" (.int 8)) (fm : Value) (hfm : fm.isRef = true) (S_F : Sta Z Z.heap "jdk/internal/util/Preconditions" "SIOOBE_FORMATTER" "Ljava/util/function/BiFunction;" fm) : Con 1 l Z [("com/example/pacerd/pacerd/run/Outcome", 27), ("java/lang/String", 7)] n0 (⟨"java/lang/AbstractStringBuilder", "putStringAt", "(ILjava/lang/String;)V"⟩ : MethodName) jdk_68_method_73_code 3 none ({ frames := 7, cells := 1, slots := NS, locals := 109 } : Room) #[(.ref a), (.int (Int32.ofNat xs.length)), (.ref s)] [] h0 (fun v h D' => v = none ∧ ∃ t' k', h0.size ≤ t' ∧ Keep h0 h [a] ∧ Obj Z h a "java/lang/StringBuilder" [("java/lang/AbstractStringBuilder", "value", "[B", (.ref t')), ("java/lang/AbstractStringBuilder", "coder", "B", (.int (1 : Int32))), ("java/lang/AbstractStringBuilder", "count", "I", (.int (Int32.ofNat xs.length))), ("java/lang/AbstractStringBuilder", "maybeLatin1", "Z", (.int (0 : Int32)))] ∧ Arv Z h t' k' .byte (Int32.ofNat (2 * cap)) (own_ws (xs ++ ys)) (.int 0) ∧ Exa Z h t' "[B" ∧ D' = [t']) := by
  refine Con.of_runs (ls := #[.val (.ref a), .val (.int (Int32.ofNat xs.length)), .val (.ref s)]) (by decide +kernel) (ef rfl rfl) ?_
  obtain ⟨BO, BA, BE, BL, hle, hcap⟩ := id B0
  refine Runs.aloadN i13_0 rfl rfl ?_
  refine Runs.aloadN i13_1 rfl rfl ?_
  refine Runs.callVW (argsL := [(.ref s)]) (rest := []) (W := 0) i13_2 (w84 hw) (declares_of (w85 hw) (w88 hw)) (fun s hZ => notFace_of_selects (args := #[]) (mvT hZ (w87 hw))) (w87 hw) (w85 hw) (w88 hw) (w42 hw) (by decide) BO.1 pd_10 rfl rfl rfl rfl (by first | decide | (dsimp only; first | decide | omega)) (by first | decide | (dsimp only; first | decide | omega)) (by first | decide | (dsimp only; first | decide | omega)) (by first | decide | (dsimp only; first | decide | omega)) all0 (by decide) (own_ifw l Z a0 hw n0 a t k cap xs _ B0 s u k2 ys S0 NS hNS ga hn0 cpt S_C hcpt S_A S_H S_L fm hfm S_F) ?_
  intro v h1 D1 q hsz
  obtain ⟨rfl, t1, k1, g1, K1, B1, rfl⟩ := q
  show Runs 1 l Z [("com/example/pacerd/pacerd/run/Outcome", 27), ("java/lang/String", 7)] n0 _ _ _ _ _ _ _ [t1] h1 1 (0 + NS) 5 #[.val (.ref a), .val (.int (Int32.ofNat xs.length)), .val (.ref s)] []
  have S1 := S0.keep K1 (ninS (Exa.ne S0.1.1 BO.1 (by decide)) nin0) (ninS (Ne.symm (Exa.neArv BO.1 S0.2.1 (w33 hw))) nin0)
  refine Runs.aloadN i13_5 rfl rfl ?_
  refine Runs.aloadN i13_6 rfl rfl ?_
  refine Runs.getF i13_7 (host := "") (Or.inl (w46 hw)) Via.refl (B1.1.fld (i := 0) rfl) ?_
  refine Runs.iloadN i13_10 rfl ?_
  refine Runs.aloadN i13_11 rfl rfl ?_
  refine Runs.getF i13_12 (host := "") (Or.inl (w48 hw)) Via.refl (B1.1.fld (i := 1) rfl) ?_
  refine Runs.callVW (argsL := [(.ref t1), (.int (Int32.ofNat xs.length)), (.int (1 : Int32))]) (rest := []) (W := 0) i13_15 (w90 hw) (w91 hw) (fun s hZ => notFace_of_selects (args := #[]) (mvT hZ (w93 hw))) (w93 hw) (w92 hw) (w94 hw) (w9 hw) (by decide) S1.1.1 pd_11 rfl rfl rfl rfl (by first | decide | (dsimp only; first | decide | omega)) (by first | decide | (dsimp only; first | decide | omega)) (by first | decide | (dsimp only; first | decide | omega)) (by first | decide | (dsimp only; first | decide | omega)) (allS (List.mem_of_getElem? (i := 0) rfl) all0) (by decide) (own_gbw l Z a0 hw n0 t1 k1 cap xs _ B1.2.1 s u k2 ys S1 hfit hcap (Nat.le_trans hn0 g1) cpt S_C hcpt) ?_
  intro v h2 D1 q hsz
  obtain ⟨rfl, K2, A2, rfl⟩ := q
  show Runs 1 l Z [("com/example/pacerd/pacerd/run/Outcome", 27), ("java/lang/String", 7)] n0 _ _ _ _ _ _ _ [t1] h2 1 (0 + NS) 18 #[.val (.ref a), .val (.int (Int32.ofNat xs.length)), .val (.ref s)] []
  have O_1 := (B1.1.keep K2 (ninS (Nat.ne_of_lt (Nat.lt_of_lt_of_le (Nat.lt_of_lt_of_le BO.lt (Nat.le_refl _)) g1)) nin0))
  exact Runs.retV i13_18 rfl (by first | decide | (dsimp only; first | decide | omega)) (by first | decide | (dsimp only; first | decide | omega)) ⟨rfl, t1, k1, g1, (((Keep.refl _ _).trans K1 (allS (Or.inl (List.mem_of_getElem? (i := 0) rfl)) all0)).trans K2 (allS (Or.inr (Nat.le_trans (Nat.le_refl _) g1)) all0)), O_1, A2, (B1.2.2.1.keep K2), rfl⟩
set_option maxRecDepth 65536 in
set_option maxHeartbeats 4000000 in
theorem own_ap1w (l : Launch) (Z : State) (a0 : Array Value) (hw : Wds Z a0) (n0 : Nat) (a t : Addr) (k : ClassId) (cap : Nat) (xs : List Int32) (h0 : Heap) (B0 : SBd Z h0 a t k cap xs) (s u : Addr) (k2 : ClassId) (ys : List Int32) (S0 : Stw Z h0 s u k2 ys) (hfit : xs.length + ys.length ≤ cap) (NS : Nat) (hNS : 2 * cap ≤ NS ∧ NS < 1000000) (ga : n0 ≤ a) (hn0 : n0 ≤ h0.size) (cpt : Int32) (S_C : Sta Z Z.heap "java/lang/String" "COMPACT_STRINGS" "Z" (.int cpt)) (hcpt : ¬ cpt = 0) (S_A : Sta Z Z.heap "java/lang/StringUTF16" "$assertionsDisabled" "Z" (.int 1)) (S_H : Sta Z Z.heap "java/lang/StringUTF16" "HI_BYTE_SHIFT" "I" (.int 0)) (S_L : Sta Z Z.heap "java/lang/StringUTF16" "LO_BYTE_SHIFT" "I" (.int 8)) (fm : Value) (hfm : fm.isRef = true) (S_F : Sta Z Z.heap "jdk/internal/util/Preconditions" "SIOOBE_FORMATTER" "Ljava/util/function/BiFunction;" fm) : Con 1 l Z [("com/example/pacerd/pacerd/run/Outcome", 27), ("java/lang/String", 7)] n0 (⟨"java/lang/AbstractStringBuilder", "append", "(Ljava/lang/String;)Ljava/lang/AbstractStringBuilder;"⟩ : MethodName) jdk_68_method_22_code 3 (some (.object "java/lang/AbstractStringBuilder")) ({ frames := 8, cells := 1, slots := NS, locals := 123 } : Room) #[(.ref a), (.ref s)] [] h0 (fun v h D' => v = some (.ref a) ∧ ∃ t' k', h0.size ≤ t' ∧ Keep h0 h [a] ∧ SBw Z h a t' k' cap (xs ++ ys) ∧ D' = [t']) := by
  refine Con.of_runs (ls := #[.val (.ref a), .val (.ref s), .unset]) (by decide +kernel) (ef rfl rfl) ?_
  obtain ⟨BO, BA, BE, BL, hle, hcap⟩ := id B0
  have hys := S0.2.2.2
  refine Runs.aloadN i9_0 rfl rfl ?_
  refine Runs.nnullY (t := 9) i9_1 (by decide) ?_
  refine Runs.aloadN i9_9 rfl rfl ?_
  refine Runs.callVW (argsL := []) (rest := []) (W := 0) i9_10 (w61 hw) (w62 hw) (fun s hZ => notFace_of_selects (args := #[]) (mvT hZ (w64 hw))) (w64 hw) (w63 hw) (w65 hw) (w9 hw) (by decide) S0.1.1 pd_12 rfl rfl rfl rfl (by first | decide | (dsimp only; first | decide | omega)) (by first | decide | (dsimp only; first | decide | omega)) (by first | decide | (dsimp only; first | decide | omega)) (by first | decide | (dsimp only; first | decide | omega)) all0 (by decide) (own_lenw l Z a0 hw n0 s u k2 ys _ S0 cpt S_C hcpt) ?_
  intro v h1 D1 q hsz
  obtain ⟨rfl, rfl, rfl⟩ := q
  show Runs 1 l Z [("com/example/pacerd/pacerd/run/Outcome", 27), ("java/lang/String", 7)] n0 _ _ _ _ _ _ _ [] h0 0 0 13 #[.val (.ref a), .val (.ref s), .unset] [(.int (Int32.ofNat ys.length))]
  refine Runs.istoreN (ls' := #[.val (.ref a), .val (.ref s), .val (.int (Int32.ofNat ys.length))]) i9_13 rfl ?_
  refine Runs.aloadN i9_14 rfl rfl ?_
  refine Runs.aloadN i9_15 rfl rfl ?_
  refine Runs.getF i9_16 (host := "") (Or.inl (w72 hw)) Via.refl (BO.fld (i := 2) rfl) ?_
  refine Runs.iloadN i9_19 rfl ?_
  refine Runs.iadd (z := (Int32.ofNat (xs.length + ys.length))) i9_20 (own_add (a := xs.length) (b := ys.length) (by omega)) ?_
  refine Runs.callVW (argsL := [(.int (Int32.ofNat (xs.length + ys.length)))]) (rest := []) (W := 0) i9_21 (w74 hw) (declares_of (w75 hw) (w78 hw)) (fun s hZ => notFace_of_selects (args := #[]) (mvT hZ (w77 hw))) (w77 hw) (w75 hw) (w78 hw) (w42 hw) (by decide) BO.1 pd_8 rfl rfl rfl rfl (by first | decide | (dsimp only; first | decide | omega)) (by first | decide | (dsimp only; first | decide | omega)) (by first | decide | (dsimp only; first | decide | omega)) (by first | decide | (dsimp only; first | decide | omega)) all0 (by decide) (own_ecf l Z a0 hw n0 a t k cap xs _ B0 (xs.length + ys.length) (by omega)) ?_
  intro v h1 D1 q hsz
  obtain ⟨rfl, rfl, rfl⟩ := q
  show Runs 1 l Z [("com/example/pacerd/pacerd/run/Outcome", 27), ("java/lang/String", 7)] n0 _ _ _ _ _ _ _ [] h0 0 0 24 #[.val (.ref a), .val (.ref s), .val (.int (Int32.ofNat ys.length))] []
  refine Runs.aloadN i9_24 rfl rfl ?_
  refine Runs.aloadN i9_25 rfl rfl ?_
  refine Runs.getF i9_26 (host := "") (Or.inl (w72 hw)) Via.refl (BO.fld (i := 2) rfl) ?_
  refine Runs.aloadN i9_29 rfl rfl ?_
  refine Runs.callVW (argsL := [(.int (Int32.ofNat xs.length)), (.ref s)]) (rest := []) (W := 0) i9_30 (w79 hw) (declares_of (w80 hw) (w83 hw)) (fun s hZ => notFace_of_selects (args := #[]) (mvT hZ (w82 hw))) (w82 hw) (w80 hw) (w83 hw) (w42 hw) (by decide) BO.1 pd_13 rfl rfl rfl rfl (by first | decide | (dsimp only; first | decide | omega)) (by first | decide | (dsimp only; first | decide | omega)) (by first | decide | (dsimp only; first | decide | omega)) (by first | decide | (dsimp only; first | decide | omega)) all0 (by decide) (own_psw l Z a0 hw n0 a t k cap xs _ B0 s u k2 ys S0 (by omega) NS hNS ga hn0 cpt S_C hcpt S_A S_H S_L fm hfm S_F) ?_
  intro v h1 D1 q hsz
  obtain ⟨rfl, t1, k1, g1, K1, O1, A1, E1, rfl⟩ := q
  show Runs 1 l Z [("com/example/pacerd/pacerd/run/Outcome", 27), ("java/lang/String", 7)] n0 _ _ _ _ _ _ _ [t1] h1 1 (0 + NS) 33 #[.val (.ref a), .val (.ref s), .val (.int (Int32.ofNat ys.length))] []
  refine Runs.aloadN i9_33 rfl rfl ?_
  refine Runs.dup i9_34 rfl ?_
  refine Runs.getF i9_35 (host := "") (Or.inl (w72 hw)) Via.refl (O1.fld (i := 2) rfl) ?_
  refine Runs.iloadN i9_38 rfl ?_
  refine Runs.iadd (z := (Int32.ofNat (xs.length + ys.length))) i9_39 (own_add (a := xs.length) (b := ys.length) (by omega)) ?_
  refine Runs.putF (i := 2) (ty := .int) i9_40 (host := "") (Or.inl (w72 hw)) Via.refl O1 rfl (lay_1 hw) rfl (Or.inl (w73 hw)) (w33 hw) (by decide) rfl rfl ga (Or.inr ⟨by decide, by decide⟩) ?_
  intro h_1 K_2 (O_3 : Obj Z h_1 a "java/lang/StringBuilder" [("java/lang/AbstractStringBuilder", "value", "[B", (.ref t1)), ("java/lang/AbstractStringBuilder", "coder", "B", (.int (1 : Int32))), ("java/lang/AbstractStringBuilder", "count", "I", (.int (Int32.ofNat (xs.length + ys.length)))), ("java/lang/AbstractStringBuilder", "maybeLatin1", "Z", (.int (0 : Int32)))])
  refine Runs.aloadN i9_43 rfl rfl ?_
  have A_4 := (A1.keep K_2 (ninS (Nat.ne_of_gt (Nat.lt_of_lt_of_le (Nat.lt_of_lt_of_le BO.lt (Nat.le_refl _)) g1)) nin0))
  exact Runs.retA i9_44 rfl rfl rfl (by first | decide | (dsimp only; first | decide | omega)) (by first | decide | (dsimp only; first | decide | omega)) ⟨rfl, t1, k1, g1, (((Keep.refl _ _).trans K1 (allS (Or.inl (List.mem_of_getElem? (i := 0) rfl)) all0)).trans K_2 (allS (Or.inl (List.mem_of_getElem? (i := 0) rfl)) all0)), ⟨by rw [List.length_append]; exact O_3, A_4, (E1.keep K_2), own_cha_app (own_chl BL) S0.2.2.1, by rw [List.length_append]; omega, by omega⟩, rfl⟩
set_option maxRecDepth 65536 in
set_option maxHeartbeats 4000000 in
theorem own_apw (l : Launch) (Z : State) (a0 : Array Value) (hw : Wds Z a0) (n0 : Nat) (a t : Addr) (k : ClassId) (cap : Nat) (xs : List Int32) (h0 : Heap) (B0 : SBd Z h0 a t k cap xs) (s u : Addr) (k2 : ClassId) (ys : List Int32) (S0 : Stw Z h0 s u k2 ys) (hfit : xs.length + ys.length ≤ cap) (NS : Nat) (hNS : 2 * cap ≤ NS ∧ NS < 1000000) (ga : n0 ≤ a) (hn0 : n0 ≤ h0.size) (cpt : Int32) (S_C : Sta Z Z.heap "java/lang/String" "COMPACT_STRINGS" "Z" (.int cpt)) (hcpt : ¬ cpt = 0) (S_A : Sta Z Z.heap "java/lang/StringUTF16" "$assertionsDisabled" "Z" (.int 1)) (S_H : Sta Z Z.heap "java/lang/StringUTF16" "HI_BYTE_SHIFT" "I" (.int 0)) (S_L : Sta Z Z.heap "java/lang/StringUTF16" "LO_BYTE_SHIFT" "I" (.int 8)) (fm : Value) (hfm : fm.isRef = true) (S_F : Sta Z Z.heap "jdk/internal/util/Preconditions" "SIOOBE_FORMATTER" "Ljava/util/function/BiFunction;" fm) : Con 1 l Z [("com/example/pacerd/pacerd/run/Outcome", 27), ("java/lang/String", 7)] n0 (⟨"java/lang/StringBuilder", "append", "(Ljava/lang/String;)Ljava/lang/StringBuilder;"⟩ : MethodName) jdk_67_method_7_code 2 (some (.object "java/lang/StringBuilder")) ({ frames := 9, cells := 1, slots := NS, locals := 137 } : Room) #[(.ref a), (.ref s)] [] h0 (fun v h D' => v = some (.ref a) ∧ ∃ t' k', h0.size ≤ t' ∧ Keep h0 h [a] ∧ SBw Z h a t' k' cap (xs ++ ys) ∧ D' = [t']) := by
  refine Con.of_runs (ls := #[.val (.ref a), .val (.ref s)]) (by decide +kernel) (ef rfl rfl) ?_
  obtain ⟨BO, BA, BE, BL, hle, hcap⟩ := id B0
  refine Runs.aloadN i8_0 rfl rfl ?_
  refine Runs.aloadN i8_1 rfl rfl ?_
  refine Runs.callUW (argsL := [(.ref s)]) (rest := []) (W := 0) i8_2 (w56 hw) (same_of (w59 hw) (nf_same (notFace_of_selects (w77 hw)) (w75 hw) rfl) (by decide)) (w57 hw) (w58 hw) (w60 hw) (w42 hw) (by decide) BO.1 pd_14 rfl rfl rfl rfl (by first | decide | (dsimp only; first | decide | omega)) (by first | decide | (dsimp only; first | decide | omega)) (by first | decide | (dsimp only; first | decide | omega)) (by first | decide | (dsimp only; first | decide | omega)) all0 (by decide) (own_ap1w l Z a0 hw n0 a t k cap xs _ B0 s u k2 ys S0 hfit NS hNS ga hn0 cpt S_C hcpt S_A S_H S_L fm hfm S_F) ?_
  intro v h1 D1 q hsz
  obtain ⟨rfl, t1, k1, g1, K1, B1, rfl⟩ := q
  show Runs 1 l Z [("com/example/pacerd/pacerd/run/Outcome", 27), ("java/lang/String", 7)] n0 _ _ _ _ _ _ _ [t1] h1 1 (0 + NS) 5 #[.val (.ref a), .val (.ref s)] [(.ref a)]
  refine Runs.pop i8_5 rfl ?_
  refine Runs.aloadN i8_6 rfl rfl ?_
  exact Runs.retA i8_7 rfl rfl rfl (by first | decide | (dsimp only; first | decide | omega)) (by first | decide | (dsimp only; first | decide | omega)) ⟨rfl, t1, k1, g1, K1, B1, rfl⟩
set_option maxRecDepth 65536 in
set_option maxHeartbeats 4000000 in
theorem own_min (l : Launch) (Z : State) (a0 : Array Value) (hw : Wds Z a0) (n0 : Nat) (a b : Nat) (ha : a < 2147483648) (hb : b < 2147483648) (h0 : Heap) : Con 1 l Z [("com/example/pacerd/pacerd/run/Outcome", 27), ("java/lang/String", 7)] n0 (⟨"java/lang/Math", "min", "(II)I"⟩ : MethodName) jdk_29_method_69_code 2 (some .int) ({ frames := 0, cells := 0, slots := 0, locals := 0 } : Room) #[(.int (Int32.ofNat a)), (.int (Int32.ofNat b))] [] h0 (fun v h D' => v = some (.int (Int32.ofNat (min a b))) ∧ h0 = h ∧ D' = []) := by
  refine Con.of_runs (ls := #[.val (.int (Int32.ofNat a)), .val (.int (Int32.ofNat b))]) (Jvm.Free.JP.mathPlain rfl (by decide +kernel)) (ef rfl rfl) ?_
  refine Runs.iloadN i26_0 rfl ?_
  refine Runs.iloadN i26_1 rfl ?_
  by_cases hc2 : (Int32.ofNat b) < (Int32.ofNat a)
  · refine Runs.icY (t := 9) i26_2 (by decide) (tlt hc2).2.2.1 ?_
    refine Runs.iloadN i26_9 rfl ?_
    exact Runs.retI (z := (Int32.ofNat b)) i26_10 rfl (Or.inl rfl) rfl (by decide) (by decide) ⟨by rw [own_ltI (by omega) (by omega)] at hc2; congr 3; omega, rfl, rfl⟩
  · refine Runs.icN i26_2 (flt hc2).2.2.1 ?_
    refine Runs.iloadN i26_5 rfl ?_
    refine Runs.goto (t := 10) i26_6 (by decide) ?_
    exact Runs.retI (z := (Int32.ofNat a)) i26_10 rfl (Or.inl rfl) rfl (by decide) (by decide) ⟨by rw [own_ltI (by omega) (by omega)] at hc2; congr 3; omega, rfl, rfl⟩
set_option maxRecDepth 65536 in
set_option maxHeartbeats 4000000 in
theorem own_ckl (l : Launch) (Z : State) (a0 : Array Value) (hw : Wds Z a0) (n0 : Nat) (n : Nat) (hn : n < 1000000) (h0 : Heap) : Con 1 l Z [("com/example/pacerd/pacerd/run/Outcome", 27), ("java/lang/String", 7)] n0 (⟨"java/util/Arrays", "checkLength", "(II)V"⟩ : MethodName) jdk_65_method_131_code 2 none ({ frames := 0, cells := 0, slots := 0, locals := 0 } : Room) #[(.int (0 : Int32)), (.int (Int32.ofNat n))] [] h0 (fun v h D' => v = none ∧ h0 = h ∧ D' = []) := by
  refine Con.of_runs (ls := #[.val (.int (0 : Int32)), .val (.int (Int32.ofNat n))]) (by decide +kernel) (ef rfl rfl) ?_
  refine Runs.iloadN i25_0 rfl ?_
  refine Runs.iloadN i25_1 rfl ?_
  refine Runs.icY (t := 37) i25_2 (by decide) (flt (own_nlt (a := n) (b := 0) (by omega) (by omega))).2.1 ?_
  exact Runs.retV i25_37 rfl (by decide) (by decide) ⟨rfl, rfl, rfl⟩
set_option maxRecDepth 65536 in
set_option maxHeartbeats 4000000 in
theorem own_crb (l : Launch) (Z : State) (a0 : Array Value) (hw : Wds Z a0) (n0 : Nat) (t : Addr) (k : ClassId) (c n NS : Nat) (vs : List Value) (hv : vs.length ≤ n) (hn : n < c ∧ c < 10000000) (hNS : n ≤ NS ∧ NS < 1000000) (h0 : Heap) (T0 : Arv Z h0 t k .byte (Int32.ofNat c) vs (.int 0)) : Con 1 l Z [("com/example/pacerd/pacerd/run/Outcome", 27), ("java/lang/String", 7)] n0 (⟨"java/util/Arrays", "copyOfRangeByte", "([BII)[B"⟩ : MethodName) jdk_65_method_133_code 5 (some (.array .byte)) ({ frames := 1, cells := 1, slots := NS, locals := 40 } : Room) #[(.ref t), (.int (0 : Int32)), (.int (Int32.ofNat n))] [] h0 (fun v h D' => ∃ b k', v = some (.ref b) ∧ h0.size ≤ b ∧ Keep h0 h [] ∧ Arv Z h b k' .byte (Int32.ofNat n) vs (.int 0) ∧ Exa Z h b "[B" ∧ D' = [b]) := by
  refine Con.of_runs (ls := #[.val (.ref t), .val (.int (0 : Int32)), .val (.int (Int32.ofNat n)), .unset, .unset]) (by decide +kernel) (ef rfl rfl) ?_
  refine Runs.iloadN i24_0 rfl ?_
  refine Runs.iloadN i24_1 rfl ?_
  refine Runs.callSW (argsL := [(.int (0 : Int32)), (.int (Int32.ofNat n))]) (rest := []) (W := 0) i24_2 (w136 hw) (w137 hw) (w131 hw) (w138 hw) (by decide) pd_22 rfl rfl rfl rfl (by first | decide | (dsimp only; first | decide | omega)) (by first | decide | (dsimp only; first | decide | omega)) (by first | decide | (dsimp only; first | decide | omega)) (by first | decide | (dsimp only; first | decide | omega)) all0 (by decide) (own_ckl l Z a0 hw n0 n (by omega) _) ?_
  intro v h1 D1 q hsz
  obtain ⟨rfl, rfl, rfl⟩ := q
  show Runs 1 l Z [("com/example/pacerd/pacerd/run/Outcome", 27), ("java/lang/String", 7)] n0 _ _ _ _ _ _ _ [] h0 0 0 5 #[.val (.ref t), .val (.int (0 : Int32)), .val (.int (Int32.ofNat n)), .unset, .unset] []
  refine Runs.iloadN i24_5 rfl ?_
  refine Runs.iloadN i24_6 rfl ?_
  refine Runs.isub (z := Int32.ofNat n) i24_7 (own_sub (a := n) (b := 0) (by omega) (by omega)) ?_
  refine Runs.istoreN (ls' := #[.val (.ref t), .val (.int (0 : Int32)), .val (.int (Int32.ofNat n)), .val (.int (Int32.ofNat n)), .unset]) i24_8 rfl ?_
  refine Runs.iloadN i24_9 rfl ?_
  refine Runs.newP (cap := NS) (ad := "[B") i24_10 (w21 hw) (own_nn (n := n) (by omega)) (by rw [own_cl (n := n) (by omega)]; omega) (by omega) (by first | decide | (dsimp only; first | decide | omega)) (by first | decide | (dsimp only; first | decide | omega)) rfl ?_
  intro h_1 b_2 k_3 g_6 ge_7 K_4 (A_5 : Arv Z h_1 b_2 k_3 .byte (Int32.ofNat n) ([]) (.int 0)) E_8
  refine Runs.astore (ls' := #[.val (.ref t), .val (.int (0 : Int32)), .val (.int (Int32.ofNat n)), .val (.int (Int32.ofNat n)), .val (.ref b_2)]) i24_12 rfl rfl ?_
  refine Runs.aloadN i24_14 rfl rfl ?_
  refine Runs.iloadN i24_15 rfl ?_
  refine Runs.aload i24_16 rfl rfl ?_
  refine Runs.iconst (v := (0 : Int32)) i24_18 (by decide) ?_
  refine Runs.aloadN i24_19 rfl rfl ?_
  have A_9 := (T0.keep K_4 nin0)
  refine Runs.arrlen i24_20 A_9 ?_
  refine Runs.iloadN i24_21 rfl ?_
  refine Runs.isub (z := Int32.ofNat c) i24_22 (own_sub (a := c) (b := 0) (by omega) (by omega)) ?_
  refine Runs.iloadN i24_23 rfl ?_
  refine Runs.callSW (argsL := [(.int (Int32.ofNat c)), (.int (Int32.ofNat n))]) (rest := [(.int (0 : Int32)), (.ref b_2), (.int (0 : Int32)), (.ref t)]) (W := 4) i24_24 (w139 hw) (w140 hw) (w141 hw) (w142 hw) (by decide) pd_23 rfl rfl rfl rfl (by first | decide | (dsimp only; first | decide | omega)) (by first | decide | (dsimp only; first | decide | omega)) (by first | decide | (dsimp only; first | decide | omega)) (by first | decide | (dsimp only; first | decide | omega)) all0 (by decide) (own_min l Z a0 hw n0 c n (by omega) (by omega) _) ?_
  rw [show min c n = n by omega]
  intro v h1 D1 q hsz
  obtain ⟨rfl, rfl, rfl⟩ := q
  show Runs 1 l Z [("com/example/pacerd/pacerd/run/Outcome", 27), ("java/lang/String", 7)] n0 _ _ _ _ _ _ _ [b_2] h_1 1 (0 + NS) 27 #[.val (.ref t), .val (.int (0 : Int32)), .val (.int (Int32.ofNat n)), .val (.int (Int32.ofNat n)), .val (.ref b_2)] [(.int (Int32.ofNat n)), (.int (0 : Int32)), (.ref b_2), (.int (0 : Int32)), (.ref t)]
  have A_10 : Arv Z h_1 b_2 k_3 .byte (Int32.ofNat n) (List.replicate n (.int 0)) (.int 0) := A_5.pad (pad_rep [] (.int 0) n)
  refine Runs.acopy (W := 0) (us := ((List.range n).map fun i => vs.getD (0 + i) (.int 0))) i24_27 (w143 hw) (w98 hw) (w96 hw) (w97 hw) A_9 A_10 rfl (by decide) (by decide) (own_nn (by omega)) (by rw [own_cl (n := n) (by omega), own_cl (n := c) (by omega)]; show 0 + n ≤ c; omega) (by rw [own_cl (n := n) (by omega)]; show 0 + n ≤ n; omega) (by rw [own_cl (n := n) (by omega)]; rfl) (by rw [own_cl (n := n) (by omega)]; show 0 + n ≤ _; rw [List.length_replicate]; omega) ge_7 (Or.inl (List.mem_of_getElem? (i := 0) rfl)) rfl (by first | decide | (dsimp only; first | decide | omega)) rfl (by first | decide | (dsimp only; first | decide | omega)) ?_
  intro h_11 K_12 A_13
  have A_14 : Arv Z h_11 b_2 k_3 .byte (Int32.ofNat n) vs (.int 0) := A_13.pad (fun i => by rw [own_cl (n := n) (by omega)]; exact (own_copy vs (.int 0) n n hv (Nat.le_refl _) i).symm)
  refine Runs.aload i24_30 rfl rfl ?_
  exact Runs.retA i24_32 rfl rfl rfl (by first | decide | (dsimp only; first | decide | omega)) (by first | decide | (dsimp only; first | decide | omega)) ⟨b_2, k_3, rfl, g_6, (((Keep.refl _ _).trans K_4 all0).trans K_12 (allS (Or.inr (Nat.le_trans (Nat.le_refl _) g_6)) all0)), A_14, (E_8.keep K_12), rfl⟩
set_option maxRecDepth 65536 in
set_option maxHeartbeats 4000000 in
theorem own_cr2 (l : Launch) (Z : State) (a0 : Array Value) (hw : Wds Z a0) (n0 : Nat) (t : Addr) (k : ClassId) (c n NS : Nat) (vs : List Value) (hv : vs.length ≤ n) (hn : n < c ∧ c < 10000000) (hNS : n ≤ NS ∧ NS < 1000000) (h0 : Heap) (T0 : Arv Z h0 t k .byte (Int32.ofNat c) vs (.int 0)) : Con 1 l Z [("com/example/pacerd/pacerd/run/Outcome", 27), ("java/lang/String", 7)] n0 (⟨"java/util/Arrays", "copyOfRange", "([BII)[B"⟩ : MethodName) jdk_65_method_132_code 3 (some (.array .byte)) ({ frames := 2, cells := 1, slots := NS, locals := 56 } : Room) #[(.ref t), (.int (0 : Int32)), (.int (Int32.ofNat n))] [] h0 (fun v h D' => ∃ b k', v = some (.ref b) ∧ h0.size ≤ b ∧ Keep h0 h [] ∧ Arv Z h b k' .byte (Int32.ofNat n) vs (.int 0) ∧ Exa Z h b "[B" ∧ D' = [b]) := by
  refine Con.of_runs (ls := #[.val (.ref t), .val (.int (0 : Int32)), .val (.int (Int32.ofNat n))]) (by decide +kernel) (ef rfl rfl) ?_
  refine Runs.iloadN i23_0 rfl ?_
  refine Runs.ifN i23_1 (teq (by decide : (0 : Int32) = (0 : Int32))).2 ?_
  refine Runs.iloadN i23_4 rfl ?_
  refine Runs.aloadN i23_5 rfl rfl ?_
  refine Runs.arrlen i23_6 T0 ?_
  refine Runs.icN i23_7 (feq (fun q => absurd ((own_inj (a := n) (b := c) (by omega) (by omega)).mp q) (by omega))).1 ?_
  refine Runs.aloadN i23_10 rfl rfl ?_
  refine Runs.iloadN i23_11 rfl ?_
  refine Runs.iloadN i23_12 rfl ?_
  refine Runs.callSW (argsL := [(.ref t), (.int (0 : Int32)), (.int (Int32.ofNat n))]) (rest := []) (W := 0) i23_13 (w133 hw) (w134 hw) (w131 hw) (w135 hw) (by decide) pd_24 rfl rfl rfl rfl (by first | decide | (dsimp only; first | decide | omega)) (by first | decide | (dsimp only; first | decide | omega)) (by first | decide | (dsimp only; first | decide | omega)) (by first | decide | (dsimp only; first | decide | omega)) all0 (by decide) (own_crb l Z a0 hw n0 t k c n NS vs hv hn hNS _ T0) ?_
  intro v h1 D1 q hsz
  obtain ⟨b1, k1, rfl, g1, K1, A1, E1, rfl⟩ := q
  show Runs 1 l Z [("com/example/pacerd/pacerd/run/Outcome", 27), ("java/lang/String", 7)] n0 _ _ _ _ _ _ _ [b1] h1 1 (0 + NS) 16 #[.val (.ref t), .val (.int (0 : Int32)), .val (.int (Int32.ofNat n))] [(.ref b1)]
  exact Runs.retA i23_16 rfl rfl rfl (by first | decide | (dsimp only; first | decide | omega)) (by first | decide | (dsimp only; first | decide | omega)) ⟨b1, k1, rfl, g1, K1, A1, E1, rfl⟩
set_option maxRecDepth 65536 in
set_option maxHeartbeats 4000000 in
theorem own_tgvn (l : Launch) (Z : State) (a0 : Array Value) (hw : Wds Z a0) (n0 : Nat) (a t : Addr) (k : ClassId) (cap : Nat) (xs : List Int32) (h0 : Heap) (B0 : SBd Z h0 a t k cap xs) (cpt : Int32) (S_C : Sta Z Z.heap "java/lang/String" "COMPACT_STRINGS" "Z" (.int cpt)) (hcpt : ¬ cpt = 0) : Con 1 l Z [("com/example/pacerd/pacerd/run/Outcome", 27), ("java/lang/String", 7)] n0 (⟨"java/lang/AbstractStringBuilder", "getValue", "()[B"⟩ : MethodName) jdk_68_method_64_code 1 (some (.array .byte)) ({ frames := 0, cells := 0, slots := 0, locals := 0 } : Room) #[(.ref a)] [] h0 (fun v h D' => v = some (.ref t) ∧ h0 = h ∧ D' = []) := by
  refine Con.of_runs (ls := #[.val (.ref a)]) (by decide +kernel) (ef rfl rfl) ?_
  obtain ⟨BO, BA, BE, BL, hle, hcap⟩ := id B0
  refine Runs.aloadN i19_0 rfl rfl ?_
  refine Runs.getF i19_1 (host := "") (Or.inl (w46 hw)) Via.refl (BO.fld (i := 0) rfl) ?_
  exact Runs.retA i19_4 rfl rfl rfl (by decide) (by decide) ⟨rfl, rfl, rfl⟩
set_option maxRecDepth 65536 in
set_option maxHeartbeats 4000000 in
theorem own_tiln (l : Launch) (Z : State) (a0 : Array Value) (hw : Wds Z a0) (n0 : Nat) (a t : Addr) (k : ClassId) (cap : Nat) (xs : List Int32) (h0 : Heap) (B0 : SBd Z h0 a t k cap xs) (cpt : Int32) (S_C : Sta Z Z.heap "java/lang/String" "COMPACT_STRINGS" "Z" (.int cpt)) (hcpt : ¬ cpt = 0) : Con 1 l Z [("com/example/pacerd/pacerd/run/Outcome", 27), ("java/lang/String", 7)] n0 (⟨"java/lang/AbstractStringBuilder", "isLatin1", "()Z"⟩ : MethodName) jdk_68_method_68_code 1 (some .boolean) ({ frames := 0, cells := 0, slots := 0, locals := 0 } : Room) #[(.ref a)] [] h0 (fun v h D' => v = some (.int 1) ∧ h0 = h ∧ D' = []) := by
  refine Con.of_runs (ls := #[.val (.ref a)]) (by decide +kernel) (ef rfl rfl) ?_
  obtain ⟨BO, BA, BE, BL, hle, hcap⟩ := id B0
  refine Runs.getS i22_0 (w45 hw) Via.refl S_C ?_
  refine Runs.ifN i22_3 (feq hcpt).1 ?_
  refine Runs.aloadN i22_6 rfl rfl ?_
  refine Runs.getF i22_7 (host := "") (Or.inl (w48 hw)) Via.refl (BO.fld (i := 1) rfl) ?_
  refine Runs.ifN i22_10 (teq (by decide : (0 : Int32) = (0 : Int32))).2 ?_
  refine Runs.iconst (v := (1 : Int32)) i22_13 (by decide) ?_
  refine Runs.goto (t := 18) i22_14 (by decide) ?_
  exact Runs.retI (z := (1 : Int32)) i22_18 rfl (Or.inr (Or.inl rfl)) rfl (by decide) (by decide) ⟨rfl, rfl, rfl⟩
set_option maxRecDepth 65536 in
set_option maxHeartbeats 4000000 in
theorem own_tlnn (l : Launch) (Z : State) (a0 : Array Value) (hw : Wds Z a0) (n0 : Nat) (a t : Addr) (k : ClassId) (cap : Nat) (xs : List Int32) (h0 : Heap) (B0 : SBd Z h0 a t k cap xs) (cpt : Int32) (S_C : Sta Z Z.heap "java/lang/String" "COMPACT_STRINGS" "Z" (.int cpt)) (hcpt : ¬ cpt = 0) : Con 1 l Z [("com/example/pacerd/pacerd/run/Outcome", 27), ("java/lang/String", 7)] n0 (⟨"java/lang/AbstractStringBuilder", "length", "()I"⟩ : MethodName) jdk_68_method_6_code 1 (some .int) ({ frames := 0, cells := 0, slots := 0, locals := 0 } : Room) #[(.ref a)] [] h0 (fun v h D' => v = some (.int (Int32.ofNat xs.length)) ∧ h0 = h ∧ D' = []) := by
  refine Con.of_runs (ls := #[.val (.ref a)]) (by decide +kernel) (ef rfl rfl) ?_
  obtain ⟨BO, BA, BE, BL, hle, hcap⟩ := id B0
  refine Runs.aloadN i21_0 rfl rfl ?_
  refine Runs.getF i21_1 (host := "") (Or.inl (w72 hw)) Via.refl (BO.fld (i := 2) rfl) ?_
  exact Runs.retI (z := (Int32.ofNat xs.length)) i21_4 rfl (Or.inl rfl) rfl (by decide) (by decide) ⟨rfl, rfl, rfl⟩
set_option maxRecDepth 65536 in
set_option maxHeartbeats 4000000 in
theorem own_tsln (l : Launch) (Z : State) (a0 : Array Value) (hw : Wds Z a0) (n0 : Nat) (a t : Addr) (k : ClassId) (cap : Nat) (xs : List Int32) (h0 : Heap) (B0 : SBd Z h0 a t k cap xs) (cpt : Int32) (S_C : Sta Z Z.heap "java/lang/String" "COMPACT_STRINGS" "Z" (.int cpt)) (hcpt : ¬ cpt = 0) : Con 1 l Z [("com/example/pacerd/pacerd/run/Outcome", 27), ("java/lang/String", 7)] n0 (⟨"java/lang/StringBuilder", "length", "()I"⟩ : MethodName) jdk_67_method_93_code 1 (some .int) ({ frames := 1, cells := 0, slots := 0, locals := 12 } : Room) #[(.ref a)] [] h0 (fun v h D' => v = some (.int (Int32.ofNat xs.length)) ∧ h0 = h ∧ D' = []) := by
  refine Con.of_runs (ls := #[.val (.ref a)]) (by decide +kernel) (ef rfl rfl) ?_
  obtain ⟨BO, BA, BE, BL, hle, hcap⟩ := id B0
  refine Runs.aloadN i20_0 rfl rfl ?_
  refine Runs.callUW (argsL := []) (rest := []) (W := 0) i20_1 (w122 hw) (same_of (w117 hw) (nf_same (notFace_of_selects (w77 hw)) (w75 hw) rfl) (by decide)) (w118 hw) (w58 hw) (w123 hw) (w42 hw) (by decide) BO.1 pd_12 rfl rfl rfl rfl (by decide) (by decide) (by decide) (by decide) all0 (by decide) (own_tlnn l Z a0 hw n0 a t k cap xs _ B0 cpt S_C hcpt) ?_
  intro v h1 D1 q hsz
  obtain ⟨rfl, rfl, rfl⟩ := q
  show Runs 1 l Z [("com/example/pacerd/pacerd/run/Outcome", 27), ("java/lang/String", 7)] n0 _ _ _ _ _ _ _ [] h0 0 0 4 #[.val (.ref a)] [(.int (Int32.ofNat xs.length))]
  exact Runs.retI (z := (Int32.ofNat xs.length)) i20_4 rfl (Or.inl rfl) rfl (by decide) (by decide) ⟨rfl, rfl, rfl⟩
set_option maxRecDepth 65536 in
set_option maxHeartbeats 4000000 in
theorem own_tsan (l : Launch) (Z : State) (a0 : Array Value) (hw : Wds Z a0) (n0 : Nat) (a t : Addr) (k : ClassId) (cap : Nat) (xs : List Int32) (h0 : Heap) (B0 : SBd Z h0 a t k cap xs) (NS : Nat) (hNS : 2 * xs.length ≤ NS ∧ NS < 1000000) (hful : xs.length < cap) (s : Addr) (gs : n0 ≤ s) (O0 : Obj Z h0 s "java/lang/String" [("java/lang/String", "value", "[B", .null), ("java/lang/String", "coder", "B", (.int (0 : Int32)))]) (cpt : Int32) (S_C : Sta Z Z.heap "java/lang/String" "COMPACT_STRINGS" "Z" (.int cpt)) (hcpt : ¬ cpt = 0) : Con 1 l Z [("com/example/pacerd/pacerd/run/Outcome", 27), ("java/lang/String", 7)] n0 (⟨"java/lang/String", "<init>", "(Ljava/lang/AbstractStringBuilder;Ljava/lang/Void;)V"⟩ : MethodName) jdk_42_method_150_code 5 none ({ frames := 3, cells := 1, slots := NS, locals := 71 } : Room) #[(.ref s), (.ref a), .null] [s] h0 (fun v h D' => v = none ∧ ∃ u k', h0.size ≤ u ∧ Keep h0 h [s] ∧ Str Z h s u k' xs ∧ Exa Z h u "[B" ∧ D' = []) := by
  refine Con.of_runs (ls := #[.val (.ref s), .val (.ref a), .val .null, .unset, .unset]) (by decide +kernel) (ef rfl rfl) ?_
  obtain ⟨BO, BA, BE, BL, hle, hcap⟩ := id B0
  refine Runs.aloadN i18_0 rfl rfl ?_
  refine Runs.initO (W := 0) i18_1 (w17 hw) (w18 hw) (w19 hw) rfl (by first | decide | (dsimp only; first | decide | omega)) rfl (by first | decide | (dsimp only; first | decide | omega)) ?_
  refine Runs.aloadN i18_4 rfl rfl ?_
  refine Runs.callVW (argsL := []) (rest := []) (W := 0) i18_5 (w111 hw) (w112 hw) (fun s hZ => notFace_of_selects (args := #[]) (mvT hZ (w114 hw))) (w114 hw) (w113 hw) (w115 hw) (w42 hw) (by decide) BO.1 pd_25 rfl rfl rfl rfl (by first | decide | (dsimp only; first | decide | omega)) (by first | decide | (dsimp only; first | decide | omega)) (by first | decide | (dsimp only; first | decide | omega)) (by first | decide | (dsimp only; first | decide | omega)) all0 (by decide) (own_tgvn l Z a0 hw n0 a t k cap xs _ B0 cpt S_C hcpt) ?_
  intro v h1 D1 q hsz
  obtain ⟨rfl, rfl, rfl⟩ := q
  show Runs 1 l Z [("com/example/pacerd/pacerd/run/Outcome", 27), ("java/lang/String", 7)] n0 _ _ _ _ _ _ _ [s] h0 0 0 8 #[.val (.ref s), .val (.ref a), .val .null, .unset, .unset] [(.ref t)]
  refine Runs.astoreN (ls' := #[.val (.ref s), .val (.ref a), .val .null, .val (.ref t), .unset]) i18_8 rfl rfl ?_
  refine Runs.aloadN i18_9 rfl rfl ?_
  refine Runs.callVW (argsL := []) (rest := []) (W := 0) i18_10 (w116 hw) (w117 hw) (fun s hZ => nf_same (notFace_of_selects (args := #[]) (mvT hZ (w77 hw))) (mvT (args := #[]) hZ (w75 hw)) rfl) (w119 hw) (w120 hw) (w121 hw) (w34 hw) (by decide) BO.1 pd_12 rfl rfl rfl rfl (by first | decide | (dsimp only; first | decide | omega)) (by first | decide | (dsimp only; first | decide | omega)) (by first | decide | (dsimp only; first | decide | omega)) (by first | decide | (dsimp only; first | decide | omega)) all0 (by decide) (own_tsln l Z a0 hw n0 a t k cap xs _ B0 cpt S_C hcpt) ?_
  intro v h1 D1 q hsz
  obtain ⟨rfl, rfl, rfl⟩ := q
  show Runs 1 l Z [("com/example/pacerd/pacerd/run/Outcome", 27), ("java/lang/String", 7)] n0 _ _ _ _ _ _ _ [s] h0 0 0 13 #[.val (.ref s), .val (.ref a), .val .null, .val (.ref t), .unset] [(.int (Int32.ofNat xs.length))]
  refine Runs.istore (ls' := #[.val (.ref s), .val (.ref a), .val .null, .val (.ref t), .val (.int (Int32.ofNat xs.length))]) i18_13 rfl ?_
  refine Runs.aloadN i18_15 rfl rfl ?_
  refine Runs.callVW (argsL := []) (rest := []) (W := 0) i18_16 (w124 hw) (w125 hw) (fun s hZ => notFace_of_selects (args := #[]) (mvT hZ (w127 hw))) (w127 hw) (w126 hw) (w128 hw) (w42 hw) (by decide) BO.1 pd_20 rfl rfl rfl rfl (by first | decide | (dsimp only; first | decide | omega)) (by first | decide | (dsimp only; first | decide | omega)) (by first | decide | (dsimp only; first | decide | omega)) (by first | decide | (dsimp only; first | decide | omega)) all0 (by decide) (own_tiln l Z a0 hw n0 a t k cap xs _ B0 cpt S_C hcpt) ?_
  intro v h1 D1 q hsz
  obtain ⟨rfl, rfl, rfl⟩ := q
  show Runs 1 l Z [("com/example/pacerd/pacerd/run/Outcome", 27), ("java/lang/String", 7)] n0 _ _ _ _ _ _ _ [s] h0 0 0 19 #[.val (.ref s), .val (.ref a), .val .null, .val (.ref t), .val (.int (Int32.ofNat xs.length))] [(.int (1 : Int32))]
  refine Runs.ifN i18_19 (feq (by decide : ¬ ((1 : Int32) = (0 : Int32)))).1 ?_
  refine Runs.aloadN i18_22 rfl rfl ?_
  refine Runs.iconst (v := (0 : Int32)) i18_23 (by decide) ?_
  refine Runs.putF (i := 1) (ty := .byte) i18_24 (host := "") (Or.inl (w27 hw)) Via.refl O0 rfl (lay_0 hw) rfl (Or.inr ⟨(w23 hw), rfl, rfl⟩) (w8 hw) (by decide) rfl rfl gs (Or.inl (List.mem_of_getElem? (i := 0) rfl)) ?_
  intro h_1 K_2 (O_3 : Obj Z h_1 s "java/lang/String" [("java/lang/String", "value", "[B", .null), ("java/lang/String", "coder", "B", (.int (0 : Int32)))])
  refine Runs.aloadN i18_27 rfl rfl ?_
  refine Runs.aloadN i18_28 rfl rfl ?_
  refine Runs.iconst (v := (0 : Int32)) i18_29 (by decide) ?_
  refine Runs.iload i18_30 rfl ?_
  have A_4 := (BA.keep K_2 (ninS (Ne.symm (Exa.neArv O0.1 BA (w8 hw))) nin0))
  refine Runs.callSW (argsL := [(.ref t), (.int (0 : Int32)), (.int (Int32.ofNat xs.length))]) (rest := [(.ref s)]) (W := 1) i18_32 (w129 hw) (w130 hw) (w131 hw) (w132 hw) (by decide) pd_24 rfl rfl rfl rfl (by first | decide | (dsimp only; first | decide | omega)) (by first | decide | (dsimp only; first | decide | omega)) (by first | decide | (dsimp only; first | decide | omega)) (by first | decide | (dsimp only; first | decide | omega)) all0 (by decide) (own_cr2 l Z a0 hw n0 t k cap xs.length NS (xs.map own_b) (by simp) (by omega) (by omega) _ A_4) ?_
  intro v h_11 D1 q hsz
  obtain ⟨b_5, k_6, rfl, g_7, K_8, A_9, E_10, rfl⟩ := q
  show Runs 1 l Z [("com/example/pacerd/pacerd/run/Outcome", 27), ("java/lang/String", 7)] n0 _ _ _ _ _ _ _ [b_5, s] h_11 1 (0 + NS) 35 #[.val (.ref s), .val (.ref a), .val .null, .val (.ref t), .val (.int (Int32.ofNat xs.length))] [(.ref b_5), (.ref s)]
  have O_12 := (O_3.keep K_8 nin0)
  refine Runs.putF (i := 0) (ty := (.array .byte)) i18_35 (host := "") (Or.inl (w26 hw)) Via.refl O_12 rfl (lay_0 hw) rfl (Or.inr ⟨(w22 hw), rfl, rfl⟩) (w8 hw) (by decide) rfl rfl gs (Or.inl (List.mem_of_getElem? (i := 1) rfl)) ?_
  intro h_13 K_14 (O_15 : Obj Z h_13 s "java/lang/String" [("java/lang/String", "value", "[B", (.ref b_5)), ("java/lang/String", "coder", "B", (.int (0 : Int32)))])
  refine Runs.goto (t := 97) i18_38 (by decide) ?_
  have A_16 := (A_9.keep K_14 (ninS (Nat.ne_of_gt (Nat.lt_of_lt_of_le (Nat.lt_of_lt_of_le O0.lt K_2.1) g_7)) nin0))
  refine Runs.weak (D1 := []) (fun _ q => nomatch q) ?_
  exact Runs.retV i18_97 rfl (by first | decide | (dsimp only; first | decide | omega)) (by first | decide | (dsimp only; first | decide | omega)) ⟨rfl, b_5, k_6, (Nat.le_trans K_2.1 g_7), ((((Keep.refl _ _).trans K_2 (allS (Or.inl (List.mem_of_getElem? (i := 0) rfl)) all0)).trans K_8 all0).trans K_14 (allS (Or.inl (List.mem_of_getElem? (i := 0) rfl)) all0)), ⟨O_15, A_16, BL, by omega⟩, (E_10.keep K_14), rfl⟩
set_option maxRecDepth 65536 in
set_option maxHeartbeats 4000000 in
theorem own_tsbn (l : Launch) (Z : State) (a0 : Array Value) (hw : Wds Z a0) (n0 : Nat) (a t : Addr) (k : ClassId) (cap : Nat) (xs : List Int32) (h0 : Heap) (B0 : SBd Z h0 a t k cap xs) (NS : Nat) (hNS : 2 * xs.length ≤ NS ∧ NS < 1000000) (hful : xs.length < cap) (s : Addr) (gs : n0 ≤ s) (O0 : Obj Z h0 s "java/lang/String" [("java/lang/String", "value", "[B", .null), ("java/lang/String", "coder", "B", (.int (0 : Int32)))]) (cpt : Int32) (S_C : Sta Z Z.heap "java/lang/String" "COMPACT_STRINGS" "Z" (.int cpt)) (hcpt : ¬ cpt = 0) : Con 1 l Z [("com/example/pacerd/pacerd/run/Outcome", 27), ("java/lang/String", 7)] n0 (⟨"java/lang/String", "<init>", "(Ljava/lang/StringBuilder;)V"⟩ : MethodName) jdk_42_method_53_code 2 none ({ frames := 4, cells := 1, slots := NS, locals := 87 } : Room) #[(.ref s), (.ref a)] [s] h0 (fun v h D' => v = none ∧ ∃ u k', h0.size ≤ u ∧ Keep h0 h [s] ∧ Str Z h s u k' xs ∧ Exa Z h u "[B" ∧ D' = []) := by
  refine Con.of_runs (ls := #[.val (.ref s), .val (.ref a)]) (by decide +kernel) (ef rfl rfl) ?_
  refine Runs.aloadN i17_0 rfl rfl ?_
  refine Runs.aloadN i17_1 rfl rfl ?_
  refine Runs.aconstNull i17_2 ?_
  refine Runs.callCW (argsL := [(.ref a), .null]) (rest := []) (W := 0) i17_3 rfl (w108 hw) (w109 hw) (w110 hw) (w9 hw) (by decide) pd_26 rfl rfl rfl rfl (by first | decide | (dsimp only; first | decide | omega)) (by first | decide | (dsimp only; first | decide | omega)) (by first | decide | (dsimp only; first | decide | omega)) (by first | decide | (dsimp only; first | decide | omega)) (allS (List.mem_of_getElem? (i := 0) rfl) all0) (by decide) (own_tsan l Z a0 hw n0 a t k cap xs _ B0 NS hNS hful s gs O0 cpt S_C hcpt) ?_
  intro v h1 D1 q hsz
  obtain ⟨rfl, u1, k1, g1, K1, S1, E1, rfl⟩ := q
  show Runs 1 l Z [("com/example/pacerd/pacerd/run/Outcome", 27), ("java/lang/String", 7)] n0 _ _ _ _ _ _ _ [s] h1 1 (0 + NS) 6 #[.val (.ref s), .val (.ref a)] []
  refine Runs.weak (D1 := []) (fun _ q => nomatch q) ?_
  exact Runs.retV i17_6 rfl (by first | decide | (dsimp only; first | decide | omega)) (by first | decide | (dsimp only; first | decide | omega)) ⟨rfl, u1, k1, g1, K1, S1, E1, rfl⟩
set_option maxRecDepth 65536 in
set_option maxHeartbeats 4000000 in
theorem own_tsn (l : Launch) (Z : State) (a0 : Array Value) (hw : Wds Z a0) (n0 : Nat) (a t : Addr) (k : ClassId) (cap : Nat) (xs : List Int32) (h0 : Heap) (B0 : SBd Z h0 a t k cap xs) (NS : Nat) (hNS : 2 * xs.length ≤ NS ∧ NS < 1000000) (hful : xs.length < cap) (cpt : Int32) (S_C : Sta Z Z.heap "java/lang/String" "COMPACT_STRINGS" "Z" (.int cpt)) (hcpt : ¬ cpt = 0) : Con 1 l Z [("com/example/pacerd/pacerd/run/Outcome", 27), ("java/lang/String", 7)] n0 (⟨"java/lang/StringBuilder", "toString", "()Ljava/lang/String;"⟩ : MethodName) jdk_67_method_42_code 1 (some (.object "java/lang/String")) ({ frames := 5, cells := 2, slots := (4 + NS), locals := 101 } : Room) #[(.ref a)] [] h0 (fun v h D' => ∃ b u k', v = some (.ref b) ∧ h0.size ≤ b ∧ h0.size ≤ u ∧ Keep h0 h [] ∧ Str Z h b u k' xs ∧ Exa Z h u "[B" ∧ D' = []) := by
  refine Con.of_runs (ls := #[.val (.ref a)]) (by decide +kernel) (ef rfl rfl) ?_
  obtain ⟨BO, BA, BE, BL, hle, hcap⟩ := id B0
  refine Runs.newO i16_0 (w104 hw) (w8 hw) (w9 hw) (lay_0 hw) (by first | decide | (dsimp only; first | decide | omega)) (by first | decide | (dsimp only; first | decide | omega)) ?_
  intro h_1 b_2 g_5 ge_6 K_3 (O_4 : Obj Z h_1 b_2 "java/lang/String" [("java/lang/String", "value", "[B", .null), ("java/lang/String", "coder", "B", (.int (0 : Int32)))]) U_7
  refine Runs.dup i16_3 rfl ?_
  refine Runs.aloadN i16_4 rfl rfl ?_
  have B_8 : SBd Z h_1 a t k cap xs := ⟨BO.keep K_3 nin0, BA.keep K_3 nin0, BE.keep K_3, BL, hle, hcap⟩
  refine Runs.callCW (argsL := [(.ref a)]) (rest := [(.ref b_2)]) (W := 1) i16_5 rfl (w105 hw) (w106 hw) (w107 hw) (w9 hw) (by decide) pd_27 rfl rfl rfl rfl (by first | decide | (dsimp only; first | decide | omega)) (by first | decide | (dsimp only; first | decide | omega)) (by first | decide | (dsimp only; first | decide | omega)) (by first | decide | (dsimp only; first | decide | omega)) (allS (List.mem_of_getElem? (i := 0) rfl) all0) (by decide) (own_tsbn l Z a0 hw n0 a t k cap xs _ B_8 NS hNS hful b_2 ge_6 O_4 cpt S_C hcpt) ?_
  intro v h1 D1 q hsz
  obtain ⟨rfl, u1, k1, g1, K1, S1, E1, rfl⟩ := q
  show Runs 1 l Z [("com/example/pacerd/pacerd/run/Outcome", 27), ("java/lang/String", 7)] n0 _ _ _ _ _ _ _ [b_2] h1 2 (4 + NS) 8 #[.val (.ref a)] [(.ref b_2)]
  refine Runs.weak (D1 := []) (fun _ q => nomatch q) ?_
  exact Runs.retA i16_8 rfl rfl rfl (by first | decide | (dsimp only; first | decide | omega)) (by first | decide | (dsimp only; first | decide | omega)) ⟨b_2, u1, k1, rfl, g_5, (Nat.le_trans K_3.1 g1), (((Keep.refl _ _).trans K_3 all0).trans K1 (allS (Or.inr (Nat.le_trans (Nat.le_refl _) g_5)) all0)), S1, E1, rfl⟩
set_option maxRecDepth 65536 in
set_option maxHeartbeats 4000000 in
theorem own_tgvw (l : Launch) (Z : State) (a0 : Array Value) (hw : Wds Z a0) (n0 : Nat) (a t : Addr) (k : ClassId) (cap : Nat) (xs : List Int32) (h0 : Heap) (B0 : SBw Z h0 a t k cap xs) (cpt : Int32) (S_C : Sta Z Z.heap "java/lang/String" "COMPACT_STRINGS" "Z" (.int cpt)) (hcpt : ¬ cpt = 0) : Con 1 l Z [("com/example/pacerd/pacerd/run/Outcome", 27), ("java/lang/String", 7)] n0 (⟨"java/lang/AbstractStringBuilder", "getValue", "()[B"⟩ : MethodName) jdk_68_method_64_code 1 (some (.array .byte)) ({ frames := 0, cells := 0, slots := 0, locals := 0 } : Room) #[(.ref a)] [] h0 (fun v h D' => v = some (.ref t) ∧ h0 = h ∧ D' = []) := by
  refine Con.of_runs (ls := #[.val (.ref a)]) (by decide +kernel) (ef rfl rfl) ?_
  obtain ⟨BO, BA, BE, BL, hle, hcap⟩ := id B0
  refine Runs.aloadN i19_0 rfl rfl ?_
  refine Runs.getF i19_1 (host := "") (Or.inl (w46 hw)) Via.refl (BO.fld (i := 0) rfl) ?_
  exact Runs.retA i19_4 rfl rfl rfl (by decide) (by decide) ⟨rfl, rfl, rfl⟩
set_option maxRecDepth 65536 in
set_option maxHeartbeats 4000000 in
theorem own_tilw (l : Launch) (Z : State) (a0 : Array Value) (hw : Wds Z a0) (n0 : Nat) (a t : Addr) (k : ClassId) (cap : Nat) (xs : List Int32) (h0 : Heap) (B0 : SBw Z h0 a t k cap xs) (cpt : Int32) (S_C : Sta Z Z.heap "java/lang/String" "COMPACT_STRINGS" "Z" (.int cpt)) (hcpt : ¬ cpt = 0) : Con 1 l Z [("com/example/pacerd/pacerd/run/Outcome", 27), ("java/lang/String", 7)] n0 (⟨"java/lang/AbstractStringBuilder", "isLatin1", "()Z"⟩ : MethodName) jdk_68_method_68_code 1 (some .boolean) ({ frames := 0, cells := 0, slots := 0, locals := 0 } : Room) #[(.ref a)] [] h0 (fun v h D' => v = some (.int 0) ∧ h0 = h ∧ D' = []) := by
  refine Con.of_runs (ls := #[.val (.ref a)]) (by decide +kernel) (ef rfl rfl) ?_
  obtain ⟨BO, BA, BE, BL, hle, hcap⟩ := id B0
  refine Runs.getS i22_0 (w45 hw) Via.refl S_C ?_
  refine Runs.ifN i22_3 (feq hcpt).1 ?_
  refine Runs.aloadN i22_6 rfl rfl ?_
  refine Runs.getF i22_7 (host := "") (Or.inl (w48 hw)) Via.refl (BO.fld (i := 1) rfl) ?_
  refine Runs.ifY (t := 17) i22_10 (by decide) (feq (by decide : ¬ ((1 : Int32) = (0 : Int32)))).2 ?_
  refine Runs.iconst (v := (0 : Int32)) i22_17 (by decide) ?_
  exact Runs.retI (z := (0 : Int32)) i22_18 rfl (Or.inr (Or.inl rfl)) rfl (by decide) (by decide) ⟨rfl, rfl, rfl⟩
set_option maxRecDepth 65536 in
set_option maxHeartbeats 4000000 in
theorem own_tlnw (l : Launch) (Z : State) (a0 : Array Value) (hw : Wds Z a0) (n0 : Nat) (a t : Addr) (k : ClassId) (cap : Nat) (xs : List Int32) (h0 : Heap) (B0 : SBw Z h0 a t k cap xs) (cpt : Int32) (S_C : Sta Z Z.heap "java/lang/String" "COMPACT_STRINGS" "Z" (.int cpt)) (hcpt : ¬ cpt = 0) : Con 1 l Z [("com/example/pacerd/pacerd/run/Outcome", 27), ("java/lang/String", 7)] n0 (⟨"java/lang/AbstractStringBuilder", "length", "()I"⟩ : MethodName) jdk_68_method_6_code 1 (some .int) ({ frames := 0, cells := 0, slots := 0, locals := 0 } : Room) #[(.ref a)] [] h0 (fun v h D' => v = some (.int (Int32.ofNat xs.length)) ∧ h0 = h ∧ D' = []) := by
  refine Con.of_runs (ls := #[.val (.ref a)]) (by decide +kernel) (ef rfl rfl) ?_
  obtain ⟨BO, BA, BE, BL, hle, hcap⟩ := id B0
  refine Runs.aloadN i21_0 rfl rfl ?_
  refine Runs.getF i21_1 (host := "") (Or.inl (w72 hw)) Via.refl (BO.fld (i := 2) rfl) ?_
  exact Runs.retI (z := (Int32.ofNat xs.length)) i21_4 rfl (Or.inl rfl) rfl (by decide) (by decide) ⟨rfl, rfl, rfl⟩
set_option maxRecDepth 65536 in
set_option maxHeartbeats 4000000 in
theorem own_tslw (l : Launch) (Z : State) (a0 : Array Value) (hw : Wds Z a0) (n0 : Nat) (a t : Addr) (k : ClassId) (cap : Nat) (xs : List Int32) (h0 : Heap) (B0 : SBw Z h0 a t k cap xs) (cpt : Int32) (S_C : Sta Z Z.heap "java/lang/String" "COMPACT_STRINGS" "Z" (.int cpt)) (hcpt : ¬ cpt = 0) : Con 1 l Z [("com/example/pacerd/pacerd/run/Outcome", 27), ("java/lang/String", 7)] n0 (⟨"java/lang/StringBuilder", "length", "()I"⟩ : MethodName) jdk_67_method_93_code 1 (some .int) ({ frames := 1, cells := 0, slots := 0, locals := 12 } : Room) #[(.ref a)] [] h0 (fun v h D' => v = some (.int (Int32.ofNat xs.length)) ∧ h0 = h ∧ D' = []) := by
  refine Con.of_runs (ls := #[.val (.ref a)]) (by decide +kernel) (ef rfl rfl) ?_
  obtain ⟨BO, BA, BE, BL, hle, hcap⟩ := id B0
  refine Runs.aloadN i20_0 rfl rfl ?_
  refine Runs.callUW (argsL := []) (rest := []) (W := 0) i20_1 (w122 hw) (same_of (w117 hw) (nf_same (notFace_of_selects (w77 hw)) (w75 hw) rfl) (by decide)) (w118 hw) (w58 hw) (w123 hw) (w42 hw) (by decide) BO.1 pd_12 rfl rfl rfl rfl (by decide) (by decide) (by decide) (by decide) all0 (by decide) (own_tlnw l Z a0 hw n0 a t k cap xs _ B0 cpt S_C hcpt) ?_
  intro v h1 D1 q hsz
  obtain ⟨rfl, rfl, rfl⟩ := q
  show Runs 1 l Z [("com/example/pacerd/pacerd/run/Outcome", 27), ("java/lang/String", 7)] n0 _ _ _ _ _ _ _ [] h0 0 0 4 #[.val (.ref a)] [(.int (Int32.ofNat xs.length))]
  exact Runs.retI (z := (Int32.ofNat xs.length)) i20_4 rfl (Or.inl rfl) rfl (by decide) (by decide) ⟨rfl, rfl, rfl⟩
set_option maxRecDepth 65536 in
set_option maxHeartbeats 4000000 in
theorem own_tsaw (l : Launch) (Z : State) (a0 : Array Value) (hw : Wds Z a0) (n0 : Nat) (a t : Addr) (k : ClassId) (cap : Nat) (xs : List Int32) (h0 : Heap) (B0 : SBw Z h0 a t k cap xs) (NS : Nat) (hNS : 2 * xs.length ≤ NS ∧ NS < 1000000) (hful : xs.length < cap) (s : Addr) (gs : n0 ≤ s) (O0 : Obj Z h0 s "java/lang/String" [("java/lang/String", "value", "[B", .null), ("java/lang/String", "coder", "B", (.int (0 : Int32)))]) (cpt : Int32) (S_C : Sta Z Z.heap "java/lang/String" "COMPACT_STRINGS" "Z" (.int cpt)) (hcpt : ¬ cpt = 0) : Con 1 l Z [("com/example/pacerd/pacerd/run/Outcome", 27), ("java/lang/String", 7)] n0 (⟨"java/lang/String", "<init>", "(Ljava/lang/AbstractStringBuilder;Ljava/lang/Void;)V"⟩ : MethodName) jdk_42_method_150_code 5 none ({ frames := 3, cells := 1, slots := NS, locals := 71 } : Room) #[(.ref s), (.ref a), .null] [s] h0 (fun v h D' => v = none ∧ ∃ u k', h0.size ≤ u ∧ Keep h0 h [s] ∧ Stw Z h s u k' xs ∧ Exa Z h u "[B" ∧ D' = []) := by
  refine Con.of_runs (ls := #[.val (.ref s), .val (.ref a), .val .null, .unset, .unset]) (by decide +kernel) (ef rfl rfl) ?_
  obtain ⟨BO, BA, BE, BL, hle, hcap⟩ := id B0
  refine Runs.aloadN i18_0 rfl rfl ?_
  refine Runs.initO (W := 0) i18_1 (w17 hw) (w18 hw) (w19 hw) rfl (by first | decide | (dsimp only; first | decide | omega)) rfl (by first | decide | (dsimp only; first | decide | omega)) ?_
  refine Runs.aloadN i18_4 rfl rfl ?_
  refine Runs.callVW (argsL := []) (rest := []) (W := 0) i18_5 (w111 hw) (w112 hw) (fun s hZ => notFace_of_selects (args := #[]) (mvT hZ (w114 hw))) (w114 hw) (w113 hw) (w115 hw) (w42 hw) (by decide) BO.1 pd_25 rfl rfl rfl rfl (by first | decide | (dsimp only; first | decide | omega)) (by first | decide | (dsimp only; first | decide | omega)) (by first | decide | (dsimp only; first | decide | omega)) (by first | decide | (dsimp only; first | decide | omega)) all0 (by decide) (own_tgvw l Z a0 hw n0 a t k cap xs _ B0 cpt S_C hcpt) ?_
  intro v h1 D1 q hsz
  obtain ⟨rfl, rfl, rfl⟩ := q
  show Runs 1 l Z [("com/example/pacerd/pacerd/run/Outcome", 27), ("java/lang/String", 7)] n0 _ _ _ _ _ _ _ [s] h0 0 0 8 #[.val (.ref s), .val (.ref a), .val .null, .unset, .unset] [(.ref t)]
  refine Runs.astoreN (ls' := #[.val (.ref s), .val (.ref a), .val .null, .val (.ref t), .unset]) i18_8 rfl rfl ?_
  refine Runs.aloadN i18_9 rfl rfl ?_
  refine Runs.callVW (argsL := []) (rest := []) (W := 0) i18_10 (w116 hw) (w117 hw) (fun s hZ => nf_same (notFace_of_selects (args := #[]) (mvT hZ (w77 hw))) (mvT (args := #[]) hZ (w75 hw)) rfl) (w119 hw) (w120 hw) (w121 hw) (w34 hw) (by decide) BO.1 pd_12 rfl rfl rfl rfl (by first | decide | (dsimp only; first | decide | omega)) (by first | decide | (dsimp only; first | decide | omega)) (by first | decide | (dsimp only; first | decide | omega)) (by first | decide | (dsimp only; first | decide | omega)) all0 (by decide) (own_tslw l Z a0 hw n0 a t k cap xs _ B0 cpt S_C hcpt) ?_
  intro v h1 D1 q hsz
  obtain ⟨rfl, rfl, rfl⟩ := q
  show Runs 1 l Z [("com/example/pacerd/pacerd/run/Outcome", 27), ("java/lang/String", 7)] n0 _ _ _ _ _ _ _ [s] h0 0 0 13 #[.val (.ref s), .val (.ref a), .val .null, .val (.ref t), .unset] [(.int (Int32.ofNat xs.length))]
  refine Runs.istore (ls' := #[.val (.ref s), .val (.ref a), .val .null, .val (.ref t), .val (.int (Int32.ofNat xs.length))]) i18_13 rfl ?_
  refine Runs.aloadN i18_15 rfl rfl ?_
  refine Runs.callVW (argsL := []) (rest := []) (W := 0) i18_16 (w124 hw) (w125 hw) (fun s hZ => notFace_of_selects (args := #[]) (mvT hZ (w127 hw))) (w127 hw) (w126 hw) (w128 hw) (w42 hw) (by decide) BO.1 pd_20 rfl rfl rfl rfl (by first | decide | (dsimp only; first | decide | omega)) (by first | decide | (dsimp only; first | decide | omega)) (by first | decide | (dsimp only; first | decide | omega)) (by first | decide | (dsimp only; first | decide | omega)) all0 (by decide) (own_tilw l Z a0 hw n0 a t k cap xs _ B0 cpt S_C hcpt) ?_
  intro v h1 D1 q hsz
  obtain ⟨rfl, rfl, rfl⟩ := q
  show Runs 1 l Z [("com/example/pacerd/pacerd/run/Outcome", 27), ("java/lang/String", 7)] n0 _ _ _ _ _ _ _ [s] h0 0 0 19 #[.val (.ref s), .val (.ref a), .val .null, .val (.ref t), .val (.int (Int32.ofNat xs.length))] [(.int (0 : Int32))]
  refine Runs.ifY (t := 41) i18_19 (by decide) (teq (by decide : (0 : Int32) = (0 : Int32))).1 ?_
  refine Runs.getS i18_41 (w71 hw) Via.refl S_C ?_
  refine Runs.ifN i18_44 (feq hcpt).1 ?_
  refine Runs.aloadN i18_47 rfl rfl ?_
  refine Runs.getF i18_48 (host := "") (Or.inl (w285 hw)) Via.refl (BO.fld (i := 3) rfl) ?_
  refine Runs.ifY (t := 79) i18_51 (by decide) (teq (by decide : (0 : Int32) = (0 : Int32))).1 ?_
  refine Runs.aloadN i18_79 rfl rfl ?_
  refine Runs.iconst (v := (1 : Int32)) i18_80 (by decide) ?_
  refine Runs.putF (i := 1) (ty := .byte) i18_81 (host := "") (Or.inl (w27 hw)) Via.refl O0 rfl (lay_0 hw) rfl (Or.inr ⟨(w23 hw), rfl, rfl⟩) (w8 hw) (by decide) rfl rfl gs (Or.inl (List.mem_of_getElem? (i := 0) rfl)) ?_
  intro h_1 K_2 (O_3 : Obj Z h_1 s "java/lang/String" [("java/lang/String", "value", "[B", .null), ("java/lang/String", "coder", "B", (.int (1 : Int32)))])
  refine Runs.aloadN i18_84 rfl rfl ?_
  refine Runs.aloadN i18_85 rfl rfl ?_
  refine Runs.iconst (v := (0 : Int32)) i18_86 (by decide) ?_
  refine Runs.iload i18_87 rfl ?_
  refine Runs.iconst (v := (1 : Int32)) i18_89 (by decide) ?_
  refine Runs.ishl (z := Int32.ofNat (2 * xs.length)) i18_90 (own_shl1 (by omega)) ?_
  have A_4 := (BA.keep K_2 (ninS (Ne.symm (Exa.neArv O0.1 BA (w8 hw))) nin0))
  refine Runs.callSW (argsL := [(.ref t), (.int (0 : Int32)), (.int (Int32.ofNat (2 * xs.length)))]) (rest := [(.ref s)]) (W := 1) i18_91 (w129 hw) (w130 hw) (w131 hw) (w132 hw) (by decide) pd_24 rfl rfl rfl rfl (by first | decide | (dsimp only; first | decide | omega)) (by first | decide | (dsimp only; first | decide | omega)) (by first | decide | (dsimp only; first | decide | omega)) (by first | decide | (dsimp only; first | decide | omega)) all0 (by decide) (own_cr2 l Z a0 hw n0 t k (2 * cap) (2 * xs.length) NS (own_ws xs) (by simp [own_wsl]) (by omega) (by omega) _ A_4) ?_
  intro v h_11 D1 q hsz
  obtain ⟨b_5, k_6, rfl, g_7, K_8, A_9, E_10, rfl⟩ := q
  show Runs 1 l Z [("com/example/pacerd/pacerd/run/Outcome", 27), ("java/lang/String", 7)] n0 _ _ _ _ _ _ _ [b_5, s] h_11 1 (0 + NS) 94 #[.val (.ref s), .val (.ref a), .val .null, .val (.ref t), .val (.int (Int32.ofNat xs.length))] [(.ref b_5), (.ref s)]
  have O_12 := (O_3.keep K_8 nin0)
  refine Runs.putF (i := 0) (ty := (.array .byte)) i18_94 (host := "") (Or.inl (w26 hw)) Via.refl O_12 rfl (lay_0 hw) rfl (Or.inr ⟨(w22 hw), rfl, rfl⟩) (w8 hw) (by decide) rfl rfl gs (Or.inl (List.mem_of_getElem? (i := 1) rfl)) ?_
  intro h_13 K_14 (O_15 : Obj Z h_13 s "java/lang/String" [("java/lang/String", "value", "[B", (.ref b_5)), ("java/lang/String", "coder", "B", (.int (1 : Int32)))])
  have A_16 := (A_9.keep K_14 (ninS (Nat.ne_of_gt (Nat.lt_of_lt_of_le (Nat.lt_of_lt_of_le O0.lt K_2.1) g_7)) nin0))
  refine Runs.weak (D1 := []) (fun _ q => nomatch q) ?_
  exact Runs.retV i18_97 rfl (by first | decide | (dsimp only; first | decide | omega)) (by first | decide | (dsimp only; first | decide | omega)) ⟨rfl, b_5, k_6, (Nat.le_trans K_2.1 g_7), ((((Keep.refl _ _).trans K_2 (allS (Or.inl (List.mem_of_getElem? (i := 0) rfl)) all0)).trans K_8 all0).trans K_14 (allS (Or.inl (List.mem_of_getElem? (i := 0) rfl)) all0)), ⟨O_15, A_16, BL, by omega⟩, (E_10.keep K_14), rfl⟩
set_option maxRecDepth 65536 in
set_option maxHeartbeats 4000000 in
theorem own_tsbw (l : Launch) (Z : State) (a0 : Array Value) (hw : Wds Z a0) (n0 : Nat) (a t : Addr) (k : ClassId) (cap : Nat) (xs : List Int32) (h0 : Heap) (B0 : SBw Z h0 a t k cap xs) (NS : Nat) (hNS : 2 * xs.length ≤ NS ∧ NS < 1000000) (hful : xs.length < cap) (s : Addr) (gs : n0 ≤ s) (O0 : Obj Z h0 s "java/lang/String" [("java/lang/String", "value", "[B", .null), ("java/lang/String", "coder", "B", (.int (0 : Int32)))]) (cpt : Int32) (S_C : Sta Z Z.heap "java/lang/String" "COMPACT_STRINGS" "Z" (.int cpt)) (hcpt : ¬ cpt = 0) : Con 1 l Z [("com/example/pacerd/pacerd/run/Outcome", 27), ("java/lang/String", 7)] n0 (⟨"java/lang/String", "<init>", "(Ljava/lang/StringBuilder;)V"⟩ : MethodName) jdk_42_method_53_code 2 none ({ frames := 4, cells := 1, slots := NS, locals := 87 } : Room) #[(.ref s), (.ref a)] [s] h0 (fun v h D' => v = none ∧ ∃ u k', h0.size ≤ u ∧ Keep h0 h [s] ∧ Stw Z h s u k' xs ∧ Exa Z h u "[B" ∧ D' = []) := by
  refine Con.of_runs (ls := #[.val (.ref s), .val (.ref a)]) (by decide +kernel) (ef rfl rfl) ?_
  refine Runs.aloadN i17_0 rfl rfl ?_
  refine Runs.aloadN i17_1 rfl rfl ?_
  refine Runs.aconstNull i17_2 ?_
  refine Runs.callCW (argsL := [(.ref a), .null]) (rest := []) (W := 0) i17_3 rfl (w108 hw) (w109 hw) (w110 hw) (w9 hw) (by decide) pd_26 rfl rfl rfl rfl (by first | decide | (dsimp only; first | decide | omega)) (by first | decide | (dsimp only; first | decide | omega)) (by first | decide | (dsimp only; first | decide | omega)) (by first | decide | (dsimp only; first | decide | omega)) (allS (List.mem_of_getElem? (i := 0) rfl) all0) (by decide) (own_tsaw l Z a0 hw n0 a t k cap xs _ B0 NS hNS hful s gs O0 cpt S_C hcpt) ?_
  intro v h1 D1 q hsz
  obtain ⟨rfl, u1, k1, g1, K1, S1, E1, rfl⟩ := q
  show Runs 1 l Z [("com/example/pacerd/pacerd/run/Outcome", 27), ("java/lang/String", 7)] n0 _ _ _ _ _ _ _ [s] h1 1 (0 + NS) 6 #[.val (.ref s), .val (.ref a)] []
  refine Runs.weak (D1 := []) (fun _ q => nomatch q) ?_
  exact Runs.retV i17_6 rfl (by first | decide | (dsimp only; first | decide | omega)) (by first | decide | (dsimp only; first | decide | omega)) ⟨rfl, u1, k1, g1, K1, S1, E1, rfl⟩
set_option maxRecDepth 65536 in
set_option maxHeartbeats 4000000 in
theorem own_tsw (l : Launch) (Z : State) (a0 : Array Value) (hw : Wds Z a0) (n0 : Nat) (a t : Addr) (k : ClassId) (cap : Nat) (xs : List Int32) (h0 : Heap) (B0 : SBw Z h0 a t k cap xs) (NS : Nat) (hNS : 2 * xs.length ≤ NS ∧ NS < 1000000) (hful : xs.length < cap) (cpt : Int32) (S_C : Sta Z Z.heap "java/lang/String" "COMPACT_STRINGS" "Z" (.int cpt)) (hcpt : ¬ cpt = 0) : Con 1 l Z [("com/example/pacerd/pacerd/run/Outcome", 27), ("java/lang/String", 7)] n0 (⟨"java/lang/StringBuilder", "toString", "()Ljava/lang/String;"⟩ : MethodName) jdk_67_method_42_code 1 (some (.object "java/lang/String")) ({ frames := 5, cells := 2, slots := (4 + NS), locals := 101 } : Room) #[(.ref a)] [] h0 (fun v h D' => ∃ b u k', v = some (.ref b) ∧ h0.size ≤ b ∧ h0.size ≤ u ∧ Keep h0 h [] ∧ Stw Z h b u k' xs ∧ Exa Z h u "[B" ∧ D' = []) := by
  refine Con.of_runs (ls := #[.val (.ref a)]) (by decide +kernel) (ef rfl rfl) ?_
  obtain ⟨BO, BA, BE, BL, hle, hcap⟩ := id B0
  refine Runs.newO i16_0 (w104 hw) (w8 hw) (w9 hw) (lay_0 hw) (by first | decide | (dsimp only; first | decide | omega)) (by first | decide | (dsimp only; first | decide | omega)) ?_
  intro h_1 b_2 g_5 ge_6 K_3 (O_4 : Obj Z h_1 b_2 "java/lang/String" [("java/lang/String", "value", "[B", .null), ("java/lang/String", "coder", "B", (.int (0 : Int32)))]) U_7
  refine Runs.dup i16_3 rfl ?_
  refine Runs.aloadN i16_4 rfl rfl ?_
  have B_8 : SBw Z h_1 a t k cap xs := ⟨BO.keep K_3 nin0, BA.keep K_3 nin0, BE.keep K_3, BL, hle, hcap⟩
  refine Runs.callCW (argsL := [(.ref a)]) (rest := [(.ref b_2)]) (W := 1) i16_5 rfl (w105 hw) (w106 hw) (w107 hw) (w9 hw) (by decide) pd_27 rfl rfl rfl rfl (by first | decide | (dsimp only; first | decide | omega)) (by first | decide | (dsimp only; first | decide | omega)) (by first | decide | (dsimp only; first | decide | omega)) (by first | decide | (dsimp only; first | decide | omega)) (allS (List.mem_of_getElem? (i := 0) rfl) all0) (by decide) (own_tsbw l Z a0 hw n0 a t k cap xs _ B_8 NS hNS hful b_2 ge_6 O_4 cpt S_C hcpt) ?_
  intro v h1 D1 q hsz
  obtain ⟨rfl, u1, k1, g1, K1, S1, E1, rfl⟩ := q
  show Runs 1 l Z [("com/example/pacerd/pacerd/run/Outcome", 27), ("java/lang/String", 7)] n0 _ _ _ _ _ _ _ [b_2] h1 2 (4 + NS) 8 #[.val (.ref a)] [(.ref b_2)]
  refine Runs.weak (D1 := []) (fun _ q => nomatch q) ?_
  exact Runs.retA i16_8 rfl rfl rfl (by first | decide | (dsimp only; first | decide | omega)) (by first | decide | (dsimp only; first | decide | omega)) ⟨b_2, u1, k1, rfl, g_5, (Nat.le_trans K_3.1 g1), (((Keep.refl _ _).trans K_3 all0).trans K1 (allS (Or.inr (Nat.le_trans (Nat.le_refl _) g_5)) all0)), S1, E1, rfl⟩
set_option maxRecDepth 65536 in
set_option maxHeartbeats 4000000 in
theorem own_cpo_l (l : Launch) (Z : State) (a0 : Array Value) (hw : Wds Z a0) (n0 : Nat) (u : Addr) (ku : ClassId) (cs : List Int32) (hcs : cs.length < 1000000) (h0 : Heap) (U0 : Arv Z h0 u ku .byte (Int32.ofNat cs.length) (cs.map own_b) (.int 0)) (d : Nat) : ∀ (i : Nat), d + i = cs.length → (∀ j, j < i → ¬ own_8 (cs.getD j 0) < 0) → Runs 1 l Z [("com/example/pacerd/pacerd/run/Outcome", 27), ("java/lang/String", 7)] n0 "java/lang/StringCoding" "countPositives" jdk_123_method_3_code 5 (some .int) ({ frames := 0, cells := 0, slots := 0, locals := 0 } : Room) (fun v h D' => ∃ j : Nat, v = some (.int (Int32.ofNat j)) ∧ j ≤ cs.length ∧ (∀ i, i < j → ¬ own_8 (cs.getD i 0) < 0) ∧ (j < cs.length → own_8 (cs.getD j 0) < 0) ∧ h0 = h ∧ D' = []) [] h0 0 0 7 #[.val (.ref u), .val (.int (0 : Int32)), .val (.int (Int32.ofNat cs.length)), .val (.int (Int32.ofNat cs.length)), .val (.int (Int32.ofNat i))] [] := by
  induction d with
  | zero =>
    intro i hd hp
    refine Runs.iload i31_7 rfl ?_
    refine Runs.iloadN i31_9 rfl ?_
    refine Runs.icY (t := 31) i31_10 (by decide) (flt (own_nlt (by omega) (by omega))).2.1 ?_
    refine Runs.iloadN i31_31 rfl ?_
    exact Runs.retI (z := Int32.ofNat cs.length) i31_32 rfl (Or.inl rfl) rfl (by decide) (by decide) ⟨cs.length, rfl, Nat.le_refl _, fun j hj => hp j (by omega), fun q => absurd q (Nat.lt_irrefl _), rfl, rfl⟩
  | succ d ih =>
    intro i hd hp
    refine Runs.iload i31_7 rfl ?_
    refine Runs.iloadN i31_9 rfl ?_
    refine Runs.icN i31_10 (tlt (own_lt (by omega) (by omega))).2.1 ?_
    refine Runs.aloadN i31_13 rfl rfl ?_
    refine Runs.iload i31_14 rfl ?_
    refine Runs.baload (v := .int (own_8 (cs.getD i 0))) i31_16 U0 ⟨own_nn (by omega), own_lt (by omega) (by omega)⟩ (by rw [own_cl (by omega)]; exact own_get8 _ _) ?_
    by_cases hc17 : (own_8 (cs.getD i 0)) < (0 : Int32)
    · refine Runs.ifN i31_17 (tlt hc17).2.1 ?_
      refine Runs.iload i31_20 rfl ?_
      refine Runs.iloadN i31_22 rfl ?_
      refine Runs.isub (z := Int32.ofNat i) i31_23 (own_sub (a := i) (b := 0) (by omega) (by omega)) ?_
      exact Runs.retI (z := Int32.ofNat i) i31_24 rfl (Or.inl rfl) rfl (by decide) (by decide) ⟨i, rfl, by omega, hp, fun _ => hc17, rfl, rfl⟩
    · refine Runs.ifY (t := 25) i31_17 (by decide) (flt hc17).2.1 ?_
      refine Runs.iinc (z := (Int32.ofNat (i + 1))) (ls' := #[.val (.ref u), .val (.int (0 : Int32)), .val (.int (Int32.ofNat cs.length)), .val (.int (Int32.ofNat cs.length)), .val (.int (Int32.ofNat (i + 1)))]) i31_25 rfl (own_add (a := i) (b := 1) (by omega)) rfl ?_
      refine Runs.goto (t := 7) i31_28 (by decide) ?_
      exact ih (i + 1) (by omega) (fun j hj => by rcases Nat.lt_or_ge j i with q | q; exact hp j q; rw [show j = i by omega]; exact hc17)
set_option maxRecDepth 65536 in
set_option maxHeartbeats 4000000 in
theorem own_ctp (l : Launch) (Z : State) (a0 : Array Value) (hw : Wds Z a0) (n0 : Nat) (u : Addr) (ku : ClassId) (cs : List Int32) (hcs : cs.length < 1000000) (h0 : Heap) (U0 : Arv Z h0 u ku .byte (Int32.ofNat cs.length) (cs.map own_b) (.int 0)) : Con 1 l Z [("com/example/pacerd/pacerd/run/Outcome", 27), ("java/lang/String", 7)] n0 (⟨"java/lang/StringCoding", "countPositives", "([BII)I"⟩ : MethodName) jdk_123_method_3_code 5 (some .int) ({ frames := 0, cells := 0, slots := 0, locals := 0 } : Room) #[(.ref u), (.int (0 : Int32)), (.int (Int32.ofNat cs.length))] [] h0 (fun v h D' => ∃ j : Nat, v = some (.int (Int32.ofNat j)) ∧ j ≤ cs.length ∧ (∀ i, i < j → ¬ own_8 (cs.getD i 0) < 0) ∧ (j < cs.length → own_8 (cs.getD j 0) < 0) ∧ h0 = h ∧ D' = []) := by
  refine Con.of_runs (ls := #[.val (.ref u), .val (.int (0 : Int32)), .val (.int (Int32.ofNat cs.length)), .unset, .unset]) (by decide +kernel) (ef rfl rfl) ?_
  refine Runs.iloadN i31_0 rfl ?_
  refine Runs.iloadN i31_1 rfl ?_
  refine Runs.iadd (z := Int32.ofNat cs.length) i31_2 (by rw [show (0 : Int32) = Int32.ofNat 0 from rfl, own_add (by omega), Nat.zero_add]) ?_
  refine Runs.istoreN (ls' := #[.val (.ref u), .val (.int (0 : Int32)), .val (.int (Int32.ofNat cs.length)), .val (.int (Int32.ofNat cs.length)), .unset]) i31_3 rfl ?_
  refine Runs.iloadN i31_4 rfl ?_
  refine Runs.istore (ls' := #[.val (.ref u), .val (.int (0 : Int32)), .val (.int (Int32.ofNat cs.length)), .val (.int (Int32.ofNat cs.length)), .val (.int (0 : Int32))]) i31_5 rfl ?_
  exact own_cpo_l l Z a0 hw n0 u ku cs hcs h0 U0 cs.length 0 (by omega) (fun _ q => absurd q (Nat.not_lt_zero _))
set_option maxRecDepth 65536 in
set_option maxHeartbeats 4000000 in
theorem own_hng (l : Launch) (Z : State) (a0 : Array Value) (hw : Wds Z a0) (n0 : Nat) (u : Addr) (ku : ClassId) (cs : List Int32) (hcs : cs.length < 1000000) (h0 : Heap) (U0 : Arv Z h0 u ku .byte (Int32.ofNat cs.length) (cs.map own_b) (.int 0)) : Con 1 l Z [("com/example/pacerd/pacerd/run/Outcome", 27), ("java/lang/String", 7)] n0 (⟨"java/lang/StringCoding", "hasNegatives", "([BII)Z"⟩ : MethodName) jdk_123_method_2_code 3 (some .boolean) ({ frames := 1, cells := 0, slots := 0, locals := 16 } : Room) #[(.ref u), (.int (0 : Int32)), (.int (Int32.ofNat cs.length))] [] h0 (fun v h D' => ((v = some (.int 0) ∧ ∀ i, i < cs.length → ¬ own_8 (cs.getD i 0) < 0) ∨ v = some (.int 1)) ∧ h0 = h ∧ D' = []) := by
  refine Con.of_runs (ls := #[.val (.ref u), .val (.int (0 : Int32)), .val (.int (Int32.ofNat cs.length))]) (by decide +kernel) (ef rfl rfl) ?_
  refine Runs.aloadN i30_0 rfl rfl ?_
  refine Runs.iloadN i30_1 rfl ?_
  refine Runs.iloadN i30_2 rfl ?_
  refine Runs.callSW (argsL := [(.ref u), (.int (0 : Int32)), (.int (Int32.ofNat cs.length))]) (rest := []) (W := 0) i30_3 (w163 hw) (w164 hw) (w161 hw) (w165 hw) (by decide) pd_28 rfl rfl rfl rfl (by decide) (by decide) (by decide) (by decide) all0 (by decide) (own_ctp l Z a0 hw n0 u ku cs hcs _ U0) ?_
  intro v h1 D1 q hsz
  obtain ⟨j, rfl, hj1, hj2, hj3, rfl, rfl⟩ := q
  show Runs 1 l Z [("com/example/pacerd/pacerd/run/Outcome", 27), ("java/lang/String", 7)] n0 _ _ _ _ _ _ _ [] h0 0 0 6 #[.val (.ref u), .val (.int (0 : Int32)), .val (.int (Int32.ofNat cs.length))] [(.int (Int32.ofNat j))]
  refine Runs.iloadN i30_6 rfl ?_
  by_cases hc7 : (Int32.ofNat j) = (Int32.ofNat cs.length)
  · refine Runs.icY (t := 14) i30_7 (by decide) (teq hc7).1 ?_
    refine Runs.iconst (v := (0 : Int32)) i30_14 (by decide) ?_
    have ej : j = cs.length := (own_inj (by omega) (by omega)).mp hc7
    exact Runs.retI (z := (0 : Int32)) i30_15 rfl (Or.inr (Or.inl rfl)) (by decide) (by decide) (by decide) ⟨Or.inl ⟨rfl, fun i hi => hj2 i (by omega)⟩, rfl, rfl⟩
  · refine Runs.icN i30_7 (feq hc7).1 ?_
    refine Runs.iconst (v := (1 : Int32)) i30_10 (by decide) ?_
    refine Runs.goto (t := 15) i30_11 (by decide) ?_
    exact Runs.retI (z := (1 : Int32)) i30_15 rfl (Or.inr (Or.inl rfl)) (by decide) (by decide) (by decide) ⟨Or.inr rfl, rfl, rfl⟩
set_option maxRecDepth 65536 in
set_option maxHeartbeats 4000000 in
theorem own_cps (l : Launch) (Z : State) (a0 : Array Value) (hw : Wds Z a0) (n0 : Nat) (t : Addr) (k : ClassId) (c n NS : Nat) (vs : List Value) (hv : vs.length ≤ n) (hn : n < c ∧ c < 10000000) (hNS : n ≤ NS ∧ NS < 1000000) (h0 : Heap) (T0 : Arv Z h0 t k .byte (Int32.ofNat c) vs (.int 0)) : Con 1 l Z [("com/example/pacerd/pacerd/run/Outcome", 27), ("java/lang/String", 7)] n0 (⟨"java/util/Arrays", "copyOf", "([BI)[B"⟩ : MethodName) jdk_65_method_121_code 3 (some (.array .byte)) ({ frames := 1, cells := 1, slots := NS, locals := 40 } : Room) #[(.ref t), (.int (Int32.ofNat n))] [] h0 (fun v h D' => ∃ b k', v = some (.ref b) ∧ h0.size ≤ b ∧ Keep h0 h [] ∧ Arv Z h b k' .byte (Int32.ofNat n) vs (.int 0) ∧ Exa Z h b "[B" ∧ D' = [b]) := by
  refine Con.of_runs (ls := #[.val (.ref t), .val (.int (Int32.ofNat n)), .unset]) (by decide +kernel) (ef rfl rfl) ?_
  refine Runs.iloadN i45_0 rfl ?_
  refine Runs.aloadN i45_1 rfl rfl ?_
  refine Runs.arrlen i45_2 T0 ?_
  refine Runs.icY (t := 14) i45_3 (by decide) (feq (fun q => absurd ((own_inj (a := n) (b := c) (by omega) (by omega)).mp q) (by omega))).2 ?_
  refine Runs.iloadN i45_14 rfl ?_
  refine Runs.newP (cap := NS) (ad := "[B") i45_15 (w21 hw) (own_nn (n := n) (by omega)) (by rw [own_cl (n := n) (by omega)]; omega) (by omega) (by first | decide | (dsimp only; first | decide | omega)) (by first | decide | (dsimp only; first | decide | omega)) rfl ?_
  intro h_1 b_2 k_3 g_6 ge_7 K_4 (A_5 : Arv Z h_1 b_2 k_3 .byte (Int32.ofNat n) ([]) (.int 0)) E_8
  refine Runs.astoreN (ls' := #[.val (.ref t), .val (.int (Int32.ofNat n)), .val (.ref b_2)]) i45_17 rfl rfl ?_
  refine Runs.aloadN i45_18 rfl rfl ?_
  refine Runs.iconst (v := (0 : Int32)) i45_19 (by decide) ?_
  refine Runs.aloadN i45_20 rfl rfl ?_
  refine Runs.iconst (v := (0 : Int32)) i45_21 (by decide) ?_
  refine Runs.aloadN i45_22 rfl rfl ?_
  have A_9 := (T0.keep K_4 nin0)
  refine Runs.arrlen i45_23 A_9 ?_
  refine Runs.iloadN i45_24 rfl ?_
  refine Runs.callSW (argsL := [(.int (Int32.ofNat c)), (.int (Int32.ofNat n))]) (rest := [(.int (0 : Int32)), (.ref b_2), (.int (0 : Int32)), (.ref t)]) (W := 4) i45_25 (w139 hw) (w140 hw) (w141 hw) (w142 hw) (by decide) pd_23 rfl rfl rfl rfl (by first | decide | (dsimp only; first | decide | omega)) (by first | decide | (dsimp only; first | decide | omega)) (by first | decide | (dsimp only; first | decide | omega)) (by first | decide | (dsimp only; first | decide | omega)) all0 (by decide) (own_min l Z a0 hw n0 c n (by omega) (by omega) _) ?_
  rw [show min c n = n by omega]
  intro v h1 D1 q hsz
  obtain ⟨rfl, rfl, rfl⟩ := q
  show Runs 1 l Z [("com/example/pacerd/pacerd/run/Outcome", 27), ("java/lang/String", 7)] n0 _ _ _ _ _ _ _ [b_2] h_1 1 (0 + NS) 28 #[.val (.ref t), .val (.int (Int32.ofNat n)), .val (.ref b_2)] [(.int (Int32.ofNat n)), (.int (0 : Int32)), (.ref b_2), (.int (0 : Int32)), (.ref t)]
  have A_10 : Arv Z h_1 b_2 k_3 .byte (Int32.ofNat n) (List.replicate n (.int 0)) (.int 0) := A_5.pad (pad_rep [] (.int 0) n)
  refine Runs.acopy (W := 0) (us := ((List.range n).map fun i => vs.getD (0 + i) (.int 0))) i45_28 (w143 hw) (w98 hw) (w96 hw) (w97 hw) A_9 A_10 rfl (by decide) (by decide) (own_nn (by omega)) (by rw [own_cl (n := n) (by omega), own_cl (n := c) (by omega)]; show 0 + n ≤ c; omega) (by rw [own_cl (n := n) (by omega)]; show 0 + n ≤ n; omega) (by rw [own_cl (n := n) (by omega)]; rfl) (by rw [own_cl (n := n) (by omega)]; show 0 + n ≤ _; rw [List.length_replicate]; omega) ge_7 (Or.inl (List.mem_of_getElem? (i := 0) rfl)) rfl (by first | decide | (dsimp only; first | decide | omega)) rfl (by first | decide | (dsimp only; first | decide | omega)) ?_
  intro h_11 K_12 A_13
  have A_14 : Arv Z h_11 b_2 k_3 .byte (Int32.ofNat n) vs (.int 0) := A_13.pad (fun i => by rw [own_cl (n := n) (by omega)]; exact (own_copy vs (.int 0) n n hv (Nat.le_refl _) i).symm)
  refine Runs.aloadN i45_31 rfl rfl ?_
  exact Runs.retA i45_32 rfl rfl rfl (by first | decide | (dsimp only; first | decide | omega)) (by first | decide | (dsimp only; first | decide | omega)) ⟨b_2, k_3, rfl, g_6, (((Keep.refl _ _).trans K_4 all0).trans K_12 (allS (Or.inr (Nat.le_trans (Nat.le_refl _) g_6)) all0)), A_14, (E_8.keep K_12), rfl⟩
set_option maxRecDepth 65536 in
set_option maxHeartbeats 4000000 in
theorem own_el1 (l : Launch) (Z : State) (a0 : Array Value) (hw : Wds Z a0) (n0 : Nat) (u : Addr) (ku : ClassId) (cs : List Int32) (NS : Nat) (hcs : cs.length < 100000) (hNS : 3 * cs.length ≤ NS ∧ NS < 1000000) (hL : Lat cs) (hlt : (own_e8 cs).length < 2 * cs.length) (h0 : Heap) (U0 : Arv Z h0 u ku .byte (Int32.ofNat cs.length) (cs.map own_b) (.int 0)) (E0 : Exa Z h0 u "[B") (hn0 : n0 ≤ h0.size) (t : Addr) (k : ClassId) (gt : h0.size ≤ t) (ge : n0 ≤ t) (d : Nat) : ∀ (i : Nat) (h : Heap) (sl : Slot), (sl = .unset ∨ ∃ x : Int32, sl = .val (.int x)) → d + i = cs.length → Keep h0 h [] → Arv Z h t k .byte (Int32.ofNat (2 * cs.length)) ((own_e8 (cs.take i)).map Value.int) (.int 0) → Runs 1 l Z [("com/example/pacerd/pacerd/run/Outcome", 27), ("java/lang/String", 7)] n0 "java/lang/String" "encodeUTF8" jdk_42_method_46_code 9 (some (.array .byte)) ({ frames := 2, cells := 2, slots := (NS + NS), locals := 54 } : Room) (fun v h D' => ∃ b k, v = some (.ref b) ∧ h0.size ≤ b ∧ Keep h0 h [] ∧ Arv Z h b k .byte (Int32.ofNat (own_e8 cs).length) ((own_e8 cs).map Value.int) (.int 0) ∧ D' = [b]) [t] h 1 (0 + NS) 49 #[.val (.int (0 : Int32)), .val (.ref u), .val (.int (1 : Int32)), .val (.int (Int32.ofNat (own_e8 (cs.take i)).length)), .val (.ref t), .val (.ref u), .val (.int (Int32.ofNat cs.length)), .val (.int (Int32.ofNat i)), sl] [] := by
  induction d with
  | zero =>
    intro i h sl hsl hd K T
    refine Runs.iload i29_49 rfl ?_
    refine Runs.iload i29_51 rfl ?_
    refine Runs.icY (t := 124) i29_53 (by decide) (flt (own_nlt (a := i) (b := cs.length) (by omega) (by omega))).2.1 ?_
    rw [List.take_of_length_le (by omega)] at T
    rw [show cs.take i = cs from List.take_of_length_le (by omega)]
    show Runs 1 l Z [("com/example/pacerd/pacerd/run/Outcome", 27), ("java/lang/String", 7)] n0 _ _ _ _ _ _ _ [t] h 1 (0 + NS) 124 #[.val (.int (0 : Int32)), .val (.ref u), .val (.int (1 : Int32)), .val (.int (Int32.ofNat (own_e8 cs).length)), .val (.ref t), .val (.ref u), .val (.int (Int32.ofNat cs.length)), .val (.int (Int32.ofNat i)), sl] []
    refine Runs.iloadN i29_124 rfl ?_
    refine Runs.aload i29_125 rfl rfl ?_
    refine Runs.arrlen i29_127 T ?_
    refine Runs.icY (t := 134) i29_128 (by decide) (feq (fun q => absurd ((own_inj (a := (own_e8 cs).length) (b := 2 * cs.length) (by omega) (by omega)).mp q) (by omega))).2 ?_
    refine Runs.aload i29_134 rfl rfl ?_
    refine Runs.iloadN i29_136 rfl ?_
    refine Runs.callSW (argsL := [(.ref t), (.int (Int32.ofNat (own_e8 cs).length))]) (rest := []) (W := 0) i29_137 (w241 hw) (w242 hw) (w131 hw) (w243 hw) (by decide) pd_29 rfl rfl rfl rfl (by first | decide | (dsimp only; first | decide | omega)) (by first | decide | (dsimp only; first | decide | omega)) (by first | decide | (dsimp only; first | decide | omega)) (by first | decide | (dsimp only; first | decide | omega)) all0 (by decide) (own_cps l Z a0 hw n0 t k (2 * cs.length) (own_e8 cs).length NS ((own_e8 cs).map Value.int) (by rw [List.length_map]; omega) (by omega) (by omega) _ T) ?_
    intro v h_7 D1 q hsz
    obtain ⟨b_1, k_2, rfl, g_3, K_4, A_5, E_6, rfl⟩ := q
    show Runs 1 l Z [("com/example/pacerd/pacerd/run/Outcome", 27), ("java/lang/String", 7)] n0 _ _ _ _ _ _ _ [b_1, t] h_7 2 ((0 + NS) + NS) 140 #[.val (.int (0 : Int32)), .val (.ref u), .val (.int (1 : Int32)), .val (.int (Int32.ofNat (own_e8 cs).length)), .val (.ref t), .val (.ref u), .val (.int (Int32.ofNat cs.length)), .val (.int (Int32.ofNat i)), sl] [(.ref b_1)]
    refine Runs.weak (D1 := [b_1]) (by simp) ?_
    exact Runs.retA i29_140 rfl rfl rfl (by first | decide | (dsimp only; first | decide | omega)) (by first | decide | (dsimp only; first | decide | omega)) ⟨b_1, k_2, rfl, Nat.le_trans K.1 g_3, K.trans K_4 all0, A_5, rfl⟩
  | succ d ih =>
    intro i h sl hsl hd K T
    rcases hsl with rfl | ⟨cx, rfl⟩
    all_goals
      have hel := own_e8L (cs := cs.take i) (fun c hc => hL c (List.mem_of_mem_take hc))
      rw [own_tkl (by omega)] at hel
      refine Runs.iload i29_49 rfl ?_
      refine Runs.iload i29_51 rfl ?_
      refine Runs.icN i29_53 (tlt (own_lt (a := i) (b := cs.length) (by omega) (by omega))).2.1 ?_
      refine Runs.aload i29_56 rfl rfl ?_
      refine Runs.iload i29_58 rfl ?_
      refine Runs.baload (v := .int (own_8 (cs.getD i 0))) i29_60 (U0.keep K nin0) ⟨own_nn (by omega), own_lt (by omega) (by omega)⟩ (by rw [own_cl (by omega)]; exact own_get8 _ _) ?_
      refine Runs.istore (ls' := #[.val (.int (0 : Int32)), .val (.ref u), .val (.int (1 : Int32)), .val (.int (Int32.ofNat (own_e8 (cs.take i)).length)), .val (.ref t), .val (.ref u), .val (.int (Int32.ofNat cs.length)), .val (.int (Int32.ofNat i)), .val (.int (own_8 (cs.getD i 0)))]) i29_61 rfl ?_
      refine Runs.iload i29_63 rfl ?_
      by_cases hc65 : (own_8 (cs.getD i 0)) < (0 : Int32)
      · refine Runs.ifN i29_65 (tlt hc65).2.1 ?_
        refine Runs.aload i29_68 rfl rfl ?_
        refine Runs.iloadN i29_70 rfl ?_
        refine Runs.iinc (z := (Int32.ofNat ((own_e8 (cs.take i)).length + 1))) (ls' := #[.val (.int (0 : Int32)), .val (.ref u), .val (.int (1 : Int32)), .val (.int (Int32.ofNat ((own_e8 (cs.take i)).length + 1))), .val (.ref t), .val (.ref u), .val (.int (Int32.ofNat cs.length)), .val (.int (Int32.ofNat i)), .val (.int (own_8 (cs.getD i 0)))]) i29_71 rfl (own_add (a := (own_e8 (cs.take i)).length) (b := 1) (by omega)) rfl ?_
        refine Runs.sipush (v := (192 : Int32)) i29_74 (by decide) ?_
        refine Runs.iload i29_77 rfl ?_
        refine Runs.sipush (v := (255 : Int32)) i29_79 (by decide) ?_
        refine Runs.iand (z := (cs.getD i 0)) i29_82 (own_b255 (own_latg hL (by omega))) ?_
        refine Runs.bipush (v := (6 : Int32)) i29_83 (by decide) ?_
        refine Runs.ishr (z := ((cs.getD i 0) >>> ((6 : Int32) &&& 31))) i29_85 rfl ?_
        refine Runs.ior (z := ((192 : Int32) ||| ((cs.getD i 0) >>> ((6 : Int32) &&& 31)))) i29_86 rfl ?_
        refine Runs.i2b (z := (own_8 ((192 : Int32) ||| ((cs.getD i 0) >>> ((6 : Int32) &&& 31))))) i29_87 rfl ?_
        refine own_bapp (y := (own_8 ((192 : Int32) ||| ((cs.getD i 0) >>> ((6 : Int32) &&& 31))))) (L := (own_e8 (cs.take i))) (c := (2 * cs.length)) (j := (own_e8 (cs.take i)).length) i29_88 T (by first | rfl | (simp only [List.length_append, List.length_cons, List.length_nil, Nat.zero_add]; first | done | omega)) (by (try simp only [List.length_append, List.length_cons, List.length_nil, Nat.zero_add]); first | done | omega) (by omega) (own_88 _) ge (List.mem_of_getElem? (i := 0) rfl) ?_
        intro h_1 K_2 (A_3 : Arv Z h_1 t k .byte (Int32.ofNat (2 * cs.length)) (((own_e8 (cs.take i)) ++ [(own_8 ((192 : Int32) ||| ((cs.getD i 0) >>> ((6 : Int32) &&& 31))))]).map Value.int) (.int 0))
        refine Runs.aload i29_89 rfl rfl ?_
        refine Runs.iloadN i29_91 rfl ?_
        refine Runs.iinc (z := (Int32.ofNat (((own_e8 (cs.take i)).length + 1) + 1))) (ls' := #[.val (.int (0 : Int32)), .val (.ref u), .val (.int (1 : Int32)), .val (.int (Int32.ofNat (((own_e8 (cs.take i)).length + 1) + 1))), .val (.ref t), .val (.ref u), .val (.int (Int32.ofNat cs.length)), .val (.int (Int32.ofNat i)), .val (.int (own_8 (cs.getD i 0)))]) i29_92 rfl (own_add (a := ((own_e8 (cs.take i)).length + 1)) (b := 1) (by omega)) rfl ?_
        refine Runs.sipush (v := (128 : Int32)) i29_95 (by decide) ?_
        refine Runs.iload i29_98 rfl ?_
        refine Runs.bipush (v := (63 : Int32)) i29_100 (by decide) ?_
        refine Runs.iand (z := ((cs.getD i 0) &&& (63 : Int32))) i29_102 (own_8and63 _) ?_
        refine Runs.ior (z := ((128 : Int32) ||| ((cs.getD i 0) &&& (63 : Int32)))) i29_103 rfl ?_
        refine Runs.i2b (z := (own_8 ((128 : Int32) ||| ((cs.getD i 0) &&& (63 : Int32))))) i29_104 rfl ?_
        refine own_bapp (y := (own_8 ((128 : Int32) ||| ((cs.getD i 0) &&& (63 : Int32))))) (L := ((own_e8 (cs.take i)) ++ [(own_8 ((192 : Int32) ||| ((cs.getD i 0) >>> ((6 : Int32) &&& 31))))])) (c := (2 * cs.length)) (j := ((own_e8 (cs.take i)).length + 1)) i29_105 A_3 (by first | rfl | (simp only [List.length_append, List.length_cons, List.length_nil, Nat.zero_add]; first | done | omega)) (by (try simp only [List.length_append, List.length_cons, List.length_nil, Nat.zero_add]); first | done | omega) (by omega) (own_88 _) ge (List.mem_of_getElem? (i := 0) rfl) ?_
        intro h_4 K_5 (A_6 : Arv Z h_4 t k .byte (Int32.ofNat (2 * cs.length)) ((((own_e8 (cs.take i)) ++ [(own_8 ((192 : Int32) ||| ((cs.getD i 0) >>> ((6 : Int32) &&& 31))))]) ++ [(own_8 ((128 : Int32) ||| ((cs.getD i 0) &&& (63 : Int32))))]).map Value.int) (.int 0))
        refine Runs.goto (t := 118) i29_106 (by decide) ?_
        refine Runs.iinc (z := (Int32.ofNat (i + 1))) (ls' := #[.val (.int (0 : Int32)), .val (.ref u), .val (.int (1 : Int32)), .val (.int (Int32.ofNat (((own_e8 (cs.take i)).length + 1) + 1))), .val (.ref t), .val (.ref u), .val (.int (Int32.ofNat cs.length)), .val (.int (Int32.ofNat (i + 1))), .val (.int (own_8 (cs.getD i 0)))]) i29_118 rfl (own_add (a := i) (b := 1) (by omega)) rfl ?_
        refine Runs.goto (t := 49) i29_121 (by decide) ?_
        have hc := own_neg8 (own_latg hL (show i < cs.length by omega))
        have e : own_e8 (cs.take (i + 1)) = (((own_e8 (cs.take i)) ++ [(own_8 ((192 : Int32) ||| ((cs.getD i 0) >>> ((6 : Int32) &&& 31))))]) ++ [(own_8 ((128 : Int32) ||| ((cs.getD i 0) &&& (63 : Int32))))]) := by rw [own_e8s (by omega), own_enc2 (hc.mp hc65) (own_lat2048 (own_latg hL (by omega)))]; first | done | simp only [List.append_assoc, List.cons_append, List.nil_append]
        have T_7 : Arv Z h_4 t k .byte (Int32.ofNat (2 * cs.length)) ((own_e8 (cs.take (i + 1))).map Value.int) (.int 0) := by rw [e]; exact A_6
        have el : (own_e8 (cs.take (i + 1))).length = (((own_e8 (cs.take i)).length + 1) + 1) := (by (try rw [e]); (try simp only [List.length_append, List.length_cons, List.length_nil, Nat.zero_add]); first | done | omega)
        rw [← el]
        exact ih (i + 1) _ (.val (.int (own_8 (cs.getD i 0)))) (Or.inr ⟨_, rfl⟩) (by omega) ((K.trans K_2 (allS (Or.inr gt) all0)).trans K_5 (allS (Or.inr gt) all0)) T_7
      · refine Runs.ifY (t := 109) i29_65 (by decide) (flt hc65).2.1 ?_
        refine Runs.aload i29_109 rfl rfl ?_
        refine Runs.iloadN i29_111 rfl ?_
        refine Runs.iinc (z := (Int32.ofNat ((own_e8 (cs.take i)).length + 1))) (ls' := #[.val (.int (0 : Int32)), .val (.ref u), .val (.int (1 : Int32)), .val (.int (Int32.ofNat ((own_e8 (cs.take i)).length + 1))), .val (.ref t), .val (.ref u), .val (.int (Int32.ofNat cs.length)), .val (.int (Int32.ofNat i)), .val (.int (own_8 (cs.getD i 0)))]) i29_112 rfl (own_add (a := (own_e8 (cs.take i)).length) (b := 1) (by omega)) rfl ?_
        refine Runs.iload i29_115 rfl ?_
        refine own_bapp (y := (own_8 (cs.getD i 0))) (L := (own_e8 (cs.take i))) (c := (2 * cs.length)) (j := (own_e8 (cs.take i)).length) i29_117 T (by first | rfl | (simp only [List.length_append, List.length_cons, List.length_nil, Nat.zero_add]; first | done | omega)) (by (try simp only [List.length_append, List.length_cons, List.length_nil, Nat.zero_add]); first | done | omega) (by omega) (own_88 _) ge (List.mem_of_getElem? (i := 0) rfl) ?_
        intro h_8 K_9 (A_10 : Arv Z h_8 t k .byte (Int32.ofNat (2 * cs.length)) (((own_e8 (cs.take i)) ++ [(own_8 (cs.getD i 0))]).map Value.int) (.int 0))
        refine Runs.iinc (z := (Int32.ofNat (i + 1))) (ls' := #[.val (.int (0 : Int32)), .val (.ref u), .val (.int (1 : Int32)), .val (.int (Int32.ofNat ((own_e8 (cs.take i)).length + 1))), .val (.ref t), .val (.ref u), .val (.int (Int32.ofNat cs.length)), .val (.int (Int32.ofNat (i + 1))), .val (.int (own_8 (cs.getD i 0)))]) i29_118 rfl (own_add (a := i) (b := 1) (by omega)) rfl ?_
        refine Runs.goto (t := 49) i29_121 (by decide) ?_
        have hc := own_neg8 (own_latg hL (show i < cs.length by omega))
        have e : own_e8 (cs.take (i + 1)) = ((own_e8 (cs.take i)) ++ [(own_8 (cs.getD i 0))]) := by rw [own_e8s (by omega), own_enc1 (Decidable.not_not.mp (fun q => hc65 (hc.mpr q)))]; first | done | simp only [List.append_assoc, List.cons_append, List.nil_append]
        have T_11 : Arv Z h_8 t k .byte (Int32.ofNat (2 * cs.length)) ((own_e8 (cs.take (i + 1))).map Value.int) (.int 0) := by rw [e]; exact A_10
        have el : (own_e8 (cs.take (i + 1))).length = ((own_e8 (cs.take i)).length + 1) := (by (try rw [e]); (try simp only [List.length_append, List.length_cons, List.length_nil, Nat.zero_add]); first | done | omega)
        rw [← el]
        exact ih (i + 1) _ (.val (.int (own_8 (cs.getD i 0)))) (Or.inr ⟨_, rfl⟩) (by omega) (K.trans K_9 (allS (Or.inr gt) all0)) T_11
set_option maxRecDepth 65536 in
set_option maxHeartbeats 4000000 in
theorem own_eul (l : Launch) (Z : State) (a0 : Array Value) (hw : Wds Z a0) (n0 : Nat) (u : Addr) (ku : ClassId) (cs : List Int32) (NS : Nat) (hcs : cs.length < 100000) (hNS : 3 * cs.length ≤ NS ∧ NS < 1000000) (hL : Lat cs) (hlt : (own_e8 cs).length < 2 * cs.length) (h0 : Heap) (U0 : Arv Z h0 u ku .byte (Int32.ofNat cs.length) (cs.map own_b) (.int 0)) (E0 : Exa Z h0 u "[B") (hn0 : n0 ≤ h0.size) : Con 1 l Z [("com/example/pacerd/pacerd/run/Outcome", 27), ("java/lang/String", 7)] n0 (⟨"java/lang/String", "encodeUTF8", "(B[BZ)[B"⟩ : MethodName) jdk_42_method_46_code 9 (some (.array .byte)) ({ frames := 2, cells := 2, slots := (NS + NS), locals := 54 } : Room) #[(.int (0 : Int32)), (.ref u), (.int (1 : Int32))] [] h0 (fun v h D' => ∃ b k, v = some (.ref b) ∧ h0.size ≤ b ∧ Keep h0 h [] ∧ Arv Z h b k .byte (Int32.ofNat (own_e8 cs).length) ((own_e8 cs).map Value.int) (.int 0) ∧ D' = [b]) := by
  refine Con.of_runs (ls := #[.val (.int (0 : Int32)), .val (.ref u), .val (.int (1 : Int32)), .unset, .unset, .unset, .unset, .unset, .unset]) (by decide +kernel) (ef rfl rfl) ?_
  refine Runs.iloadN i29_0 rfl ?_
  refine Runs.iconst (v := (1 : Int32)) i29_1 (by decide) ?_
  refine Runs.icY (t := 11) i29_2 (by decide) (feq (by decide : ¬ ((0 : Int32) = (1 : Int32)))).2 ?_
  refine Runs.aloadN i29_11 rfl rfl ?_
  refine Runs.iconst (v := (0 : Int32)) i29_12 (by decide) ?_
  refine Runs.aloadN i29_13 rfl rfl ?_
  refine Runs.arrlen i29_14 U0 ?_
  refine Runs.callSW (argsL := [(.ref u), (.int (0 : Int32)), (.int (Int32.ofNat cs.length))]) (rest := []) (W := 0) i29_15 (w159 hw) (w160 hw) (w161 hw) (w162 hw) (by decide) pd_30 rfl rfl rfl rfl (by first | decide | (dsimp only; first | decide | omega)) (by first | decide | (dsimp only; first | decide | omega)) (by first | decide | (dsimp only; first | decide | omega)) (by first | decide | (dsimp only; first | decide | omega)) all0 (by decide) (own_hng l Z a0 hw n0 u ku cs (by omega) _ U0) ?_
  intro v h1 D1 q hsz
  obtain ⟨hq, rfl, rfl⟩ := q
  rcases hq with ⟨rfl, hpos⟩ | rfl
  · skip
    show Runs 1 l Z [("com/example/pacerd/pacerd/run/Outcome", 27), ("java/lang/String", 7)] n0 _ _ _ _ _ _ _ [] h0 0 0 18 #[.val (.int (0 : Int32)), .val (.ref u), .val (.int (1 : Int32)), .unset, .unset, .unset, .unset, .unset, .unset] [(.int (0 : Int32))]
    refine Runs.ifN i29_18 (teq (by decide : (0 : Int32) = (0 : Int32))).2 ?_
    refine Runs.aloadN i29_21 rfl rfl ?_
    refine Runs.clone (W := 0) (cap := NS) i29_22 (w166 hw) (w167 hw) (w171 hw) (w169 hw) (w170 hw) (w172 hw) U0 E0 rfl (by first | decide | (dsimp only; first | decide | omega)) rfl (by first | decide | (dsimp only; first | decide | omega)) (by rw [own_cl (n := cs.length) (by omega)]; omega) (by first | decide | (dsimp only; first | decide | omega)) (by first | decide | (dsimp only; first | decide | omega)) ?_
    intro h_7 b_1 g_2 ge_3 K_4 A_5 E_6
    refine Runs.castY i29_25 (w173 hw) (Jvm.RoadKit.Ins.self E_6) ?_
    have e := own_e8p hL hpos
    exact Runs.retA i29_28 rfl rfl rfl (by first | decide | (dsimp only; first | decide | omega)) (by first | decide | (dsimp only; first | decide | omega)) ⟨b_1, _, rfl, g_2, K_4, by rw [e, List.length_map, ← own_map8]; exact A_5, rfl⟩
  · skip
    show Runs 1 l Z [("com/example/pacerd/pacerd/run/Outcome", 27), ("java/lang/String", 7)] n0 _ _ _ _ _ _ _ [] h0 0 0 18 #[.val (.int (0 : Int32)), .val (.ref u), .val (.int (1 : Int32)), .unset, .unset, .unset, .unset, .unset, .unset] [(.int (1 : Int32))]
    refine Runs.ifY (t := 29) i29_18 (by decide) (feq (by decide : ¬ ((1 : Int32) = (0 : Int32)))).2 ?_
    refine Runs.iconst (v := (0 : Int32)) i29_29 (by decide) ?_
    refine Runs.istoreN (ls' := #[.val (.int (0 : Int32)), .val (.ref u), .val (.int (1 : Int32)), .val (.int (0 : Int32)), .unset, .unset, .unset, .unset, .unset]) i29_30 rfl ?_
    refine Runs.aloadN i29_31 rfl rfl ?_
    refine Runs.arrlen i29_32 U0 ?_
    refine Runs.callSW (argsL := [(.int (Int32.ofNat cs.length))]) (rest := []) (W := 0) i29_33 (w234 hw) (w235 hw) (w223 hw) (w236 hw) (by decide) pd_2 rfl rfl rfl rfl (by first | decide | (dsimp only; first | decide | omega)) (by first | decide | (dsimp only; first | decide | omega)) (by first | decide | (dsimp only; first | decide | omega)) (by first | decide | (dsimp only; first | decide | omega)) all0 (by decide) (own_ubf l Z a0 hw n0 cs.length NS (by omega) (by omega) _) ?_
    intro v h_14 D1 q hsz
    obtain ⟨b_8, k_9, rfl, g_10, K_11, A_12, E_13, rfl⟩ := q
    show Runs 1 l Z [("com/example/pacerd/pacerd/run/Outcome", 27), ("java/lang/String", 7)] n0 _ _ _ _ _ _ _ [b_8] h_14 1 (0 + NS) 36 #[.val (.int (0 : Int32)), .val (.ref u), .val (.int (1 : Int32)), .val (.int (0 : Int32)), .unset, .unset, .unset, .unset, .unset] [(.ref b_8)]
    refine Runs.astore (ls' := #[.val (.int (0 : Int32)), .val (.ref u), .val (.int (1 : Int32)), .val (.int (0 : Int32)), .val (.ref b_8), .unset, .unset, .unset, .unset]) i29_36 rfl rfl ?_
    refine Runs.aloadN i29_38 rfl rfl ?_
    refine Runs.astore (ls' := #[.val (.int (0 : Int32)), .val (.ref u), .val (.int (1 : Int32)), .val (.int (0 : Int32)), .val (.ref b_8), .val (.ref u), .unset, .unset, .unset]) i29_39 rfl rfl ?_
    refine Runs.aload i29_41 rfl rfl ?_
    have A_15 := (U0.keep K_11 nin0)
    refine Runs.arrlen i29_43 A_15 ?_
    refine Runs.istore (ls' := #[.val (.int (0 : Int32)), .val (.ref u), .val (.int (1 : Int32)), .val (.int (0 : Int32)), .val (.ref b_8), .val (.ref u), .val (.int (Int32.ofNat cs.length)), .unset, .unset]) i29_44 rfl ?_
    refine Runs.iconst (v := (0 : Int32)) i29_46 (by decide) ?_
    refine Runs.istore (ls' := #[.val (.int (0 : Int32)), .val (.ref u), .val (.int (1 : Int32)), .val (.int (0 : Int32)), .val (.ref b_8), .val (.ref u), .val (.int (Int32.ofNat cs.length)), .val (.int (0 : Int32)), .unset]) i29_47 rfl ?_
    exact own_el1 l Z a0 hw n0 u ku cs NS hcs hNS hL hlt h0 U0 E0 hn0 b_8 k_9 g_10 (Nat.le_trans hn0 g_10) cs.length 0 _ .unset (Or.inl rfl) (by omega) K_11 A_12
set_option maxRecDepth 65536 in
set_option maxHeartbeats 4000000 in
theorem own_enun (l : Launch) (Z : State) (a0 : Array Value) (hw : Wds Z a0) (n0 : Nat) (cs : List Int32) (NS : Nat) (hcs : cs.length < 100000) (hNS : 3 * cs.length ≤ NS ∧ NS < 1000000) (hlt : (own_e8 cs).length < 2 * cs.length) (h0 : Heap) (hn0 : n0 ≤ h0.size) (u : Addr) (ku : ClassId) (U0 : Arv Z h0 u ku .byte (Int32.ofNat cs.length) (cs.map own_b) (.int 0)) (hL : Lat cs) (E0 : Exa Z h0 u "[B") (u8 : Addr) (S_I : Sta Z Z.heap "sun/nio/cs/UTF_8" "INSTANCE" "Lsun/nio/cs/UTF_8;" (.ref u8)) : Con 1 l Z [("com/example/pacerd/pacerd/run/Outcome", 27), ("java/lang/String", 7)] n0 (⟨"java/lang/String", "encode", "(Ljava/nio/charset/Charset;B[B)[B"⟩ : MethodName) jdk_42_method_18_code 3 (some (.array .byte)) ({ frames := 3, cells := 2, slots := (NS + NS), locals := 74 } : Room) #[(.ref u8), (.int (0 : Int32)), (.ref u)] [] h0 (fun v h D' => ∃ b k, v = some (.ref b) ∧ h0.size ≤ b ∧ Keep h0 h [] ∧ Arv Z h b k .byte (Int32.ofNat (own_e8 cs).length) ((own_e8 cs).map Value.int) (.int 0) ∧ D' = [b]) := by
  refine Con.of_runs (ls := #[.val (.ref u8), .val (.int (0 : Int32)), .val (.ref u)]) (by decide +kernel) (ef rfl rfl) ?_
  refine Runs.aloadN i28_0 rfl rfl ?_
  refine Runs.getS i28_1 (w154 hw) Via.refl S_I ?_
  refine Runs.acN i28_4 rfl rfl (Jvm.Free.XT.aa_ne_f (congrArg Value.ref rfl)) ?_
  refine Runs.iloadN i28_7 rfl ?_
  refine Runs.aloadN i28_8 rfl rfl ?_
  refine Runs.iconst (v := (1 : Int32)) i28_9 (by decide) ?_
  refine Runs.callSW (argsL := [(.int (0 : Int32)), (.ref u), (.int (1 : Int32))]) (rest := []) (W := 0) i28_10 (w156 hw) (w157 hw) (w9 hw) (w158 hw) (by decide) pd_31 rfl rfl rfl rfl (by first | decide | (dsimp only; first | decide | omega)) (by first | decide | (dsimp only; first | decide | omega)) (by first | decide | (dsimp only; first | decide | omega)) (by first | decide | (dsimp only; first | decide | omega)) all0 (by decide) (own_eul l Z a0 hw n0 u ku cs NS hcs hNS hL hlt _ U0 E0 hn0) ?_
  intro v h1 D1 q hsz
  obtain ⟨b1, k1, rfl, g1, K1, A1, rfl⟩ := q
  show Runs 1 l Z [("com/example/pacerd/pacerd/run/Outcome", 27), ("java/lang/String", 7)] n0 _ _ _ _ _ _ _ [b1] h1 2 (0 + (NS + NS)) 13 #[.val (.ref u8), .val (.int (0 : Int32)), .val (.ref u)] [(.ref b1)]
  exact Runs.retA i28_13 rfl rfl rfl (by first | decide | (dsimp only; first | decide | omega)) (by first | decide | (dsimp only; first | decide | omega)) ⟨b1, k1, rfl, g1, K1, A1, rfl⟩
set_option maxRecDepth 65536 in
set_option maxHeartbeats 4000000 in
theorem own_gu8n (l : Launch) (Z : State) (a0 : Array Value) (hw : Wds Z a0) (n0 : Nat) (cs : List Int32) (NS : Nat) (hcs : cs.length < 100000) (hNS : 3 * cs.length ≤ NS ∧ NS < 1000000) (hlt : (own_e8 cs).length < 2 * cs.length) (h0 : Heap) (hn0 : n0 ≤ h0.size) (s u : Addr) (ku : ClassId) (S0 : Str Z h0 s u ku cs) (E0 : Exa Z h0 u "[B") (u8 : Addr) (S_I : Sta Z Z.heap "sun/nio/cs/UTF_8" "INSTANCE" "Lsun/nio/cs/UTF_8;" (.ref u8)) (cpt : Int32) (S_C : Sta Z Z.heap "java/lang/String" "COMPACT_STRINGS" "Z" (.int cpt)) (hcpt : ¬ cpt = 0) : Con 1 l Z [("com/example/pacerd/pacerd/run/Outcome", 27), ("java/lang/String", 7)] n0 (⟨"java/lang/String", "getBytes", "(Ljava/nio/charset/Charset;)[B"⟩ : MethodName) jdk_42_method_64_code 2 (some (.array .byte)) ({ frames := 4, cells := 2, slots := (NS + NS), locals := 88 } : Room) #[(.ref s), (.ref u8)] [] h0 (fun v h D' => ∃ b k, v = some (.ref b) ∧ h0.size ≤ b ∧ Keep h0 h [] ∧ Arv Z h b k .byte (Int32.ofNat (own_e8 cs).length) ((own_e8 cs).map Value.int) (.int 0) ∧ D' = [b]) := by
  refine Con.of_runs (ls := #[.val (.ref s), .val (.ref u8)]) (by decide +kernel) (ef rfl rfl) ?_
  refine Runs.aloadN i27_0 rfl rfl ?_
  refine Runs.nnullY (t := 12) i27_1 (by decide) ?_
  refine Runs.aloadN i27_12 rfl rfl ?_
  refine Runs.aloadN i27_13 rfl rfl ?_
  refine Runs.callVW (argsL := []) (rest := [(.ref u8)]) (W := 1) i27_14 (w66 hw) (w67 hw) (fun s hZ => notFace_of_selects (args := #[]) (mvT hZ (w69 hw))) (w69 hw) (w68 hw) (w70 hw) (w9 hw) (by decide) S0.1.1 pd_9 rfl rfl rfl rfl (by first | decide | (dsimp only; first | decide | omega)) (by first | decide | (dsimp only; first | decide | omega)) (by first | decide | (dsimp only; first | decide | omega)) (by first | decide | (dsimp only; first | decide | omega)) all0 (by decide) (own_cod l Z a0 hw n0 s u ku cs _ S0 cpt S_C hcpt) ?_
  intro v h1 D1 q hsz
  obtain ⟨rfl, rfl, rfl⟩ := q
  show Runs 1 l Z [("com/example/pacerd/pacerd/run/Outcome", 27), ("java/lang/String", 7)] n0 _ _ _ _ _ _ _ [] h0 0 0 17 #[.val (.ref s), .val (.ref u8)] [(.int (0 : Int32)), (.ref u8)]
  refine Runs.aloadN i27_17 rfl rfl ?_
  refine Runs.getF i27_18 (host := "") (Or.inl (w26 hw)) Via.refl (S0.1.fld (i := 0) rfl) ?_
  refine Runs.callSW (argsL := [(.ref u8), (.int (0 : Int32)), (.ref u)]) (rest := []) (W := 0) i27_21 (w151 hw) (w152 hw) (w9 hw) (w153 hw) (by decide) pd_32 rfl rfl rfl rfl (by first | decide | (dsimp only; first | decide | omega)) (by first | decide | (dsimp only; first | decide | omega)) (by first | decide | (dsimp only; first | decide | omega)) (by first | decide | (dsimp only; first | decide | omega)) all0 (by decide) (own_enun l Z a0 hw n0 cs NS hcs hNS hlt _ hn0 u ku S0.2.1 S0.2.2.1 E0 u8 S_I) ?_
  intro v h1 D1 q hsz
  obtain ⟨b1, k1, rfl, g1, K1, A1, rfl⟩ := q
  show Runs 1 l Z [("com/example/pacerd/pacerd/run/Outcome", 27), ("java/lang/String", 7)] n0 _ _ _ _ _ _ _ [b1] h1 2 (0 + (NS + NS)) 24 #[.val (.ref s), .val (.ref u8)] [(.ref b1)]
  exact Runs.retA i27_24 rfl rfl rfl (by first | decide | (dsimp only; first | decide | omega)) (by first | decide | (dsimp only; first | decide | omega)) ⟨b1, k1, rfl, g1, K1, A1, rfl⟩
set_option maxRecDepth 65536 in
set_option maxHeartbeats 4000000 in
theorem own_iss (l : Launch) (Z : State) (a0 : Array Value) (hw : Wds Z a0) (n0 : Nat) (c : Int32) (hs : c < 55296 ∨ ¬ c < 57344) (h0 : Heap) : Con 1 l Z [("com/example/pacerd/pacerd/run/Outcome", 27), ("java/lang/String", 7)] n0 (⟨"java/lang/Character", "isSurrogate", "(C)Z"⟩ : MethodName) jdk_89_method_16_code 1 (some .boolean) ({ frames := 0, cells := 0, slots := 0, locals := 0 } : Room) #[(.int c)] [] h0 (fun v h D' => v = some (.int 0) ∧ h0 = h ∧ D' = []) := by
  refine Con.of_runs (ls := #[.val (.int c)]) (by decide +kernel) (ef rfl rfl) ?_
  refine Runs.iloadN i57_0 rfl ?_
  refine Runs.ldcI i57_1 (w295 hw) ?_
  by_cases hc3 : c < (55296 : Int32)
  · refine Runs.icY (t := 16) i57_3 (by decide) (tlt hc3).1 ?_
    refine Runs.iconst (v := (0 : Int32)) i57_16 (by decide) ?_
    exact Runs.retI (z := (0 : Int32)) i57_17 rfl (Or.inr (Or.inl rfl)) (by decide) (by decide) (by decide) ⟨rfl, rfl, rfl⟩
  · refine Runs.icN i57_3 (flt hc3).1 ?_
    refine Runs.iloadN i57_6 rfl ?_
    refine Runs.ldcI i57_7 (w297 hw) ?_
    refine Runs.icY (t := 16) i57_9 (by decide) (flt (fun q => absurd q (hs.resolve_left hc3))).2.1 ?_
    refine Runs.iconst (v := (0 : Int32)) i57_16 (by decide) ?_
    exact Runs.retI (z := (0 : Int32)) i57_17 rfl (Or.inr (Or.inl rfl)) (by decide) (by decide) (by decide) ⟨rfl, rfl, rfl⟩
set_option maxRecDepth 65536 in
set_option maxHeartbeats 4000000 in
theorem own_ew2 (l : Launch) (Z : State) (a0 : Array Value) (hw : Wds Z a0) (n0 : Nat) (u : Addr) (ku : ClassId) (cs : List Int32) (NS : Nat) (hcs : cs.length < 100000) (hNS : 3 * cs.length ≤ NS ∧ NS < 1000000) (hC : Chs cs) (hS : Nsr cs) (hlt : (own_e8 cs).length < 3 * cs.length) (h0 : Heap) (U0 : Arv Z h0 u ku .byte (Int32.ofNat (2 * cs.length)) (own_ws cs) (.int 0)) (hn0 : n0 ≤ h0.size) (S_A : Sta Z Z.heap "java/lang/StringUTF16" "$assertionsDisabled" "Z" (.int 1)) (S_H : Sta Z Z.heap "java/lang/StringUTF16" "HI_BYTE_SHIFT" "I" (.int 0)) (S_L : Sta Z Z.heap "java/lang/StringUTF16" "LO_BYTE_SHIFT" "I" (.int 8)) (t : Addr) (k : ClassId) (gt : h0.size ≤ t) (ge : n0 ≤ t) (d : Nat) : ∀ (i : Nat) (h : Heap) (sl : Slot), (sl = .unset ∨ ∃ x : Int32, sl = .val (.int x)) → d + i = cs.length → Keep h0 h [] → Arv Z h t k .byte (Int32.ofNat (3 * cs.length)) ((own_e8 (cs.take i)).map Value.int) (.int 0) → Runs 1 l Z [("com/example/pacerd/pacerd/run/Outcome", 27), ("java/lang/String", 7)] n0 "java/lang/String" "encodeUTF8_UTF16" jdk_42_method_47_code 9 (some (.array .byte)) ({ frames := 2, cells := 2, slots := (NS + NS), locals := 62 } : Room) (fun v h D' => ∃ b k, v = some (.ref b) ∧ h0.size ≤ b ∧ Keep h0 h [] ∧ Arv Z h b k .byte (Int32.ofNat (own_e8 cs).length) ((own_e8 cs).map Value.int) (.int 0) ∧ D' = [b]) [t] h 1 (0 + NS) 58 #[.val (.ref u), .val (.int (1 : Int32)), .val (.int (Int32.ofNat (own_e8 (cs.take i)).length)), .val (.int (Int32.ofNat i)), .val (.int (Int32.ofNat cs.length)), .val (.ref t), sl, .unset, .unset] [] := by
  induction d with
  | zero =>
    intro i h sl hsl hd K T
    refine Runs.iloadN i56_58 rfl ?_
    refine Runs.iload i56_59 rfl ?_
    refine Runs.icY (t := 355) i56_61 (by decide) (flt (own_nlt (a := i) (b := cs.length) (by omega) (by omega))).2.1 ?_
    rw [List.take_of_length_le (by omega)] at T
    rw [show cs.take i = cs from List.take_of_length_le (by omega)]
    show Runs 1 l Z [("com/example/pacerd/pacerd/run/Outcome", 27), ("java/lang/String", 7)] n0 _ _ _ _ _ _ _ [t] h 1 (0 + NS) 355 #[.val (.ref u), .val (.int (1 : Int32)), .val (.int (Int32.ofNat (own_e8 cs).length)), .val (.int (Int32.ofNat i)), .val (.int (Int32.ofNat cs.length)), .val (.ref t), sl, .unset, .unset] []
    have hx := hlt
    refine Runs.iloadN i56_355 rfl ?_
    refine Runs.aload i56_356 rfl rfl ?_
    refine Runs.arrlen i56_358 T ?_
    refine Runs.icY (t := 365) i56_359 (by decide) (feq (fun q => absurd ((own_inj (a := (own_e8 cs).length) (b := 3 * cs.length) (by omega) (by omega)).mp q) (by omega))).2 ?_
    refine Runs.aload i56_365 rfl rfl ?_
    refine Runs.iloadN i56_367 rfl ?_
    refine Runs.callSW (argsL := [(.ref t), (.int (Int32.ofNat (own_e8 cs).length))]) (rest := []) (W := 0) i56_368 (w241 hw) (w242 hw) (w131 hw) (w243 hw) (by decide) pd_29 rfl rfl rfl rfl (by first | decide | (dsimp only; first | decide | omega)) (by first | decide | (dsimp only; first | decide | omega)) (by first | decide | (dsimp only; first | decide | omega)) (by first | decide | (dsimp only; first | decide | omega)) all0 (by decide) (own_cps l Z a0 hw n0 t k (3 * cs.length) (own_e8 cs).length NS ((own_e8 cs).map Value.int) (by rw [List.length_map]; omega) (by omega) (by omega) _ T) ?_
    intro v h_7 D1 q hsz
    obtain ⟨b_1, k_2, rfl, g_3, K_4, A_5, E_6, rfl⟩ := q
    show Runs 1 l Z [("com/example/pacerd/pacerd/run/Outcome", 27), ("java/lang/String", 7)] n0 _ _ _ _ _ _ _ [b_1, t] h_7 2 ((0 + NS) + NS) 371 #[.val (.ref u), .val (.int (1 : Int32)), .val (.int (Int32.ofNat (own_e8 cs).length)), .val (.int (Int32.ofNat i)), .val (.int (Int32.ofNat cs.length)), .val (.ref t), sl, .unset, .unset] [(.ref b_1)]
    refine Runs.weak (D1 := [b_1]) (by simp) ?_
    exact Runs.retA i56_371 rfl rfl rfl (by first | decide | (dsimp only; first | decide | omega)) (by first | decide | (dsimp only; first | decide | omega)) ⟨b_1, k_2, rfl, Nat.le_trans K.1 g_3, K.trans K_4 all0, A_5, rfl⟩
  | succ d ih =>
    intro i h sl hsl hd K T
    rcases hsl with rfl | ⟨cx, rfl⟩
    all_goals
      have hel := own_e8l (cs.take i)
      rw [own_tkl (by omega)] at hel
      refine Runs.iloadN i56_58 rfl ?_
      refine Runs.iload i56_59 rfl ?_
      refine Runs.icN i56_61 (tlt (own_lt (a := i) (b := cs.length) (by omega) (by omega))).2.1 ?_
      refine Runs.aloadN i56_64 rfl rfl ?_
      refine Runs.iloadN i56_65 rfl ?_
      refine Runs.iinc (z := (Int32.ofNat (i + 1))) (ls' := #[.val (.ref u), .val (.int (1 : Int32)), .val (.int (Int32.ofNat (own_e8 (cs.take i)).length)), .val (.int (Int32.ofNat (i + 1))), .val (.int (Int32.ofNat cs.length)), .val (.ref t), _, .unset, .unset]) i56_66 rfl (own_add (a := i) (b := 1) (by omega)) rfl ?_
      refine Runs.callSW (argsL := [(.ref u), (.int (Int32.ofNat i))]) (rest := []) (W := 0) i56_69 (w290 hw) (w255 hw) (w223 hw) (w256 hw) (by decide) pd_5 rfl rfl rfl rfl (by first | decide | (dsimp only; first | decide | omega)) (by first | decide | (dsimp only; first | decide | omega)) (by first | decide | (dsimp only; first | decide | omega)) (by first | decide | (dsimp only; first | decide | omega)) all0 (by decide) (own_ugc l Z a0 hw n0 u ku cs.length cs _ (U0.keep K nin0) i (by omega) (Nat.le_refl _) (by omega) (own_chg hC (by omega)) S_A S_H S_L) ?_
      intro v h1 D1 q hsz
      obtain ⟨rfl, rfl, rfl⟩ := q
      show Runs 1 l Z [("com/example/pacerd/pacerd/run/Outcome", 27), ("java/lang/String", 7)] n0 _ _ _ _ _ _ _ [t] h 1 (0 + NS) 72 #[.val (.ref u), .val (.int (1 : Int32)), .val (.int (Int32.ofNat (own_e8 (cs.take i)).length)), .val (.int (Int32.ofNat (i + 1))), .val (.int (Int32.ofNat cs.length)), .val (.ref t), _, .unset, .unset] [(.int (cs.getD i 0))]
      refine Runs.istore (ls' := #[.val (.ref u), .val (.int (1 : Int32)), .val (.int (Int32.ofNat (own_e8 (cs.take i)).length)), .val (.int (Int32.ofNat (i + 1))), .val (.int (Int32.ofNat cs.length)), .val (.ref t), .val (.int (cs.getD i 0)), .unset, .unset]) i56_72 rfl ?_
      refine Runs.iload i56_74 rfl ?_
      refine Runs.sipush (v := (128 : Int32)) i56_76 (by decide) ?_
      by_cases hc79 : (cs.getD i 0) < (128 : Int32)
      · refine Runs.icN i56_79 (tlt hc79).2.1 ?_
        refine Runs.aload i56_82 rfl rfl ?_
        refine Runs.iloadN i56_84 rfl ?_
        refine Runs.iinc (z := (Int32.ofNat ((own_e8 (cs.take i)).length + 1))) (ls' := #[.val (.ref u), .val (.int (1 : Int32)), .val (.int (Int32.ofNat ((own_e8 (cs.take i)).length + 1))), .val (.int (Int32.ofNat (i + 1))), .val (.int (Int32.ofNat cs.length)), .val (.ref t), .val (.int (cs.getD i 0)), .unset, .unset]) i56_85 rfl (own_add (a := (own_e8 (cs.take i)).length) (b := 1) (by omega)) rfl ?_
        refine Runs.iload i56_88 rfl ?_
        refine Runs.i2b (z := (own_8 (cs.getD i 0))) i56_90 rfl ?_
        refine own_bapp (y := (own_8 (cs.getD i 0))) (L := (own_e8 (cs.take i))) (c := (3 * cs.length)) (j := (own_e8 (cs.take i)).length) i56_91 T (by first | rfl | (simp only [List.length_append, List.length_cons, List.length_nil, Nat.zero_add]; first | done | omega)) (by (try simp only [List.length_append, List.length_cons, List.length_nil, Nat.zero_add]); first | done | omega) (by omega) (own_88 _) ge (List.mem_of_getElem? (i := 0) rfl) ?_
        intro h_1 K_2 (A_3 : Arv Z h_1 t k .byte (Int32.ofNat (3 * cs.length)) (((own_e8 (cs.take i)) ++ [(own_8 (cs.getD i 0))]).map Value.int) (.int 0))
        refine Runs.goto (t := 352) i56_92 (by decide) ?_
        refine Runs.goto (t := 58) i56_352 (by decide) ?_
        have e : own_e8 (cs.take (i + 1)) = ((own_e8 (cs.take i)) ++ [(own_8 (cs.getD i 0))]) := by rw [own_e8s (by omega), own_enc1 hc79]; first | done | simp only [List.append_assoc, List.cons_append, List.nil_append]
        have T_4 : Arv Z h_1 t k .byte (Int32.ofNat (3 * cs.length)) ((own_e8 (cs.take (i + 1))).map Value.int) (.int 0) := by rw [e]; exact A_3
        have el : (own_e8 (cs.take (i + 1))).length = ((own_e8 (cs.take i)).length + 1) := (by (try rw [e]); (try simp only [List.length_append, List.length_cons, List.length_nil, Nat.zero_add]); first | done | omega)
        rw [← el]
        exact ih (i + 1) _ (.val (.int (cs.getD i 0))) (Or.inr ⟨_, rfl⟩) (by omega) (K.trans K_2 (allS (Or.inr gt) all0)) T_4
      · refine Runs.icY (t := 95) i56_79 (by decide) (flt hc79).2.1 ?_
        refine Runs.iload i56_95 rfl ?_
        refine Runs.sipush (v := (2048 : Int32)) i56_97 (by decide) ?_
        by_cases hc100 : (cs.getD i 0) < (2048 : Int32)
        · refine Runs.icN i56_100 (tlt hc100).2.1 ?_
          refine Runs.aload i56_103 rfl rfl ?_
          refine Runs.iloadN i56_105 rfl ?_
          refine Runs.iinc (z := (Int32.ofNat ((own_e8 (cs.take i)).length + 1))) (ls' := #[.val (.ref u), .val (.int (1 : Int32)), .val (.int (Int32.ofNat ((own_e8 (cs.take i)).length + 1))), .val (.int (Int32.ofNat (i + 1))), .val (.int (Int32.ofNat cs.length)), .val (.ref t), .val (.int (cs.getD i 0)), .unset, .unset]) i56_106 rfl (own_add (a := (own_e8 (cs.take i)).length) (b := 1) (by omega)) rfl ?_
          refine Runs.sipush (v := (192 : Int32)) i56_109 (by decide) ?_
          refine Runs.iload i56_112 rfl ?_
          refine Runs.bipush (v := (6 : Int32)) i56_114 (by decide) ?_
          refine Runs.ishr (z := ((cs.getD i 0) >>> ((6 : Int32) &&& 31))) i56_116 rfl ?_
          refine Runs.ior (z := ((192 : Int32) ||| ((cs.getD i 0) >>> ((6 : Int32) &&& 31)))) i56_117 rfl ?_
          refine Runs.i2b (z := (own_8 ((192 : Int32) ||| ((cs.getD i 0) >>> ((6 : Int32) &&& 31))))) i56_118 rfl ?_
          refine own_bapp (y := (own_8 ((192 : Int32) ||| ((cs.getD i 0) >>> ((6 : Int32) &&& 31))))) (L := (own_e8 (cs.take i))) (c := (3 * cs.length)) (j := (own_e8 (cs.take i)).length) i56_119 T (by first | rfl | (simp only [List.length_append, List.length_cons, List.length_nil, Nat.zero_add]; first | done | omega)) (by (try simp only [List.length_append, List.length_cons, List.length_nil, Nat.zero_add]); first | done | omega) (by omega) (own_88 _) ge (List.mem_of_getElem? (i := 0) rfl) ?_
          intro h_5 K_6 (A_7 : Arv Z h_5 t k .byte (Int32.ofNat (3 * cs.length)) (((own_e8 (cs.take i)) ++ [(own_8 ((192 : Int32) ||| ((cs.getD i 0) >>> ((6 : Int32) &&& 31))))]).map Value.int) (.int 0))
          refine Runs.aload i56_120 rfl rfl ?_
          refine Runs.iloadN i56_122 rfl ?_
          refine Runs.iinc (z := (Int32.ofNat (((own_e8 (cs.take i)).length + 1) + 1))) (ls' := #[.val (.ref u), .val (.int (1 : Int32)), .val (.int (Int32.ofNat (((own_e8 (cs.take i)).length + 1) + 1))), .val (.int (Int32.ofNat (i + 1))), .val (.int (Int32.ofNat cs.length)), .val (.ref t), .val (.int (cs.getD i 0)), .unset, .unset]) i56_123 rfl (own_add (a := ((own_e8 (cs.take i)).length + 1)) (b := 1) (by omega)) rfl ?_
          refine Runs.sipush (v := (128 : Int32)) i56_126 (by decide) ?_
          refine Runs.iload i56_129 rfl ?_
          refine Runs.bipush (v := (63 : Int32)) i56_131 (by decide) ?_
          refine Runs.iand (z := ((cs.getD i 0) &&& (63 : Int32))) i56_133 rfl ?_
          refine Runs.ior (z := ((128 : Int32) ||| ((cs.getD i 0) &&& (63 : Int32)))) i56_134 rfl ?_
          refine Runs.i2b (z := (own_8 ((128 : Int32) ||| ((cs.getD i 0) &&& (63 : Int32))))) i56_135 rfl ?_
          refine own_bapp (y := (own_8 ((128 : Int32) ||| ((cs.getD i 0) &&& (63 : Int32))))) (L := ((own_e8 (cs.take i)) ++ [(own_8 ((192 : Int32) ||| ((cs.getD i 0) >>> ((6 : Int32) &&& 31))))])) (c := (3 * cs.length)) (j := ((own_e8 (cs.take i)).length + 1)) i56_136 A_7 (by first | rfl | (simp only [List.length_append, List.length_cons, List.length_nil, Nat.zero_add]; first | done | omega)) (by (try simp only [List.length_append, List.length_cons, List.length_nil, Nat.zero_add]); first | done | omega) (by omega) (own_88 _) ge (List.mem_of_getElem? (i := 0) rfl) ?_
          intro h_8 K_9 (A_10 : Arv Z h_8 t k .byte (Int32.ofNat (3 * cs.length)) ((((own_e8 (cs.take i)) ++ [(own_8 ((192 : Int32) ||| ((cs.getD i 0) >>> ((6 : Int32) &&& 31))))]) ++ [(own_8 ((128 : Int32) ||| ((cs.getD i 0) &&& (63 : Int32))))]).map Value.int) (.int 0))
          refine Runs.goto (t := 352) i56_137 (by decide) ?_
          refine Runs.goto (t := 58) i56_352 (by decide) ?_
          have e : own_e8 (cs.take (i + 1)) = (((own_e8 (cs.take i)) ++ [(own_8 ((192 : Int32) ||| ((cs.getD i 0) >>> ((6 : Int32) &&& 31))))]) ++ [(own_8 ((128 : Int32) ||| ((cs.getD i 0) &&& (63 : Int32))))]) := by rw [own_e8s (by omega), own_enc2 hc79 hc100]; first | done | simp only [List.append_assoc, List.cons_append, List.nil_append]
          have T_11 : Arv Z h_8 t k .byte (Int32.ofNat (3 * cs.length)) ((own_e8 (cs.take (i + 1))).map Value.int) (.int 0) := by rw [e]; exact A_10
          have el : (own_e8 (cs.take (i + 1))).length = (((own_e8 (cs.take i)).length + 1) + 1) := (by (try rw [e]); (try simp only [List.length_append, List.length_cons, List.length_nil, Nat.zero_add]); first | done | omega)
          rw [← el]
          exact ih (i + 1) _ (.val (.int (cs.getD i 0))) (Or.inr ⟨_, rfl⟩) (by omega) ((K.trans K_6 (allS (Or.inr gt) all0)).trans K_9 (allS (Or.inr gt) all0)) T_11
        · refine Runs.icY (t := 140) i56_100 (by decide) (flt hc100).2.1 ?_
          refine Runs.iload i56_140 rfl ?_
          refine Runs.callSW (argsL := [(.int (cs.getD i 0))]) (rest := []) (W := 0) i56_142 (w291 hw) (w292 hw) (w293 hw) (w294 hw) (by decide) pd_33 rfl rfl rfl rfl (by first | decide | (dsimp only; first | decide | omega)) (by first | decide | (dsimp only; first | decide | omega)) (by first | decide | (dsimp only; first | decide | omega)) (by first | decide | (dsimp only; first | decide | omega)) all0 (by decide) (own_iss l Z a0 hw n0 (cs.getD i 0) (own_nsg hS (by omega)) _) ?_
          intro v h1 D1 q hsz
          obtain ⟨rfl, rfl, rfl⟩ := q
          show Runs 1 l Z [("com/example/pacerd/pacerd/run/Outcome", 27), ("java/lang/String", 7)] n0 _ _ _ _ _ _ _ [t] h 1 (0 + NS) 145 #[.val (.ref u), .val (.int (1 : Int32)), .val (.int (Int32.ofNat (own_e8 (cs.take i)).length)), .val (.int (Int32.ofNat (i + 1))), .val (.int (Int32.ofNat cs.length)), .val (.ref t), .val (.int (cs.getD i 0)), .unset, .unset] [(.int (0 : Int32))]
          refine Runs.ifY (t := 298) i56_145 (by decide) (teq (by decide : (0 : Int32) = (0 : Int32))).1 ?_
          refine Runs.aload i56_298 rfl rfl ?_
          refine Runs.iloadN i56_300 rfl ?_
          refine Runs.iinc (z := (Int32.ofNat ((own_e8 (cs.take i)).length + 1))) (ls' := #[.val (.ref u), .val (.int (1 : Int32)), .val (.int (Int32.ofNat ((own_e8 (cs.take i)).length + 1))), .val (.int (Int32.ofNat (i + 1))), .val (.int (Int32.ofNat cs.length)), .val (.ref t), .val (.int (cs.getD i 0)), .unset, .unset]) i56_301 rfl (own_add (a := (own_e8 (cs.take i)).length) (b := 1) (by omega)) rfl ?_
          refine Runs.sipush (v := (224 : Int32)) i56_304 (by decide) ?_
          refine Runs.iload i56_307 rfl ?_
          refine Runs.bipush (v := (12 : Int32)) i56_309 (by decide) ?_
          refine Runs.ishr (z := ((cs.getD i 0) >>> ((12 : Int32) &&& 31))) i56_311 rfl ?_
          refine Runs.ior (z := ((224 : Int32) ||| ((cs.getD i 0) >>> ((12 : Int32) &&& 31)))) i56_312 rfl ?_
          refine Runs.i2b (z := (own_8 ((224 : Int32) ||| ((cs.getD i 0) >>> ((12 : Int32) &&& 31))))) i56_313 rfl ?_
          refine own_bapp (y := (own_8 ((224 : Int32) ||| ((cs.getD i 0) >>> ((12 : Int32) &&& 31))))) (L := (own_e8 (cs.take i))) (c := (3 * cs.length)) (j := (own_e8 (cs.take i)).length) i56_314 T (by first | rfl | (simp only [List.length_append, List.length_cons, List.length_nil, Nat.zero_add]; first | done | omega)) (by (try simp only [List.length_append, List.length_cons, List.length_nil, Nat.zero_add]); first | done | omega) (by omega) (own_88 _) ge (List.mem_of_getElem? (i := 0) rfl) ?_
          intro h_12 K_13 (A_14 : Arv Z h_12 t k .byte (Int32.ofNat (3 * cs.length)) (((own_e8 (cs.take i)) ++ [(own_8 ((224 : Int32) ||| ((cs.getD i 0) >>> ((12 : Int32) &&& 31))))]).map Value.int) (.int 0))
          refine Runs.aload i56_315 rfl rfl ?_
          refine Runs.iloadN i56_317 rfl ?_
          refine Runs.iinc (z := (Int32.ofNat (((own_e8 (cs.take i)).length + 1) + 1))) (ls' := #[.val (.ref u), .val (.int (1 : Int32)), .val (.int (Int32.ofNat (((own_e8 (cs.take i)).length + 1) + 1))), .val (.int (Int32.ofNat (i + 1))), .val (.int (Int32.ofNat cs.length)), .val (.ref t), .val (.int (cs.getD i 0)), .unset, .unset]) i56_318 rfl (own_add (a := ((own_e8 (cs.take i)).length + 1)) (b := 1) (by omega)) rfl ?_
          refine Runs.sipush (v := (128 : Int32)) i56_321 (by decide) ?_
          refine Runs.iload i56_324 rfl ?_
          refine Runs.bipush (v := (6 : Int32)) i56_326 (by decide) ?_
          refine Runs.ishr (z := ((cs.getD i 0) >>> ((6 : Int32) &&& 31))) i56_328 rfl ?_
          refine Runs.bipush (v := (63 : Int32)) i56_329 (by decide) ?_
          refine Runs.iand (z := (((cs.getD i 0) >>> ((6 : Int32) &&& 31)) &&& (63 : Int32))) i56_331 rfl ?_
          refine Runs.ior (z := ((128 : Int32) ||| (((cs.getD i 0) >>> ((6 : Int32) &&& 31)) &&& (63 : Int32)))) i56_332 rfl ?_
          refine Runs.i2b (z := (own_8 ((128 : Int32) ||| (((cs.getD i 0) >>> ((6 : Int32) &&& 31)) &&& (63 : Int32))))) i56_333 rfl ?_
          refine own_bapp (y := (own_8 ((128 : Int32) ||| (((cs.getD i 0) >>> ((6 : Int32) &&& 31)) &&& (63 : Int32))))) (L := ((own_e8 (cs.take i)) ++ [(own_8 ((224 : Int32) ||| ((cs.getD i 0) >>> ((12 : Int32) &&& 31))))])) (c := (3 * cs.length)) (j := ((own_e8 (cs.take i)).length + 1)) i56_334 A_14 (by first | rfl | (simp only [List.length_append, List.length_cons, List.length_nil, Nat.zero_add]; first | done | omega)) (by (try simp only [List.length_append, List.length_cons, List.length_nil, Nat.zero_add]); first | done | omega) (by omega) (own_88 _) ge (List.mem_of_getElem? (i := 0) rfl) ?_
          intro h_15 K_16 (A_17 : Arv Z h_15 t k .byte (Int32.ofNat (3 * cs.length)) ((((own_e8 (cs.take i)) ++ [(own_8 ((224 : Int32) ||| ((cs.getD i 0) >>> ((12 : Int32) &&& 31))))]) ++ [(own_8 ((128 : Int32) ||| (((cs.getD i 0) >>> ((6 : Int32) &&& 31)) &&& (63 : Int32))))]).map Value.int) (.int 0))
          refine Runs.aload i56_335 rfl rfl ?_
          refine Runs.iloadN i56_337 rfl ?_
          refine Runs.iinc (z := (Int32.ofNat ((((own_e8 (cs.take i)).length + 1) + 1) + 1))) (ls' := #[.val (.ref u), .val (.int (1 : Int32)), .val (.int (Int32.ofNat ((((own_e8 (cs.take i)).length + 1) + 1) + 1))), .val (.int (Int32.ofNat (i + 1))), .val (.int (Int32.ofNat cs.length)), .val (.ref t), .val (.int (cs.getD i 0)), .unset, .unset]) i56_338 rfl (own_add (a := (((own_e8 (cs.take i)).length + 1) + 1)) (b := 1) (by omega)) rfl ?_
          refine Runs.sipush (v := (128 : Int32)) i56_341 (by decide) ?_
          refine Runs.iload i56_344 rfl ?_
          refine Runs.bipush (v := (63 : Int32)) i56_346 (by decide) ?_
          refine Runs.iand (z := ((cs.getD i 0) &&& (63 : Int32))) i56_348 rfl ?_
          refine Runs.ior (z := ((128 : Int32) ||| ((cs.getD i 0) &&& (63 : Int32)))) i56_349 rfl ?_
          refine Runs.i2b (z := (own_8 ((128 : Int32) ||| ((cs.getD i 0) &&& (63 : Int32))))) i56_350 rfl ?_
          refine own_bapp (y := (own_8 ((128 : Int32) ||| ((cs.getD i 0) &&& (63 : Int32))))) (L := (((own_e8 (cs.take i)) ++ [(own_8 ((224 : Int32) ||| ((cs.getD i 0) >>> ((12 : Int32) &&& 31))))]) ++ [(own_8 ((128 : Int32) ||| (((cs.getD i 0) >>> ((6 : Int32) &&& 31)) &&& (63 : Int32))))])) (c := (3 * cs.length)) (j := (((own_e8 (cs.take i)).length + 1) + 1)) i56_351 A_17 (by first | rfl | (simp only [List.length_append, List.length_cons, List.length_nil, Nat.zero_add]; first | done | omega)) (by (try simp only [List.length_append, List.length_cons, List.length_nil, Nat.zero_add]); first | done | omega) (by omega) (own_88 _) ge (List.mem_of_getElem? (i := 0) rfl) ?_
          intro h_18 K_19 (A_20 : Arv Z h_18 t k .byte (Int32.ofNat (3 * cs.length)) (((((own_e8 (cs.take i)) ++ [(own_8 ((224 : Int32) ||| ((cs.getD i 0) >>> ((12 : Int32) &&& 31))))]) ++ [(own_8 ((128 : Int32) ||| (((cs.getD i 0) >>> ((6 : Int32) &&& 31)) &&& (63 : Int32))))]) ++ [(own_8 ((128 : Int32) ||| ((cs.getD i 0) &&& (63 : Int32))))]).map Value.int) (.int 0))
          refine Runs.goto (t := 58) i56_352 (by decide) ?_
          have e : own_e8 (cs.take (i + 1)) = ((((own_e8 (cs.take i)) ++ [(own_8 ((224 : Int32) ||| ((cs.getD i 0) >>> ((12 : Int32) &&& 31))))]) ++ [(own_8 ((128 : Int32) ||| (((cs.getD i 0) >>> ((6 : Int32) &&& 31)) &&& (63 : Int32))))]) ++ [(own_8 ((128 : Int32) ||| ((cs.getD i 0) &&& (63 : Int32))))]) := by rw [own_e8s (by omega), own_enc3 hc79 hc100]; first | done | simp only [List.append_assoc, List.cons_append, List.nil_append]
          have T_21 : Arv Z h_18 t k .byte (Int32.ofNat (3 * cs.length)) ((own_e8 (cs.take (i + 1))).map Value.int) (.int 0) := by rw [e]; exact A_20
          have el : (own_e8 (cs.take (i + 1))).length = ((((own_e8 (cs.take i)).length + 1) + 1) + 1) := (by (try rw [e]); (try simp only [List.length_append, List.length_cons, List.length_nil, Nat.zero_add]); first | done | omega)
          rw [← el]
          exact ih (i + 1) _ (.val (.int (cs.getD i 0))) (Or.inr ⟨_, rfl⟩) (by omega) (((K.trans K_13 (allS (Or.inr gt) all0)).trans K_16 (allS (Or.inr gt) all0)).trans K_19 (allS (Or.inr gt) all0)) T_21
set_option maxRecDepth 65536 in
set_option maxHeartbeats 4000000 in
theorem own_ew1 (l : Launch) (Z : State) (a0 : Array Value) (hw : Wds Z a0) (n0 : Nat) (u : Addr) (ku : ClassId) (cs : List Int32) (NS : Nat) (hcs : cs.length < 100000) (hNS : 3 * cs.length ≤ NS ∧ NS < 1000000) (hC : Chs cs) (hS : Nsr cs) (hlt : (own_e8 cs).length < 3 * cs.length) (h0 : Heap) (U0 : Arv Z h0 u ku .byte (Int32.ofNat (2 * cs.length)) (own_ws cs) (.int 0)) (hn0 : n0 ≤ h0.size) (S_A : Sta Z Z.heap "java/lang/StringUTF16" "$assertionsDisabled" "Z" (.int 1)) (S_H : Sta Z Z.heap "java/lang/StringUTF16" "HI_BYTE_SHIFT" "I" (.int 0)) (S_L : Sta Z Z.heap "java/lang/StringUTF16" "LO_BYTE_SHIFT" "I" (.int 8)) (t : Addr) (k : ClassId) (gt : h0.size ≤ t) (ge : n0 ≤ t) (d : Nat) : ∀ (i : Nat) (h : Heap) (sl : Slot), (sl = .unset ∨ ∃ x : Int32, sl = .val (.int x)) → d + i = cs.length → Keep h0 h [] → Arv Z h t k .byte (Int32.ofNat (3 * cs.length)) ((own_e8 (cs.take i)).map Value.int) (.int 0) → Runs 1 l Z [("com/example/pacerd/pacerd/run/Outcome", 27), ("java/lang/String", 7)] n0 "java/lang/String" "encodeUTF8_UTF16" jdk_42_method_47_code 9 (some (.array .byte)) ({ frames := 2, cells := 2, slots := (NS + NS), locals := 62 } : Room) (fun v h D' => ∃ b k, v = some (.ref b) ∧ h0.size ≤ b ∧ Keep h0 h [] ∧ Arv Z h b k .byte (Int32.ofNat (own_e8 cs).length) ((own_e8 cs).map Value.int) (.int 0) ∧ D' = [b]) [t] h 1 (0 + NS) 18 #[.val (.ref u), .val (.int (1 : Int32)), .val (.int (Int32.ofNat (own_e8 (cs.take i)).length)), .val (.int (Int32.ofNat i)), .val (.int (Int32.ofNat cs.length)), .val (.ref t), sl, .unset, .unset] [] := by
  induction d with
  | zero =>
    intro i h sl hsl hd K T
    refine Runs.iloadN i56_18 rfl ?_
    refine Runs.iload i56_19 rfl ?_
    refine Runs.icY (t := 58) i56_21 (by decide) (flt (own_nlt (a := i) (b := cs.length) (by omega) (by omega))).2.1 ?_
    exact own_ew2 l Z a0 hw n0 u ku cs NS hcs hNS hC hS hlt h0 U0 hn0 S_A S_H S_L t k gt ge 0 i _ sl hsl (by omega) K T
  | succ d ih =>
    intro i h sl hsl hd K T
    rcases hsl with rfl | ⟨cx, rfl⟩
    all_goals
      have hel := own_e8l (cs.take i)
      rw [own_tkl (by omega)] at hel
      refine Runs.iloadN i56_18 rfl ?_
      refine Runs.iload i56_19 rfl ?_
      refine Runs.icN i56_21 (tlt (own_lt (a := i) (b := cs.length) (by omega) (by omega))).2.1 ?_
      refine Runs.aloadN i56_24 rfl rfl ?_
      refine Runs.iloadN i56_25 rfl ?_
      refine Runs.callSW (argsL := [(.ref u), (.int (Int32.ofNat i))]) (rest := []) (W := 0) i56_26 (w290 hw) (w255 hw) (w223 hw) (w256 hw) (by decide) pd_5 rfl rfl rfl rfl (by first | decide | (dsimp only; first | decide | omega)) (by first | decide | (dsimp only; first | decide | omega)) (by first | decide | (dsimp only; first | decide | omega)) (by first | decide | (dsimp only; first | decide | omega)) all0 (by decide) (own_ugc l Z a0 hw n0 u ku cs.length cs _ (U0.keep K nin0) i (by omega) (Nat.le_refl _) (by omega) (own_chg hC (by omega)) S_A S_H S_L) ?_
      intro v h1 D1 q hsz
      obtain ⟨rfl, rfl, rfl⟩ := q
      show Runs 1 l Z [("com/example/pacerd/pacerd/run/Outcome", 27), ("java/lang/String", 7)] n0 _ _ _ _ _ _ _ [t] h 1 (0 + NS) 29 #[.val (.ref u), .val (.int (1 : Int32)), .val (.int (Int32.ofNat (own_e8 (cs.take i)).length)), .val (.int (Int32.ofNat i)), .val (.int (Int32.ofNat cs.length)), .val (.ref t), _, .unset, .unset] [(.int (cs.getD i 0))]
      refine Runs.istore (ls' := #[.val (.ref u), .val (.int (1 : Int32)), .val (.int (Int32.ofNat (own_e8 (cs.take i)).length)), .val (.int (Int32.ofNat i)), .val (.int (Int32.ofNat cs.length)), .val (.ref t), .val (.int (cs.getD i 0)), .unset, .unset]) i56_29 rfl ?_
      refine Runs.iload i56_31 rfl ?_
      refine Runs.sipush (v := (128 : Int32)) i56_33 (by decide) ?_
      by_cases hc36 : (cs.getD i 0) < (128 : Int32)
      · refine Runs.icY (t := 42) i56_36 (by decide) (tlt hc36).1 ?_
        refine Runs.aload i56_42 rfl rfl ?_
        refine Runs.iloadN i56_44 rfl ?_
        refine Runs.iinc (z := (Int32.ofNat ((own_e8 (cs.take i)).length + 1))) (ls' := #[.val (.ref u), .val (.int (1 : Int32)), .val (.int (Int32.ofNat ((own_e8 (cs.take i)).length + 1))), .val (.int (Int32.ofNat i)), .val (.int (Int32.ofNat cs.length)), .val (.ref t), .val (.int (cs.getD i 0)), .unset, .unset]) i56_45 rfl (own_add (a := (own_e8 (cs.take i)).length) (b := 1) (by omega)) rfl ?_
        refine Runs.iload i56_48 rfl ?_
        refine Runs.i2b (z := (own_8 (cs.getD i 0))) i56_50 rfl ?_
        refine own_bapp (y := (own_8 (cs.getD i 0))) (L := (own_e8 (cs.take i))) (c := (3 * cs.length)) (j := (own_e8 (cs.take i)).length) i56_51 T (by first | rfl | (simp only [List.length_append, List.length_cons, List.length_nil, Nat.zero_add]; first | done | omega)) (by (try simp only [List.length_append, List.length_cons, List.length_nil, Nat.zero_add]); first | done | omega) (by omega) (own_88 _) ge (List.mem_of_getElem? (i := 0) rfl) ?_
        intro h_1 K_2 (A_3 : Arv Z h_1 t k .byte (Int32.ofNat (3 * cs.length)) (((own_e8 (cs.take i)) ++ [(own_8 (cs.getD i 0))]).map Value.int) (.int 0))
        refine Runs.iinc (z := (Int32.ofNat (i + 1))) (ls' := #[.val (.ref u), .val (.int (1 : Int32)), .val (.int (Int32.ofNat ((own_e8 (cs.take i)).length + 1))), .val (.int (Int32.ofNat (i + 1))), .val (.int (Int32.ofNat cs.length)), .val (.ref t), .val (.int (cs.getD i 0)), .unset, .unset]) i56_52 rfl (own_add (a := i) (b := 1) (by omega)) rfl ?_
        refine Runs.goto (t := 18) i56_55 (by decide) ?_
        have e : own_e8 (cs.take (i + 1)) = ((own_e8 (cs.take i)) ++ [(own_8 (cs.getD i 0))]) := by rw [own_e8s (by omega), own_enc1 hc36]; first | done | simp only [List.append_assoc, List.cons_append, List.nil_append]
        have T_4 : Arv Z h_1 t k .byte (Int32.ofNat (3 * cs.length)) ((own_e8 (cs.take (i + 1))).map Value.int) (.int 0) := by rw [e]; exact A_3
        have el : (own_e8 (cs.take (i + 1))).length = ((own_e8 (cs.take i)).length + 1) := (by (try rw [e]); (try simp only [List.length_append, List.length_cons, List.length_nil, Nat.zero_add]); first | done | omega)
        rw [← el]
        exact ih (i + 1) _ (.val (.int (cs.getD i 0))) (Or.inr ⟨_, rfl⟩) (by omega) (K.trans K_2 (allS (Or.inr gt) all0)) T_4
      · refine Runs.icN i56_36 (flt hc36).1 ?_
        refine Runs.goto (t := 58) i56_39 (by decide) ?_
        exact own_ew2 l Z a0 hw n0 u ku cs NS hcs hNS hC hS hlt h0 U0 hn0 S_A S_H S_L t k gt ge (d + 1) i _ (.val (.int (cs.getD i 0))) (Or.inr ⟨_, rfl⟩) (by omega) K T
set_option maxRecDepth 65536 in
set_option maxHeartbeats 4000000 in
theorem own_euw (l : Launch) (Z : State) (a0 : Array Value) (hw : Wds Z a0) (n0 : Nat) (u : Addr) (ku : ClassId) (cs : List Int32) (NS : Nat) (hcs : cs.length < 100000) (hNS : 3 * cs.length ≤ NS ∧ NS < 1000000) (hC : Chs cs) (hS : Nsr cs) (hlt : (own_e8 cs).length < 3 * cs.length) (h0 : Heap) (U0 : Arv Z h0 u ku .byte (Int32.ofNat (2 * cs.length)) (own_ws cs) (.int 0)) (hn0 : n0 ≤ h0.size) (S_A : Sta Z Z.heap "java/lang/StringUTF16" "$assertionsDisabled" "Z" (.int 1)) (S_H : Sta Z Z.heap "java/lang/StringUTF16" "HI_BYTE_SHIFT" "I" (.int 0)) (S_L : Sta Z Z.heap "java/lang/StringUTF16" "LO_BYTE_SHIFT" "I" (.int 8)) : Con 1 l Z [("com/example/pacerd/pacerd/run/Outcome", 27), ("java/lang/String", 7)] n0 (⟨"java/lang/String", "encodeUTF8_UTF16", "([BZ)[B"⟩ : MethodName) jdk_42_method_47_code 9 (some (.array .byte)) ({ frames := 2, cells := 2, slots := (NS + NS), locals := 62 } : Room) #[(.ref u), (.int (1 : Int32))] [] h0 (fun v h D' => ∃ b k, v = some (.ref b) ∧ h0.size ≤ b ∧ Keep h0 h [] ∧ Arv Z h b k .byte (Int32.ofNat (own_e8 cs).length) ((own_e8 cs).map Value.int) (.int 0) ∧ D' = [b]) := by
  refine Con.of_runs (ls := #[.val (.ref u), .val (.int (1 : Int32)), .unset, .unset, .unset, .unset, .unset, .unset, .unset]) (by decide +kernel) (ef rfl rfl) ?_
  refine Runs.iconst (v := (0 : Int32)) i56_0 (by decide) ?_
  refine Runs.istoreN (ls' := #[.val (.ref u), .val (.int (1 : Int32)), .val (.int (0 : Int32)), .unset, .unset, .unset, .unset, .unset, .unset]) i56_1 rfl ?_
  refine Runs.iconst (v := (0 : Int32)) i56_2 (by decide) ?_
  refine Runs.istoreN (ls' := #[.val (.ref u), .val (.int (1 : Int32)), .val (.int (0 : Int32)), .val (.int (0 : Int32)), .unset, .unset, .unset, .unset, .unset]) i56_3 rfl ?_
  refine Runs.aloadN i56_4 rfl rfl ?_
  refine Runs.arrlen i56_5 U0 ?_
  refine Runs.iconst (v := (1 : Int32)) i56_6 (by decide) ?_
  refine Runs.ishr (z := Int32.ofNat cs.length) i56_7 (own_shr1 (by omega)) ?_
  refine Runs.istore (ls' := #[.val (.ref u), .val (.int (1 : Int32)), .val (.int (0 : Int32)), .val (.int (0 : Int32)), .val (.int (Int32.ofNat cs.length)), .unset, .unset, .unset, .unset]) i56_8 rfl ?_
  refine Runs.iload i56_10 rfl ?_
  refine Runs.iconst (v := (3 : Int32)) i56_12 (by decide) ?_
  refine Runs.imul (z := Int32.ofNat (3 * cs.length)) i56_13 (own_mul3 (by omega)) ?_
  refine Runs.newP (cap := NS) (ad := "[B") i56_14 (w21 hw) (own_nn (n := (3 * cs.length)) (by omega)) (by rw [own_cl (n := (3 * cs.length)) (by omega)]; omega) (by omega) (by first | decide | (dsimp only; first | decide | omega)) (by first | decide | (dsimp only; first | decide | omega)) rfl ?_
  intro h_1 b_2 k_3 g_6 ge_7 K_4 (A_5 : Arv Z h_1 b_2 k_3 .byte (Int32.ofNat (3 * cs.length)) (([] : List Int32).map Value.int) (.int 0)) E_8
  refine Runs.astore (ls' := #[.val (.ref u), .val (.int (1 : Int32)), .val (.int (0 : Int32)), .val (.int (0 : Int32)), .val (.int (Int32.ofNat cs.length)), .val (.ref b_2), .unset, .unset, .unset]) i56_16 rfl rfl ?_
  exact own_ew1 l Z a0 hw n0 u ku cs NS hcs hNS hC hS hlt h0 U0 hn0 S_A S_H S_L b_2 k_3 g_6 ge_7 cs.length 0 _ .unset (Or.inl rfl) (by omega) K_4 A_5
set_option maxRecDepth 65536 in
set_option maxHeartbeats 4000000 in
theorem own_eu8 (l : Launch) (Z : State) (a0 : Array Value) (hw : Wds Z a0) (n0 : Nat) (cs : List Int32) (NS : Nat) (hcs : cs.length < 100000) (hNS : 3 * cs.length ≤ NS ∧ NS < 1000000) (hlt : (own_e8 cs).length < 3 * cs.length) (h0 : Heap) (hn0 : n0 ≤ h0.size) (u : Addr) (ku : ClassId) (U0 : Arv Z h0 u ku .byte (Int32.ofNat (2 * cs.length)) (own_ws cs) (.int 0)) (hC : Chs cs) (hS : Nsr cs) (S_A : Sta Z Z.heap "java/lang/StringUTF16" "$assertionsDisabled" "Z" (.int 1)) (S_H : Sta Z Z.heap "java/lang/StringUTF16" "HI_BYTE_SHIFT" "I" (.int 0)) (S_L : Sta Z Z.heap "java/lang/StringUTF16" "LO_BYTE_SHIFT" "I" (.int 8)) : Con 1 l Z [("com/example/pacerd/pacerd/run/Outcome", 27), ("java/lang/String", 7)] n0 (⟨"java/lang/String", "encodeUTF8", "(B[BZ)[B"⟩ : MethodName) jdk_42_method_46_code 9 (some (.array .byte)) ({ frames := 3, cells := 2, slots := (NS + NS), locals := 82 } : Room) #[(.int (1 : Int32)), (.ref u), (.int (1 : Int32))] [] h0 (fun v h D' => ∃ b k, v = some (.ref b) ∧ h0.size ≤ b ∧ Keep h0 h [] ∧ Arv Z h b k .byte (Int32.ofNat (own_e8 cs).length) ((own_e8 cs).map Value.int) (.int 0) ∧ D' = [b]) := by
  refine Con.of_runs (ls := #[.val (.int (1 : Int32)), .val (.ref u), .val (.int (1 : Int32)), .unset, .unset, .unset, .unset, .unset, .unset]) (by decide +kernel) (ef rfl rfl) ?_
  refine Runs.iloadN i29_0 rfl ?_
  refine Runs.iconst (v := (1 : Int32)) i29_1 (by decide) ?_
  refine Runs.icN i29_2 (teq (by decide : (1 : Int32) = (1 : Int32))).2 ?_
  refine Runs.aloadN i29_5 rfl rfl ?_
  refine Runs.iloadN i29_6 rfl ?_
  refine Runs.callSW (argsL := [(.ref u), (.int (1 : Int32))]) (rest := []) (W := 0) i29_7 (w287 hw) (w288 hw) (w9 hw) (w289 hw) (by decide) pd_34 rfl rfl rfl rfl (by first | decide | (dsimp only; first | decide | omega)) (by first | decide | (dsimp only; first | decide | omega)) (by first | decide | (dsimp only; first | decide | omega)) (by first | decide | (dsimp only; first | decide | omega)) all0 (by decide) (own_euw l Z a0 hw n0 u ku cs NS hcs hNS hC hS hlt _ U0 hn0 S_A S_H S_L) ?_
  intro v h1 D1 q hsz
  obtain ⟨b1, k1, rfl, g1, K1, A1, rfl⟩ := q
  show Runs 1 l Z [("com/example/pacerd/pacerd/run/Outcome", 27), ("java/lang/String", 7)] n0 _ _ _ _ _ _ _ [b1] h1 2 (0 + (NS + NS)) 10 #[.val (.int (1 : Int32)), .val (.ref u), .val (.int (1 : Int32)), .unset, .unset, .unset, .unset, .unset, .unset] [(.ref b1)]
  exact Runs.retA i29_10 rfl rfl rfl (by first | decide | (dsimp only; first | decide | omega)) (by first | decide | (dsimp only; first | decide | omega)) ⟨b1, k1, rfl, g1, K1, A1, rfl⟩
set_option maxRecDepth 65536 in
set_option maxHeartbeats 4000000 in
theorem own_enuw (l : Launch) (Z : State) (a0 : Array Value) (hw : Wds Z a0) (n0 : Nat) (cs : List Int32) (NS : Nat) (hcs : cs.length < 100000) (hNS : 3 * cs.length ≤ NS ∧ NS < 1000000) (hlt : (own_e8 cs).length < 3 * cs.length) (h0 : Heap) (hn0 : n0 ≤ h0.size) (u : Addr) (ku : ClassId) (U0 : Arv Z h0 u ku .byte (Int32.ofNat (2 * cs.length)) (own_ws cs) (.int 0)) (hC : Chs cs) (hS : Nsr cs) (S_A : Sta Z Z.heap "java/lang/StringUTF16" "$assertionsDisabled" "Z" (.int 1)) (S_H : Sta Z Z.heap "java/lang/StringUTF16" "HI_BYTE_SHIFT" "I" (.int 0)) (S_L : Sta Z Z.heap "java/lang/StringUTF16" "LO_BYTE_SHIFT" "I" (.int 8)) (u8 : Addr) (S_I : Sta Z Z.heap "sun/nio/cs/UTF_8" "INSTANCE" "Lsun/nio/cs/UTF_8;" (.ref u8)) : Con 1 l Z [("com/example/pacerd/pacerd/run/Outcome", 27), ("java/lang/String", 7)] n0 (⟨"java/lang/String", "encode", "(Ljava/nio/charset/Charset;B[B)[B"⟩ : MethodName) jdk_42_method_18_code 3 (some (.array .byte)) ({ frames := 4, cells := 2, slots := (NS + NS), locals := 102 } : Room) #[(.ref u8), (.int (1 : Int32)), (.ref u)] [] h0 (fun v h D' => ∃ b k, v = some (.ref b) ∧ h0.size ≤ b ∧ Keep h0 h [] ∧ Arv Z h b k .byte (Int32.ofNat (own_e8 cs).length) ((own_e8 cs).map Value.int) (.int 0) ∧ D' = [b]) := by
  refine Con.of_runs (ls := #[.val (.ref u8), .val (.int (1 : Int32)), .val (.ref u)]) (by decide +kernel) (ef rfl rfl) ?_
  refine Runs.aloadN i28_0 rfl rfl ?_
  refine Runs.getS i28_1 (w154 hw) Via.refl S_I ?_
  refine Runs.acN i28_4 rfl rfl (Jvm.Free.XT.aa_ne_f (congrArg Value.ref rfl)) ?_
  refine Runs.iloadN i28_7 rfl ?_
  refine Runs.aloadN i28_8 rfl rfl ?_
  refine Runs.iconst (v := (1 : Int32)) i28_9 (by decide) ?_
  refine Runs.callSW (argsL := [(.int (1 : Int32)), (.ref u), (.int (1 : Int32))]) (rest := []) (W := 0) i28_10 (w156 hw) (w157 hw) (w9 hw) (w158 hw) (by decide) pd_31 rfl rfl rfl rfl (by first | decide | (dsimp only; first | decide | omega)) (by first | decide | (dsimp only; first | decide | omega)) (by first | decide | (dsimp only; first | decide | omega)) (by first | decide | (dsimp only; first | decide | omega)) all0 (by decide) (own_eu8 l Z a0 hw n0 cs NS hcs hNS hlt _ hn0 u ku U0 hC hS S_A S_H S_L) ?_
  intro v h1 D1 q hsz
  obtain ⟨b1, k1, rfl, g1, K1, A1, rfl⟩ := q
  show Runs 1 l Z [("com/example/pacerd/pacerd/run/Outcome", 27), ("java/lang/String", 7)] n0 _ _ _ _ _ _ _ [b1] h1 2 (0 + (NS + NS)) 13 #[.val (.ref u8), .val (.int (1 : Int32)), .val (.ref u)] [(.ref b1)]
  exact Runs.retA i28_13 rfl rfl rfl (by first | decide | (dsimp only; first | decide | omega)) (by first | decide | (dsimp only; first | decide | omega)) ⟨b1, k1, rfl, g1, K1, A1, rfl⟩
set_option maxRecDepth 65536 in
set_option maxHeartbeats 4000000 in
theorem own_gu8w (l : Launch) (Z : State) (a0 : Array Value) (hw : Wds Z a0) (n0 : Nat) (cs : List Int32) (NS : Nat) (hcs : cs.length < 100000) (hNS : 3 * cs.length ≤ NS ∧ NS < 1000000) (hlt : (own_e8 cs).length < 3 * cs.length) (h0 : Heap) (hn0 : n0 ≤ h0.size) (s u : Addr) (ku : ClassId) (S0 : Stw Z h0 s u ku cs) (hS : Nsr cs) (S_A : Sta Z Z.heap "java/lang/StringUTF16" "$assertionsDisabled" "Z" (.int 1)) (S_H : Sta Z Z.heap "java/lang/StringUTF16" "HI_BYTE_SHIFT" "I" (.int 0)) (S_L : Sta Z Z.heap "java/lang/StringUTF16" "LO_BYTE_SHIFT" "I" (.int 8)) (u8 : Addr) (S_I : Sta Z Z.heap "sun/nio/cs/UTF_8" "INSTANCE" "Lsun/nio/cs/UTF_8;" (.ref u8)) (cpt : Int32) (S_C : Sta Z Z.heap "java/lang/String" "COMPACT_STRINGS" "Z" (.int cpt)) (hcpt : ¬ cpt = 0) : Con 1 l Z [("com/example/pacerd/pacerd/run/Outcome", 27), ("java/lang/String", 7)] n0 (⟨"java/lang/String", "getBytes", "(Ljava/nio/charset/Charset;)[B"⟩ : MethodName) jdk_42_method_64_code 2 (some (.array .byte)) ({ frames := 5, cells := 2, slots := (NS + NS), locals := 116 } : Room) #[(.ref s), (.ref u8)] [] h0 (fun v h D' => ∃ b k, v = some (.ref b) ∧ h0.size ≤ b ∧ Keep h0 h [] ∧ Arv Z h b k .byte (Int32.ofNat (own_e8 cs).length) ((own_e8 cs).map Value.int) (.int 0) ∧ D' = [b]) := by
  refine Con.of_runs (ls := #[.val (.ref s), .val (.ref u8)]) (by decide +kernel) (ef rfl rfl) ?_
  refine Runs.aloadN i27_0 rfl rfl ?_
  refine Runs.nnullY (t := 12) i27_1 (by decide) ?_
  refine Runs.aloadN i27_12 rfl rfl ?_
  refine Runs.aloadN i27_13 rfl rfl ?_
  refine Runs.callVW (argsL := []) (rest := [(.ref u8)]) (W := 1) i27_14 (w66 hw) (w67 hw) (fun s hZ => notFace_of_selects (args := #[]) (mvT hZ (w69 hw))) (w69 hw) (w68 hw) (w70 hw) (w9 hw) (by decide) S0.1.1 pd_9 rfl rfl rfl rfl (by first | decide | (dsimp only; first | decide | omega)) (by first | decide | (dsimp only; first | decide | omega)) (by first | decide | (dsimp only; first | decide | omega)) (by first | decide | (dsimp only; first | decide | omega)) all0 (by decide) (own_cow l Z a0 hw n0 s u ku cs _ S0 cpt S_C hcpt) ?_
  intro v h1 D1 q hsz
  obtain ⟨rfl, rfl, rfl⟩ := q
  show Runs 1 l Z [("com/example/pacerd/pacerd/run/Outcome", 27), ("java/lang/String", 7)] n0 _ _ _ _ _ _ _ [] h0 0 0 17 #[.val (.ref s), .val (.ref u8)] [(.int (1 : Int32)), (.ref u8)]
  refine Runs.aloadN i27_17 rfl rfl ?_
  refine Runs.getF i27_18 (host := "") (Or.inl (w26 hw)) Via.refl (S0.1.fld (i := 0) rfl) ?_
  refine Runs.callSW (argsL := [(.ref u8), (.int (1 : Int32)), (.ref u)]) (rest := []) (W := 0) i27_21 (w151 hw) (w152 hw) (w9 hw) (w153 hw) (by decide) pd_32 rfl rfl rfl rfl (by first | decide | (dsimp only; first | decide | omega)) (by first | decide | (dsimp only; first | decide | omega)) (by first | decide | (dsimp only; first | decide | omega)) (by first | decide | (dsimp only; first | decide | omega)) all0 (by decide) (own_enuw l Z a0 hw n0 cs NS hcs hNS hlt _ hn0 u ku S0.2.1 S0.2.2.1 hS S_A S_H S_L u8 S_I) ?_
  intro v h1 D1 q hsz
  obtain ⟨b1, k1, rfl, g1, K1, A1, rfl⟩ := q
  show Runs 1 l Z [("com/example/pacerd/pacerd/run/Outcome", 27), ("java/lang/String", 7)] n0 _ _ _ _ _ _ _ [b1] h1 2 (0 + (NS + NS)) 24 #[.val (.ref s), .val (.ref u8)] [(.ref b1)]
  exact Runs.retA i27_24 rfl rfl rfl (by first | decide | (dsimp only; first | decide | omega)) (by first | decide | (dsimp only; first | decide | omega)) ⟨b1, k1, rfl, g1, K1, A1, rfl⟩
def own_dr (x : Int32) : Int32 := if (x &&& 65535) < 55296 then x &&& 65535 else if (57343 : Int32) < (x &&& 65535) then x &&& 65535 else (x &&& 65535) - 2048
theorem own_drc (x : Int32) : (¬ own_dr x < 0 ∧ ¬ (65535 : Int32) < own_dr x) ∧ (own_dr x < 55296 ∨ ¬ own_dr x < 57344) := by
  have h : (x &&& 65535).toInt = x.toInt % (2 ^ 16 : Nat) := c_mask x 65535 16 (by decide) (by decide)
  have e0 : (0 : Int32).toInt = 0 := rfl
  have e1 : (65535 : Int32).toInt = 65535 := rfl
  have e2 : (55296 : Int32).toInt = 55296 := rfl
  have e3 : (57344 : Int32).toInt = 57344 := rfl
  have e4 : (57343 : Int32).toInt = 57343 := rfl
  have e5 : (2048 : Int32).toInt = 2048 := rfl
  have h2 := c_isub (x &&& 65535) 2048
  have h3 := Int32.toInt_lt ((x &&& 65535) - 2048); have h4 := Int32.le_toInt ((x &&& 65535) - 2048)
  unfold own_dr
  simp only [Int32.lt_iff_toInt_lt]
  split
  · omega
  · split <;> omega
theorem own_dr1 {x : Int32} (h : (x &&& 65535) < 55296) : own_dr x = x &&& 65535 := if_pos h
theorem own_dr2 {x : Int32} (h : ¬ (x &&& 65535) < 55296) (h2 : (57343 : Int32) < (x &&& 65535)) : own_dr x = x &&& 65535 := (if_neg h).trans (if_pos h2)
theorem own_dr3 {x : Int32} (h : ¬ (x &&& 65535) < 55296) (h2 : ¬ (57343 : Int32) < (x &&& 65535)) : own_dr x = (x &&& 65535) - 2048 := (if_neg h).trans (if_neg h2)
def own_P : List Int32 := [112, 97, 99, 101, 114, 100, 58, 32]
theorem own_PT : own_e8 (own_T 50) = own_P := by unfold own_T own_P; decide +kernel
theorem own_TN : Nsr (own_T 50) := by unfold own_T Nsr; decide +kernel
set_option maxRecDepth 65536 in
set_option maxHeartbeats 4000000 in
theorem own_drw (l : Launch) (Z : State) (a0 : Array Value) (hw : Wds Z a0) (n0 : Nat) (x : Int32) (h0 : Heap) : Con 1 l Z [("com/example/pacerd/pacerd/run/Outcome", 27), ("java/lang/String", 7)] n0 (⟨"com/example/pacerd/pacerd/run/OutcomeFailurePinLaw", "draw", "(I)I"⟩ : MethodName) method_2_code 2 (some .int) ({ frames := 0, cells := 0, slots := 0, locals := 0 } : Room) #[(.int x)] [] h0 (fun v h D' => v = some (.int (own_dr x)) ∧ h0 = h ∧ D' = []) := by
  refine Con.of_runs (ls := #[.val (.int x), .unset]) (by decide +kernel) (ef rfl rfl) ?_
  refine Runs.iloadN i1_0 rfl ?_
  refine Runs.ldcI i1_1 (w4 hw) ?_
  refine Runs.iand (z := (x &&& (65535 : Int32))) i1_3 rfl ?_
  refine Runs.istoreN (ls' := #[.val (.int x), .val (.int (x &&& (65535 : Int32)))]) i1_4 rfl ?_
  refine Runs.iloadN i1_5 rfl ?_
  refine Runs.ldcI i1_6 (w5 hw) ?_
  by_cases hc8 : (x &&& (65535 : Int32)) < (55296 : Int32)
  · refine Runs.icY (t := 23) i1_8 (by decide) (tlt hc8).1 ?_
    refine Runs.iloadN i1_23 rfl ?_
    exact Runs.retI (z := (x &&& (65535 : Int32))) i1_24 rfl (Or.inl rfl) rfl (by decide) (by decide) ⟨by rw [own_dr1 hc8], rfl, rfl⟩
  · refine Runs.icN i1_8 (flt hc8).1 ?_
    refine Runs.iloadN i1_11 rfl ?_
    refine Runs.ldcI i1_12 (w296 hw) ?_
    by_cases hc14 : (57343 : Int32) < (x &&& (65535 : Int32))
    · refine Runs.icY (t := 23) i1_14 (by decide) (tlt hc14).2.2.1 ?_
      refine Runs.iloadN i1_23 rfl ?_
      exact Runs.retI (z := (x &&& (65535 : Int32))) i1_24 rfl (Or.inl rfl) rfl (by decide) (by decide) ⟨by rw [own_dr2 hc8 hc14], rfl, rfl⟩
    · refine Runs.icN i1_14 (flt hc14).2.2.1 ?_
      refine Runs.iloadN i1_17 rfl ?_
      refine Runs.sipush (v := (2048 : Int32)) i1_18 (by decide) ?_
      refine Runs.isub (z := ((x &&& (65535 : Int32)) - (2048 : Int32))) i1_21 rfl ?_
      refine Runs.istoreN (ls' := #[.val (.int x), .val (.int ((x &&& (65535 : Int32)) - (2048 : Int32)))]) i1_22 rfl ?_
      refine Runs.iloadN i1_23 rfl ?_
      exact Runs.retI (z := ((x &&& (65535 : Int32)) - (2048 : Int32))) i1_24 rfl (Or.inl rfl) rfl (by decide) (by decide) ⟨by rw [own_dr3 hc8 hc14], rfl, rfl⟩
set_option maxRecDepth 65536 in
set_option maxHeartbeats 4000000 in
theorem own_putc (l : Launch) (Z : State) (a0 : Array Value) (hw : Wds Z a0) (n0 : Nat) (e : Addr) (ke : ClassId) (L : List Int32) (c : Int32) (hL : L.length + 3 ≤ 17) (ge : n0 ≤ e) (h0 : Heap) (E0 : Arv Z h0 e ke .byte (Int32.ofNat 17) (L.map Value.int) (.int 0)) : Con 1 l Z [("com/example/pacerd/pacerd/run/Outcome", 27), ("java/lang/String", 7)] n0 (⟨"com/example/pacerd/pacerd/run/OutcomeFailurePinLaw", "put", "([BII)I"⟩ : MethodName) method_3_code 3 (some .int) ({ frames := 0, cells := 0, slots := 0, locals := 0 } : Room) #[(.ref e), (.int (Int32.ofNat L.length)), (.int c)] [e] h0 (fun v h D' => v = some (.int (Int32.ofNat (L ++ own_enc c).length)) ∧ Keep h0 h [e] ∧ Arv Z h e ke .byte (Int32.ofNat 17) ((L ++ own_enc c).map Value.int) (.int 0) ∧ D' = []) := by
  refine Con.of_runs (ls := #[.val (.ref e), .val (.int (Int32.ofNat L.length)), .val (.int c)]) (by decide +kernel) (ef rfl rfl) ?_
  refine Runs.iloadN i42_0 rfl ?_
  refine Runs.sipush (v := (128 : Int32)) i42_1 (by decide) ?_
  by_cases hc4 : c < (128 : Int32)
  · refine Runs.icN i42_4 (tlt hc4).2.1 ?_
    refine Runs.aloadN i42_7 rfl rfl ?_
    refine Runs.iloadN i42_8 rfl ?_
    refine Runs.iloadN i42_9 rfl ?_
    refine Runs.i2b (z := (own_8 c)) i42_10 rfl ?_
    refine own_bapp (y := (own_8 c)) (L := L) (c := 17) (j := L.length) i42_11 E0 (by first | rfl | (simp only [List.length_append, List.length_cons, List.length_nil, Nat.zero_add]; first | done | omega)) (by (try simp only [List.length_append, List.length_cons, List.length_nil, Nat.zero_add]); first | done | omega) (by omega) (own_88 _) ge (List.mem_of_getElem? (i := 0) rfl) ?_
    intro h_1 K_2 (A_3 : Arv Z h_1 e ke .byte (Int32.ofNat 17) ((L ++ [(own_8 c)]).map Value.int) (.int 0))
    refine Runs.iloadN i42_12 rfl ?_
    refine Runs.iconst (v := (1 : Int32)) i42_13 (by decide) ?_
    refine Runs.iadd (z := (Int32.ofNat (L.length + 1))) i42_14 (own_add (a := L.length) (b := 1) (by omega)) ?_
    refine Runs.weak (D1 := []) (fun _ q => nomatch q) ?_
    have e1 : L ++ own_enc c = (L ++ [(own_8 c)]) := by rw [own_enc1 hc4]; first | done | simp only [List.append_assoc, List.cons_append, List.nil_append]
    exact Runs.retI (z := (Int32.ofNat (L.length + 1))) i42_15 rfl (Or.inl rfl) rfl (by decide) (by decide) ⟨congrArg (fun n => some (Value.int (Int32.ofNat n))) (by (try rw [e1]); (try simp only [List.length_append, List.length_cons, List.length_nil, Nat.zero_add]); first | done | omega), ((Keep.refl _ _).trans K_2 (allS (Or.inl (List.mem_of_getElem? (i := 0) rfl)) all0)), by rw [e1]; exact A_3, rfl⟩
  · refine Runs.icY (t := 16) i42_4 (by decide) (flt hc4).2.1 ?_
    refine Runs.iloadN i42_16 rfl ?_
    refine Runs.sipush (v := (2048 : Int32)) i42_17 (by decide) ?_
    by_cases hc20 : c < (2048 : Int32)
    · refine Runs.icN i42_20 (tlt hc20).2.1 ?_
      refine Runs.aloadN i42_23 rfl rfl ?_
      refine Runs.iloadN i42_24 rfl ?_
      refine Runs.sipush (v := (192 : Int32)) i42_25 (by decide) ?_
      refine Runs.iloadN i42_28 rfl ?_
      refine Runs.bipush (v := (6 : Int32)) i42_29 (by decide) ?_
      refine Runs.ishr (z := (c >>> ((6 : Int32) &&& 31))) i42_31 rfl ?_
      refine Runs.ior (z := ((192 : Int32) ||| (c >>> ((6 : Int32) &&& 31)))) i42_32 rfl ?_
      refine Runs.i2b (z := (own_8 ((192 : Int32) ||| (c >>> ((6 : Int32) &&& 31))))) i42_33 rfl ?_
      refine own_bapp (y := (own_8 ((192 : Int32) ||| (c >>> ((6 : Int32) &&& 31))))) (L := L) (c := 17) (j := L.length) i42_34 E0 (by first | rfl | (simp only [List.length_append, List.length_cons, List.length_nil, Nat.zero_add]; first | done | omega)) (by (try simp only [List.length_append, List.length_cons, List.length_nil, Nat.zero_add]); first | done | omega) (by omega) (own_88 _) ge (List.mem_of_getElem? (i := 0) rfl) ?_
      intro h_4 K_5 (A_6 : Arv Z h_4 e ke .byte (Int32.ofNat 17) ((L ++ [(own_8 ((192 : Int32) ||| (c >>> ((6 : Int32) &&& 31))))]).map Value.int) (.int 0))
      refine Runs.aloadN i42_35 rfl rfl ?_
      refine Runs.iloadN i42_36 rfl ?_
      refine Runs.iconst (v := (1 : Int32)) i42_37 (by decide) ?_
      refine Runs.iadd (z := (Int32.ofNat (L.length + 1))) i42_38 (own_add (a := L.length) (b := 1) (by omega)) ?_
      refine Runs.sipush (v := (128 : Int32)) i42_39 (by decide) ?_
      refine Runs.iloadN i42_42 rfl ?_
      refine Runs.bipush (v := (63 : Int32)) i42_43 (by decide) ?_
      refine Runs.iand (z := (c &&& (63 : Int32))) i42_45 rfl ?_
      refine Runs.ior (z := ((128 : Int32) ||| (c &&& (63 : Int32)))) i42_46 rfl ?_
      refine Runs.i2b (z := (own_8 ((128 : Int32) ||| (c &&& (63 : Int32))))) i42_47 rfl ?_
      refine own_bapp (y := (own_8 ((128 : Int32) ||| (c &&& (63 : Int32))))) (L := (L ++ [(own_8 ((192 : Int32) ||| (c >>> ((6 : Int32) &&& 31))))])) (c := 17) (j := (L.length + 1)) i42_48 A_6 (by first | rfl | (simp only [List.length_append, List.length_cons, List.length_nil, Nat.zero_add]; first | done | omega)) (by (try simp only [List.length_append, List.length_cons, List.length_nil, Nat.zero_add]); first | done | omega) (by omega) (own_88 _) ge (List.mem_of_getElem? (i := 0) rfl) ?_
      intro h_7 K_8 (A_9 : Arv Z h_7 e ke .byte (Int32.ofNat 17) (((L ++ [(own_8 ((192 : Int32) ||| (c >>> ((6 : Int32) &&& 31))))]) ++ [(own_8 ((128 : Int32) ||| (c &&& (63 : Int32))))]).map Value.int) (.int 0))
      refine Runs.iloadN i42_49 rfl ?_
      refine Runs.iconst (v := (2 : Int32)) i42_50 (by decide) ?_
      refine Runs.iadd (z := (Int32.ofNat (L.length + 2))) i42_51 (own_add (a := L.length) (b := 2) (by omega)) ?_
      refine Runs.weak (D1 := []) (fun _ q => nomatch q) ?_
      have e1 : L ++ own_enc c = ((L ++ [(own_8 ((192 : Int32) ||| (c >>> ((6 : Int32) &&& 31))))]) ++ [(own_8 ((128 : Int32) ||| (c &&& (63 : Int32))))]) := by rw [own_enc2 hc4 hc20]; first | done | simp only [List.append_assoc, List.cons_append, List.nil_append]
      exact Runs.retI (z := (Int32.ofNat (L.length + 2))) i42_52 rfl (Or.inl rfl) rfl (by decide) (by decide) ⟨congrArg (fun n => some (Value.int (Int32.ofNat n))) (by (try rw [e1]); (try simp only [List.length_append, List.length_cons, List.length_nil, Nat.zero_add]); first | done | omega), (((Keep.refl _ _).trans K_5 (allS (Or.inl (List.mem_of_getElem? (i := 0) rfl)) all0)).trans K_8 (allS (Or.inl (List.mem_of_getElem? (i := 0) rfl)) all0)), by rw [e1]; exact A_9, rfl⟩
    · refine Runs.icY (t := 53) i42_20 (by decide) (flt hc20).2.1 ?_
      refine Runs.aloadN i42_53 rfl rfl ?_
      refine Runs.iloadN i42_54 rfl ?_
      refine Runs.sipush (v := (224 : Int32)) i42_55 (by decide) ?_
      refine Runs.iloadN i42_58 rfl ?_
      refine Runs.bipush (v := (12 : Int32)) i42_59 (by decide) ?_
      refine Runs.ishr (z := (c >>> ((12 : Int32) &&& 31))) i42_61 rfl ?_
      refine Runs.ior (z := ((224 : Int32) ||| (c >>> ((12 : Int32) &&& 31)))) i42_62 rfl ?_
      refine Runs.i2b (z := (own_8 ((224 : Int32) ||| (c >>> ((12 : Int32) &&& 31))))) i42_63 rfl ?_
      refine own_bapp (y := (own_8 ((224 : Int32) ||| (c >>> ((12 : Int32) &&& 31))))) (L := L) (c := 17) (j := L.length) i42_64 E0 (by first | rfl | (simp only [List.length_append, List.length_cons, List.length_nil, Nat.zero_add]; first | done | omega)) (by (try simp only [List.length_append, List.length_cons, List.length_nil, Nat.zero_add]); first | done | omega) (by omega) (own_88 _) ge (List.mem_of_getElem? (i := 0) rfl) ?_
      intro h_10 K_11 (A_12 : Arv Z h_10 e ke .byte (Int32.ofNat 17) ((L ++ [(own_8 ((224 : Int32) ||| (c >>> ((12 : Int32) &&& 31))))]).map Value.int) (.int 0))
      refine Runs.aloadN i42_65 rfl rfl ?_
      refine Runs.iloadN i42_66 rfl ?_
      refine Runs.iconst (v := (1 : Int32)) i42_67 (by decide) ?_
      refine Runs.iadd (z := (Int32.ofNat (L.length + 1))) i42_68 (own_add (a := L.length) (b := 1) (by omega)) ?_
      refine Runs.sipush (v := (128 : Int32)) i42_69 (by decide) ?_
      refine Runs.iloadN i42_72 rfl ?_
      refine Runs.bipush (v := (6 : Int32)) i42_73 (by decide) ?_
      refine Runs.ishr (z := (c >>> ((6 : Int32) &&& 31))) i42_75 rfl ?_
      refine Runs.bipush (v := (63 : Int32)) i42_76 (by decide) ?_
      refine Runs.iand (z := ((c >>> ((6 : Int32) &&& 31)) &&& (63 : Int32))) i42_78 rfl ?_
      refine Runs.ior (z := ((128 : Int32) ||| ((c >>> ((6 : Int32) &&& 31)) &&& (63 : Int32)))) i42_79 rfl ?_
      refine Runs.i2b (z := (own_8 ((128 : Int32) ||| ((c >>> ((6 : Int32) &&& 31)) &&& (63 : Int32))))) i42_80 rfl ?_
      refine own_bapp (y := (own_8 ((128 : Int32) ||| ((c >>> ((6 : Int32) &&& 31)) &&& (63 : Int32))))) (L := (L ++ [(own_8 ((224 : Int32) ||| (c >>> ((12 : Int32) &&& 31))))])) (c := 17) (j := (L.length + 1)) i42_81 A_12 (by first | rfl | (simp only [List.length_append, List.length_cons, List.length_nil, Nat.zero_add]; first | done | omega)) (by (try simp only [List.length_append, List.length_cons, List.length_nil, Nat.zero_add]); first | done | omega) (by omega) (own_88 _) ge (List.mem_of_getElem? (i := 0) rfl) ?_
      intro h_13 K_14 (A_15 : Arv Z h_13 e ke .byte (Int32.ofNat 17) (((L ++ [(own_8 ((224 : Int32) ||| (c >>> ((12 : Int32) &&& 31))))]) ++ [(own_8 ((128 : Int32) ||| ((c >>> ((6 : Int32) &&& 31)) &&& (63 : Int32))))]).map Value.int) (.int 0))
      refine Runs.aloadN i42_82 rfl rfl ?_
      refine Runs.iloadN i42_83 rfl ?_
      refine Runs.iconst (v := (2 : Int32)) i42_84 (by decide) ?_
      refine Runs.iadd (z := (Int32.ofNat (L.length + 2))) i42_85 (own_add (a := L.length) (b := 2) (by omega)) ?_
      refine Runs.sipush (v := (128 : Int32)) i42_86 (by decide) ?_
      refine Runs.iloadN i42_89 rfl ?_
      refine Runs.bipush (v := (63 : Int32)) i42_90 (by decide) ?_
      refine Runs.iand (z := (c &&& (63 : Int32))) i42_92 rfl ?_
      refine Runs.ior (z := ((128 : Int32) ||| (c &&& (63 : Int32)))) i42_93 rfl ?_
      refine Runs.i2b (z := (own_8 ((128 : Int32) ||| (c &&& (63 : Int32))))) i42_94 rfl ?_
      refine own_bapp (y := (own_8 ((128 : Int32) ||| (c &&& (63 : Int32))))) (L := ((L ++ [(own_8 ((224 : Int32) ||| (c >>> ((12 : Int32) &&& 31))))]) ++ [(own_8 ((128 : Int32) ||| ((c >>> ((6 : Int32) &&& 31)) &&& (63 : Int32))))])) (c := 17) (j := (L.length + 2)) i42_95 A_15 (by first | rfl | (simp only [List.length_append, List.length_cons, List.length_nil, Nat.zero_add]; first | done | omega)) (by (try simp only [List.length_append, List.length_cons, List.length_nil, Nat.zero_add]); first | done | omega) (by omega) (own_88 _) ge (List.mem_of_getElem? (i := 0) rfl) ?_
      intro h_16 K_17 (A_18 : Arv Z h_16 e ke .byte (Int32.ofNat 17) ((((L ++ [(own_8 ((224 : Int32) ||| (c >>> ((12 : Int32) &&& 31))))]) ++ [(own_8 ((128 : Int32) ||| ((c >>> ((6 : Int32) &&& 31)) &&& (63 : Int32))))]) ++ [(own_8 ((128 : Int32) ||| (c &&& (63 : Int32))))]).map Value.int) (.int 0))
      refine Runs.iloadN i42_96 rfl ?_
      refine Runs.iconst (v := (3 : Int32)) i42_97 (by decide) ?_
      refine Runs.iadd (z := (Int32.ofNat (L.length + 3))) i42_98 (own_add (a := L.length) (b := 3) (by omega)) ?_
      refine Runs.weak (D1 := []) (fun _ q => nomatch q) ?_
      have e1 : L ++ own_enc c = (((L ++ [(own_8 ((224 : Int32) ||| (c >>> ((12 : Int32) &&& 31))))]) ++ [(own_8 ((128 : Int32) ||| ((c >>> ((6 : Int32) &&& 31)) &&& (63 : Int32))))]) ++ [(own_8 ((128 : Int32) ||| (c &&& (63 : Int32))))]) := by rw [own_enc3 hc4 hc20]; first | done | simp only [List.append_assoc, List.cons_append, List.nil_append]
      exact Runs.retI (z := (Int32.ofNat (L.length + 3))) i42_99 rfl (Or.inl rfl) rfl (by decide) (by decide) ⟨congrArg (fun n => some (Value.int (Int32.ofNat n))) (by (try rw [e1]); (try simp only [List.length_append, List.length_cons, List.length_nil, Nat.zero_add]); first | done | omega), ((((Keep.refl _ _).trans K_11 (allS (Or.inl (List.mem_of_getElem? (i := 0) rfl)) all0)).trans K_14 (allS (Or.inl (List.mem_of_getElem? (i := 0) rfl)) all0)).trans K_17 (allS (Or.inl (List.mem_of_getElem? (i := 0) rfl)) all0)), by rw [e1]; exact A_18, rfl⟩
set_option maxRecDepth 65536 in
set_option maxHeartbeats 4000000 in
theorem own_eqc (l : Launch) (Z : State) (a0 : Array Value) (hw : Wds Z a0) (n0 : Nat) (b e : Addr) (kb ke : ClassId) (L : List Int32) (hL : L.length ≤ 17) (i : Nat) (hi : i < 17) (h0 : Heap) (B0 : Arv Z h0 b kb .byte (Int32.ofNat L.length) (L.map Value.int) (.int 0)) (E0 : Arv Z h0 e ke .byte (Int32.ofNat 17) (L.map Value.int) (.int 0)) : Con 1 l Z [("com/example/pacerd/pacerd/run/Outcome", 27), ("java/lang/String", 7)] n0 (⟨"com/example/pacerd/pacerd/run/OutcomeFailurePinLaw", "eq", "([B[BII)Z"⟩ : MethodName) method_4_code 4 (some .boolean) ({ frames := 0, cells := 0, slots := 0, locals := 0 } : Room) #[(.ref b), (.ref e), (.int (Int32.ofNat L.length)), (.int (Int32.ofNat i))] [] h0 (fun v h D' => v = some (.int 1) ∧ h0 = h ∧ D' = []) := by
  refine Con.of_runs (ls := #[.val (.ref b), .val (.ref e), .val (.int (Int32.ofNat L.length)), .val (.int (Int32.ofNat i))]) (by decide +kernel) (ef rfl rfl) ?_
  refine Runs.iloadN i38_0 rfl ?_
  refine Runs.iloadN i38_1 rfl ?_
  by_cases hc2 : (Int32.ofNat i) < (Int32.ofNat L.length)
  · refine Runs.icN i38_2 (tlt hc2).2.1 ?_
    have hiL : i < L.length := (own_ltI (by omega) (by omega)).mp hc2
    refine Runs.aloadN i38_5 rfl rfl ?_
    refine Runs.iloadN i38_6 rfl ?_
    refine Runs.baload (v := .int (L.getD i 0)) i38_7 B0 ⟨own_nn (by omega), own_lt (a := i) (b := L.length) (by omega) (by omega)⟩ (by rw [own_cl (by omega)]; exact own_getb _ _) ?_
    refine Runs.aloadN i38_8 rfl rfl ?_
    refine Runs.iloadN i38_9 rfl ?_
    refine Runs.baload (v := .int (L.getD i 0)) i38_10 E0 ⟨own_nn (by omega), own_lt (a := i) (b := 17) (by omega) (by omega)⟩ (by rw [own_cl (by omega)]; exact own_getb _ _) ?_
    refine Runs.icN i38_11 (teq (rfl : (L.getD i 0) = (L.getD i 0))).2 ?_
    refine Runs.iconst (v := (1 : Int32)) i38_14 (by decide) ?_
    refine Runs.goto (t := 19) i38_15 (by decide) ?_
    exact Runs.retI (z := (1 : Int32)) i38_19 rfl (Or.inr (Or.inl rfl)) (by decide) (by decide) (by decide) ⟨rfl, rfl, rfl⟩
  · refine Runs.icY (t := 14) i38_2 (by decide) (flt hc2).2.1 ?_
    refine Runs.iconst (v := (1 : Int32)) i38_14 (by decide) ?_
    refine Runs.goto (t := 19) i38_15 (by decide) ?_
    exact Runs.retI (z := (1 : Int32)) i38_19 rfl (Or.inr (Or.inl rfl)) (by decide) (by decide) (by decide) ⟨rfl, rfl, rfl⟩
set_option maxRecDepth 65536 in
set_option maxHeartbeats 4000000 in
theorem own_cR (l : Launch) (Z : State) (a0 : Array Value) (hw : Wds Z a0) (n0 : Nat) (a : Addr) (h0 : Heap) : Con 1 l Z [("com/example/pacerd/pacerd/run/Outcome", 27), ("java/lang/String", 7)] n0 (⟨"java/lang/Record", "<init>", "()V"⟩ : MethodName) jdk_30_method_1_code 1 none ({ frames := 1, cells := 0, slots := 0, locals := 12 } : Room) #[(.ref a)] [] h0 (fun v h D' => v = none ∧ h0 = h ∧ D' = []) := by
  refine Con.of_runs (ls := #[.val (.ref a)]) (by decide +kernel) (ef rfl rfl) ?_
  refine Runs.aloadN i33_0 rfl rfl ?_
  refine Runs.initO (W := 0) i33_1 (w188 hw) (w18 hw) (w19 hw) rfl (by decide) rfl (by decide) ?_
  exact Runs.retV i33_4 rfl (by decide) (by decide) ⟨rfl, rfl, rfl⟩
set_option maxRecDepth 65536 in
set_option maxHeartbeats 4000000 in
theorem own_cI (l : Launch) (Z : State) (a0 : Array Value) (hw : Wds Z a0) (n0 : Nat) (a sF b : Addr) (h0 : Heap) (ga : n0 ≤ a) (O0 : Obj Z h0 a "com/example/pacerd/pacerd/run/Outcome" [("com/example/pacerd/pacerd/run/Outcome", "status", "Lcom/example/pacerd/pacerd/run/RunStatus;", .null), ("com/example/pacerd/pacerd/run/Outcome", "exitCode", "Ljava/lang/Integer;", .null), ("com/example/pacerd/pacerd/run/Outcome", "httpStatus", "Ljava/lang/Integer;", .null), ("com/example/pacerd/pacerd/run/Outcome", "output", "[B", .null)]) : Con 1 l Z [("com/example/pacerd/pacerd/run/Outcome", 27), ("java/lang/String", 7)] n0 (⟨"com/example/pacerd/pacerd/run/Outcome", "<init>", "(Lcom/example/pacerd/pacerd/run/RunStatus;Ljava/lang/Integer;Ljava/lang/Integer;[B)V"⟩ : MethodName) prog_25_method_1_code 5 none ({ frames := 2, cells := 0, slots := 0, locals := 24 } : Room) #[(.ref a), (.ref sF), .null, .null, (.ref b)] [] h0 (fun v h D' => v = none ∧ Keep h0 h [a] ∧ Obj Z h a "com/example/pacerd/pacerd/run/Outcome" [("com/example/pacerd/pacerd/run/Outcome", "status", "Lcom/example/pacerd/pacerd/run/RunStatus;", (.ref sF)), ("com/example/pacerd/pacerd/run/Outcome", "exitCode", "Ljava/lang/Integer;", .null), ("com/example/pacerd/pacerd/run/Outcome", "httpStatus", "Ljava/lang/Integer;", .null), ("com/example/pacerd/pacerd/run/Outcome", "output", "[B", (.ref b))] ∧ D' = []) := by
  refine Con.of_runs (ls := #[.val (.ref a), .val (.ref sF), .val .null, .val .null, .val (.ref b)]) (by decide +kernel) (ef rfl rfl) ?_
  refine Runs.aloadN i32_0 rfl rfl ?_
  refine Runs.callCW (argsL := []) (rest := []) (W := 0) i32_1 rfl (w183 hw) (w184 hw) (w187 hw) (w186 hw) (by decide) pd_21 rfl rfl rfl rfl (by decide) (by decide) (by decide) (by decide) all0 (by decide) (own_cR l Z a0 hw n0 a _) ?_
  intro v h1 D1 q hsz
  obtain ⟨rfl, rfl, rfl⟩ := q
  show Runs 1 l Z [("com/example/pacerd/pacerd/run/Outcome", 27), ("java/lang/String", 7)] n0 _ _ _ _ _ _ _ [] h0 0 0 4 #[.val (.ref a), .val (.ref sF), .val .null, .val .null, .val (.ref b)] []
  refine Runs.aloadN i32_4 rfl rfl ?_
  refine Runs.aloadN i32_5 rfl rfl ?_
  refine Runs.putF (i := 0) (ty := (.object "com/example/pacerd/pacerd/run/RunStatus")) i32_6 (host := "") (Or.inl (w189 hw)) Via.refl O0 rfl (lay_2 hw) rfl (Or.inr ⟨(w190 hw), rfl, rfl⟩) (w176 hw) (by decide) rfl rfl ga (Or.inr ⟨by decide, by decide⟩) ?_
  intro h_1 K_2 (O_3 : Obj Z h_1 a "com/example/pacerd/pacerd/run/Outcome" [("com/example/pacerd/pacerd/run/Outcome", "status", "Lcom/example/pacerd/pacerd/run/RunStatus;", (.ref sF)), ("com/example/pacerd/pacerd/run/Outcome", "exitCode", "Ljava/lang/Integer;", .null), ("com/example/pacerd/pacerd/run/Outcome", "httpStatus", "Ljava/lang/Integer;", .null), ("com/example/pacerd/pacerd/run/Outcome", "output", "[B", .null)])
  refine Runs.aloadN i32_9 rfl rfl ?_
  refine Runs.aloadN i32_10 rfl rfl ?_
  refine Runs.putF (i := 1) (ty := (.object "java/lang/Integer")) i32_11 (host := "") (Or.inl (w191 hw)) Via.refl O_3 rfl (lay_2 hw) rfl (Or.inr ⟨(w192 hw), rfl, rfl⟩) (w176 hw) (by decide) rfl rfl ga (Or.inr ⟨by decide, by decide⟩) ?_
  intro h_4 K_5 (O_6 : Obj Z h_4 a "com/example/pacerd/pacerd/run/Outcome" [("com/example/pacerd/pacerd/run/Outcome", "status", "Lcom/example/pacerd/pacerd/run/RunStatus;", (.ref sF)), ("com/example/pacerd/pacerd/run/Outcome", "exitCode", "Ljava/lang/Integer;", .null), ("com/example/pacerd/pacerd/run/Outcome", "httpStatus", "Ljava/lang/Integer;", .null), ("com/example/pacerd/pacerd/run/Outcome", "output", "[B", .null)])
  refine Runs.aloadN i32_14 rfl rfl ?_
  refine Runs.aloadN i32_15 rfl rfl ?_
  refine Runs.putF (i := 2) (ty := (.object "java/lang/Integer")) i32_16 (host := "") (Or.inl (w193 hw)) Via.refl O_6 rfl (lay_2 hw) rfl (Or.inr ⟨(w194 hw), rfl, rfl⟩) (w176 hw) (by decide) rfl rfl ga (Or.inr ⟨by decide, by decide⟩) ?_
  intro h_7 K_8 (O_9 : Obj Z h_7 a "com/example/pacerd/pacerd/run/Outcome" [("com/example/pacerd/pacerd/run/Outcome", "status", "Lcom/example/pacerd/pacerd/run/RunStatus;", (.ref sF)), ("com/example/pacerd/pacerd/run/Outcome", "exitCode", "Ljava/lang/Integer;", .null), ("com/example/pacerd/pacerd/run/Outcome", "httpStatus", "Ljava/lang/Integer;", .null), ("com/example/pacerd/pacerd/run/Outcome", "output", "[B", .null)])
  refine Runs.aloadN i32_19 rfl rfl ?_
  refine Runs.aload i32_20 rfl rfl ?_
  refine Runs.putF (i := 3) (ty := (.array .byte)) i32_22 (host := "") (Or.inl (w195 hw)) Via.refl O_9 rfl (lay_2 hw) rfl (Or.inr ⟨(w196 hw), rfl, rfl⟩) (w176 hw) (by decide) rfl rfl ga (Or.inr ⟨by decide, by decide⟩) ?_
  intro h_10 K_11 (O_12 : Obj Z h_10 a "com/example/pacerd/pacerd/run/Outcome" [("com/example/pacerd/pacerd/run/Outcome", "status", "Lcom/example/pacerd/pacerd/run/RunStatus;", (.ref sF)), ("com/example/pacerd/pacerd/run/Outcome", "exitCode", "Ljava/lang/Integer;", .null), ("com/example/pacerd/pacerd/run/Outcome", "httpStatus", "Ljava/lang/Integer;", .null), ("com/example/pacerd/pacerd/run/Outcome", "output", "[B", (.ref b))])
  exact Runs.retV i32_25 rfl (by decide) (by decide) ⟨rfl, (((((Keep.refl _ _).trans K_2 (allS (Or.inl (List.mem_of_getElem? (i := 0) rfl)) all0)).trans K_5 (allS (Or.inl (List.mem_of_getElem? (i := 0) rfl)) all0)).trans K_8 (allS (Or.inl (List.mem_of_getElem? (i := 0) rfl)) all0)).trans K_11 (allS (Or.inl (List.mem_of_getElem? (i := 0) rfl)) all0)), O_12, rfl⟩
set_option maxRecDepth 65536 in
set_option maxHeartbeats 4000000 in
theorem own_g_status (l : Launch) (Z : State) (a0 : Array Value) (hw : Wds Z a0) (n0 : Nat) (a : Addr) (u : Value) (hu : u.isRef = true) (h0 : Heap) (F : Fld Z h0 a "com/example/pacerd/pacerd/run/Outcome" "status" "Lcom/example/pacerd/pacerd/run/RunStatus;" u) : Con 1 l Z [("com/example/pacerd/pacerd/run/Outcome", 27), ("java/lang/String", 7)] n0 (⟨"com/example/pacerd/pacerd/run/Outcome", "status", "()Lcom/example/pacerd/pacerd/run/RunStatus;"⟩ : MethodName) prog_25_method_7_code 1 (some (.object "com/example/pacerd/pacerd/run/RunStatus")) ({ frames := 0, cells := 0, slots := 0, locals := 0 } : Room) #[(.ref a)] [] h0 (fun v h D' => v = some u ∧ h0 = h ∧ D' = []) := by
  refine Con.of_runs (ls := #[.val (.ref a)]) (by decide +kernel) (ef rfl rfl) ?_
  refine Runs.aloadN i34_0 rfl rfl ?_
  refine Runs.getF (host := "") i34_1 (Or.inl (w189 hw)) Via.refl F ?_
  exact Runs.retA i34_4 rfl rfl hu (by decide) (by decide) ⟨rfl, rfl, rfl⟩
set_option maxRecDepth 65536 in
set_option maxHeartbeats 4000000 in
theorem own_g_exitCode (l : Launch) (Z : State) (a0 : Array Value) (hw : Wds Z a0) (n0 : Nat) (a : Addr) (u : Value) (hu : u.isRef = true) (h0 : Heap) (F : Fld Z h0 a "com/example/pacerd/pacerd/run/Outcome" "exitCode" "Ljava/lang/Integer;" u) : Con 1 l Z [("com/example/pacerd/pacerd/run/Outcome", 27), ("java/lang/String", 7)] n0 (⟨"com/example/pacerd/pacerd/run/Outcome", "exitCode", "()Ljava/lang/Integer;"⟩ : MethodName) prog_25_method_8_code 1 (some (.object "java/lang/Integer")) ({ frames := 0, cells := 0, slots := 0, locals := 0 } : Room) #[(.ref a)] [] h0 (fun v h D' => v = some u ∧ h0 = h ∧ D' = []) := by
  refine Con.of_runs (ls := #[.val (.ref a)]) (by decide +kernel) (ef rfl rfl) ?_
  refine Runs.aloadN i35_0 rfl rfl ?_
  refine Runs.getF (host := "") i35_1 (Or.inl (w191 hw)) Via.refl F ?_
  exact Runs.retA i35_4 rfl rfl hu (by decide) (by decide) ⟨rfl, rfl, rfl⟩
set_option maxRecDepth 65536 in
set_option maxHeartbeats 4000000 in
theorem own_g_httpStatus (l : Launch) (Z : State) (a0 : Array Value) (hw : Wds Z a0) (n0 : Nat) (a : Addr) (u : Value) (hu : u.isRef = true) (h0 : Heap) (F : Fld Z h0 a "com/example/pacerd/pacerd/run/Outcome" "httpStatus" "Ljava/lang/Integer;" u) : Con 1 l Z [("com/example/pacerd/pacerd/run/Outcome", 27), ("java/lang/String", 7)] n0 (⟨"com/example/pacerd/pacerd/run/Outcome", "httpStatus", "()Ljava/lang/Integer;"⟩ : MethodName) prog_25_method_9_code 1 (some (.object "java/lang/Integer")) ({ frames := 0, cells := 0, slots := 0, locals := 0 } : Room) #[(.ref a)] [] h0 (fun v h D' => v = some u ∧ h0 = h ∧ D' = []) := by
  refine Con.of_runs (ls := #[.val (.ref a)]) (by decide +kernel) (ef rfl rfl) ?_
  refine Runs.aloadN i36_0 rfl rfl ?_
  refine Runs.getF (host := "") i36_1 (Or.inl (w193 hw)) Via.refl F ?_
  exact Runs.retA i36_4 rfl rfl hu (by decide) (by decide) ⟨rfl, rfl, rfl⟩
set_option maxRecDepth 65536 in
set_option maxHeartbeats 4000000 in
theorem own_g_output (l : Launch) (Z : State) (a0 : Array Value) (hw : Wds Z a0) (n0 : Nat) (a : Addr) (u : Value) (hu : u.isRef = true) (h0 : Heap) (F : Fld Z h0 a "com/example/pacerd/pacerd/run/Outcome" "output" "[B" u) : Con 1 l Z [("com/example/pacerd/pacerd/run/Outcome", 27), ("java/lang/String", 7)] n0 (⟨"com/example/pacerd/pacerd/run/Outcome", "output", "()[B"⟩ : MethodName) prog_25_method_10_code 1 (some (.array .byte)) ({ frames := 0, cells := 0, slots := 0, locals := 0 } : Room) #[(.ref a)] [] h0 (fun v h D' => v = some u ∧ h0 = h ∧ D' = []) := by
  refine Con.of_runs (ls := #[.val (.ref a)]) (by decide +kernel) (ef rfl rfl) ?_
  refine Runs.aloadN i37_0 rfl rfl ?_
  refine Runs.getF (host := "") i37_1 (Or.inl (w195 hw)) Via.refl F ?_
  exact Runs.retA i37_4 rfl rfl hu (by decide) (by decide) ⟨rfl, rfl, rfl⟩
set_option maxRecDepth 65536 in
set_option maxHeartbeats 4000000 in
theorem own_failn (l : Launch) (Z : State) (a0 : Array Value) (hw : Wds Z a0) (n0 : Nat) (s u : Addr) (k2 : ClassId) (cs : List Int32) (hcs : cs.length ≤ 3) (hS : Nsr cs) (h0 : Heap) (S0 : Str Z h0 s u k2 cs) (hn0 : n0 ≤ h0.size) (cpt : Int32) (S_C : Sta Z Z.heap "java/lang/String" "COMPACT_STRINGS" "Z" (.int cpt)) (hcpt : ¬ cpt = 0) (S_A : Sta Z Z.heap "java/lang/StringUTF16" "$assertionsDisabled" "Z" (.int 1)) (S_H : Sta Z Z.heap "java/lang/StringUTF16" "HI_BYTE_SHIFT" "I" (.int 0)) (S_L : Sta Z Z.heap "java/lang/StringUTF16" "LO_BYTE_SHIFT" "I" (.int 8)) (fm : Value) (hfm : fm.isRef = true) (S_F : Sta Z Z.heap "jdk/internal/util/Preconditions" "SIOOBE_FORMATTER" "Ljava/util/function/BiFunction;" fm) (u8 : Addr) (S_I : Sta Z Z.heap "sun/nio/cs/UTF_8" "INSTANCE" "Lsun/nio/cs/UTF_8;" (.ref u8)) (S_8 : Sta Z Z.heap "java/nio/charset/StandardCharsets" "UTF_8" "Ljava/nio/charset/Charset;" (.ref u8)) (sF : Addr) (S_FAILED : Sta Z Z.heap "com/example/pacerd/pacerd/run/RunStatus" "FAILED" "Lcom/example/pacerd/pacerd/run/RunStatus;" (.ref sF)) : Con 1 l Z [("com/example/pacerd/pacerd/run/Outcome", 27), ("java/lang/String", 7)] n0 (⟨"com/example/pacerd/pacerd/run/Outcome", "failure", "(Ljava/lang/String;)Lcom/example/pacerd/pacerd/run/Outcome;"⟩ : MethodName) prog_25_method_2_code 2 (some (.object "com/example/pacerd/pacerd/run/Outcome")) ({ frames := 10, cells := 10, slots := 320, locals := 150 } : Room) #[(.ref s)] [] h0 (fun v h D' => ∃ e b k, v = some (.ref e) ∧ h0.size ≤ e ∧ h0.size ≤ b ∧ Keep h0 h [] ∧ Obj Z h e "com/example/pacerd/pacerd/run/Outcome" [("com/example/pacerd/pacerd/run/Outcome", "status", "Lcom/example/pacerd/pacerd/run/RunStatus;", (.ref sF)), ("com/example/pacerd/pacerd/run/Outcome", "exitCode", "Ljava/lang/Integer;", .null), ("com/example/pacerd/pacerd/run/Outcome", "httpStatus", "Ljava/lang/Integer;", .null), ("com/example/pacerd/pacerd/run/Outcome", "output", "[B", (.ref b))] ∧ Arv Z h b k .byte (Int32.ofNat (own_e8 ((own_T 50) ++ cs)).length) ((own_e8 ((own_T 50) ++ cs)).map Value.int) (.int 0) ∧ D' = []) := by
  refine Con.of_runs (ls := #[.val (.ref s), .unset]) (by decide +kernel) (ef rfl rfl) ?_
  refine Runs.newO i5_0 (w32 hw) (w33 hw) (w34 hw) (lay_1 hw) (by decide) (by decide) ?_
  intro h_1 b_2 g_5 ge_6 K_3 (O_4 : Obj Z h_1 b_2 "java/lang/StringBuilder" [("java/lang/AbstractStringBuilder", "value", "[B", .null), ("java/lang/AbstractStringBuilder", "coder", "B", (.int (0 : Int32))), ("java/lang/AbstractStringBuilder", "count", "I", (.int (0 : Int32))), ("java/lang/AbstractStringBuilder", "maybeLatin1", "Z", (.int (0 : Int32)))]) U_7
  refine Runs.dup i5_3 rfl ?_
  refine Runs.callCW (argsL := []) (rest := [(.ref b_2)]) (W := 1) i5_4 rfl (w35 hw) (w36 hw) (w37 hw) (w34 hw) (by decide) pd_21 rfl rfl rfl rfl (by decide) (by decide) (by decide) (by decide) all0 (by decide) (own_bi l Z a0 hw n0 b_2 _ ge_6 O_4 cpt S_C hcpt) ?_
  intro v h_13 D1 q hsz
  obtain ⟨rfl, t_8, k_9, g_10, K_11, B_12, rfl⟩ := q
  show Runs 1 l Z [("com/example/pacerd/pacerd/run/Outcome", 27), ("java/lang/String", 7)] n0 _ _ _ _ _ _ _ [t_8, b_2] h_13 2 20 7 #[.val (.ref s), .unset] [(.ref b_2)]
  have ge_t_8 : n0 ≤ t_8 := Nat.le_trans ge_6 (Nat.le_trans (Nat.le_of_lt O_4.lt) g_10)
  refine Runs.ldcT (vs := (own_T 50).map own_b) (z := Int32.ofNat (own_T 50).length) (n := 32) (by decide) i5_7 (own_k50 hw) (own_sa hw) (own_EW hw) (List.mem_of_getElem? (i := 0) rfl) ⟨own_c50, own_Tb own_c50⟩ (own_nn (by rw [own_L50]; decide)) (by rw [own_cl (by rw [own_L50]; decide), List.length_map]) (by rw [← own_Tlen, own_L50]; decide) (by decide) (by decide) (by decide) ?_
  intro h_14 s_15 t_16 k_17 K_18 O_19 A_20 dd_21
  have S_22 : Str Z h_14 s_15 t_16 k_17 (own_T 50) := ⟨O_19, A_20, own_Tl own_c50, by rw [own_L50]; decide⟩
  show Runs 1 l Z [("com/example/pacerd/pacerd/run/Outcome", 27), ("java/lang/String", 7)] n0 _ _ _ _ _ _ _ [t_8, b_2] h_14 4 56 9 #[.val (.ref s), .unset] [(.ref s_15), (.ref b_2)]
  have B_23 : SBd Z h_14 b_2 t_8 k_9 16 [] := ⟨B_12.1.keep K_18 nin0, B_12.2.1.keep K_18 nin0, B_12.2.2.1.keep K_18, B_12.2.2.2⟩
  refine Runs.callVW (argsL := [(.ref s_15)]) (rest := []) (W := 0) i5_9 (w51 hw) (w52 hw) (fun s hZ => notFace_of_selects (args := #[]) (mvT hZ (w54 hw))) (w54 hw) (w53 hw) (w55 hw) (w34 hw) (by decide) B_23.1.1 pd_35 rfl rfl rfl rfl (by decide) (by decide) (by decide) (by decide) (allS (List.mem_of_getElem? (i := 0) rfl) all0) (by decide) (own_apf l Z a0 hw n0 b_2 t_8 k_9 16 [] _ B_23 s_15 t_16 k_17 (own_T 50) S_22 (by rw [own_L50]; decide) ge_t_8 ge_6 cpt S_C hcpt) ?_
  intro v h_26 D1 q hsz
  obtain ⟨rfl, K_24, B_25, rfl⟩ := q
  show Runs 1 l Z [("com/example/pacerd/pacerd/run/Outcome", 27), ("java/lang/String", 7)] n0 _ _ _ _ _ _ _ [t_8, b_2] h_26 4 56 12 #[.val (.ref s), .unset] [(.ref b_2)]
  have B_27 : SBd Z h_26 b_2 t_8 k_9 16 (own_T 50) := B_25
  refine Runs.aloadN i5_12 rfl rfl ?_
  have O_29 := ((((S0.1.keep K_3 nin0).keep K_11 (ninS (Nat.ne_of_lt (Nat.lt_of_lt_of_le (Nat.lt_of_lt_of_le S0.1.lt (Nat.le_refl _)) g_5)) nin0)).keep K_18 nin0).keep K_24 (ninS (Nat.ne_of_lt (Nat.lt_of_lt_of_le (Nat.lt_of_lt_of_le S0.1.lt (Nat.le_refl _)) g_5)) (ninS (Nat.ne_of_lt (Nat.lt_of_lt_of_le (Nat.lt_of_lt_of_le S0.1.lt K_3.1) g_10)) nin0)))
  have A_30 := ((((S0.2.1.keep K_3 nin0).keep K_11 (ninS (Nat.ne_of_lt (Nat.lt_of_lt_of_le (Nat.lt_of_lt_of_le S0.2.1.lt (Nat.le_refl _)) g_5)) nin0)).keep K_18 nin0).keep K_24 (ninS (Nat.ne_of_lt (Nat.lt_of_lt_of_le (Nat.lt_of_lt_of_le S0.2.1.lt (Nat.le_refl _)) g_5)) (ninS (Nat.ne_of_lt (Nat.lt_of_lt_of_le (Nat.lt_of_lt_of_le S0.2.1.lt K_3.1) g_10)) nin0)))
  have S_28 : Str Z h_26 s u k2 cs := ⟨O_29, A_30, S0.2.2⟩
  refine Runs.callVW (argsL := [(.ref s)]) (rest := []) (W := 0) i5_13 (w51 hw) (w52 hw) (fun s hZ => notFace_of_selects (args := #[]) (mvT hZ (w54 hw))) (w54 hw) (w53 hw) (w55 hw) (w34 hw) (by decide) B_27.1.1 pd_35 rfl rfl rfl rfl (by decide) (by decide) (by decide) (by decide) (allS (List.mem_of_getElem? (i := 0) rfl) all0) (by decide) (own_apf l Z a0 hw n0 b_2 t_8 k_9 16 (own_T 50) _ B_27 s u k2 cs S_28 (by rw [own_L50]; omega) ge_t_8 ge_6 cpt S_C hcpt) ?_
  intro v h_33 D1 q hsz
  obtain ⟨rfl, K_31, B_32, rfl⟩ := q
  show Runs 1 l Z [("com/example/pacerd/pacerd/run/Outcome", 27), ("java/lang/String", 7)] n0 _ _ _ _ _ _ _ [t_8, b_2] h_33 4 56 16 #[.val (.ref s), .unset] [(.ref b_2)]
  have B_34 : SBd Z h_33 b_2 t_8 k_9 16 ((own_T 50) ++ cs) := B_32
  refine Runs.callVW (argsL := []) (rest := []) (W := 0) i5_16 (w99 hw) (w100 hw) (fun s hZ => notFace_of_selects (args := #[]) (mvT hZ (w102 hw))) (w102 hw) (w101 hw) (w103 hw) (w34 hw) (by decide) B_34.1.1 pd_36 rfl rfl rfl rfl (by decide) (by decide) (by decide) (by decide) all0 (by decide) (own_tsn l Z a0 hw n0 b_2 t_8 k_9 16 ((own_T 50) ++ cs) _ B_34 64 (by rw [List.length_append, own_L50]; omega) (by rw [List.length_append, own_L50]; omega) cpt S_C hcpt) ?_
  intro v h_43 D1 q hsz
  obtain ⟨m_35, u_36, k_37, rfl, g_38, g_39, K_40, S_41, E_42, rfl⟩ := q
  show Runs 1 l Z [("com/example/pacerd/pacerd/run/Outcome", 27), ("java/lang/String", 7)] n0 _ _ _ _ _ _ _ [t_8, b_2] h_43 6 124 19 #[.val (.ref s), .unset] [(.ref m_35)]
  refine Runs.getS i5_19 (w144 hw) Via.refl S_8 ?_
  have hlT : (own_e8 ((own_T 50) ++ cs)).length ≤ 8 + 2 * cs.length := by rw [own_e8a, List.length_append, own_PT]; have := own_e8L S0.2.2.1; show 8 + _ ≤ _; omega
  have hlc : ((own_T 50) ++ cs).length = 8 + cs.length := by rw [List.length_append, own_L50]
  refine Runs.callVW (argsL := [(.ref u8)]) (rest := []) (W := 0) i5_22 (w146 hw) (w147 hw) (fun s hZ => notFace_of_selects (args := #[]) (mvT hZ (w149 hw))) (w149 hw) (w148 hw) (w150 hw) (w9 hw) (by decide) S_41.1.1 pd_37 rfl rfl rfl rfl (by decide) (by decide) (by decide) (by decide) all0 (by decide) (own_gu8n l Z a0 hw n0 ((own_T 50) ++ cs) 64 (by omega) (by omega) (by omega) _ (Nat.le_trans hn0 (Nat.le_trans (Nat.le_trans (Nat.le_trans (Nat.le_trans (Nat.le_trans K_3.1 K_11.1) K_18.1) K_24.1) K_31.1) K_40.1)) m_35 u_36 k_37 S_41 E_42 u8 S_I cpt S_C hcpt) ?_
  intro v h_49 D1 q hsz
  obtain ⟨b_44, k_45, rfl, g_46, K_47, A_48, rfl⟩ := q
  show Runs 1 l Z [("com/example/pacerd/pacerd/run/Outcome", 27), ("java/lang/String", 7)] n0 _ _ _ _ _ _ _ [b_44, t_8, b_2] h_49 8 252 25 #[.val (.ref s), .unset] [(.ref b_44)]
  refine Runs.astoreN (ls' := #[.val (.ref s), .val (.ref b_44)]) i5_25 rfl rfl ?_
  refine Runs.newO i5_26 (w175 hw) (w176 hw) (w30 hw) (lay_2 hw) (by decide) (by decide) ?_
  intro h_50 b_51 g_54 ge_55 K_52 (O_53 : Obj Z h_50 b_51 "com/example/pacerd/pacerd/run/Outcome" [("com/example/pacerd/pacerd/run/Outcome", "status", "Lcom/example/pacerd/pacerd/run/RunStatus;", .null), ("com/example/pacerd/pacerd/run/Outcome", "exitCode", "Ljava/lang/Integer;", .null), ("com/example/pacerd/pacerd/run/Outcome", "httpStatus", "Ljava/lang/Integer;", .null), ("com/example/pacerd/pacerd/run/Outcome", "output", "[B", .null)]) U_56
  refine Runs.dup i5_29 rfl ?_
  refine Runs.getS i5_30 (w177 hw) Via.refl S_FAILED ?_
  refine Runs.aconstNull i5_33 ?_
  refine Runs.aconstNull i5_34 ?_
  refine Runs.aloadN i5_35 rfl rfl ?_
  refine Runs.callCW (argsL := [(.ref sF), .null, .null, (.ref b_44)]) (rest := [(.ref b_51)]) (W := 1) i5_36 rfl (w180 hw) (w181 hw) (w182 hw) (w30 hw) (by decide) pd_38 rfl rfl rfl rfl (by decide) (by decide) (by decide) (by decide) all0 (by decide) (own_cI l Z a0 hw n0 b_51 sF b_44 _ ge_55 O_53) ?_
  intro v h_57 D1 q hsz
  obtain ⟨rfl, K_58, O_59, rfl⟩ := q
  show Runs 1 l Z [("com/example/pacerd/pacerd/run/Outcome", 27), ("java/lang/String", 7)] n0 _ _ _ _ _ _ _ [b_51, b_44, t_8, b_2] h_57 9 256 39 #[.val (.ref s), .val (.ref b_44)] [(.ref b_51)]
  have A_60 := ((A_48.keep K_52 nin0).keep K_58 (ninS (Nat.ne_of_lt (Nat.lt_of_lt_of_le (Nat.lt_of_lt_of_le A_48.lt (Nat.le_refl _)) g_54)) nin0))
  refine Runs.weak (D1 := []) (fun _ q => nomatch q) ?_
  exact Runs.retA i5_39 rfl rfl rfl (by first | decide | (dsimp only; first | decide | omega)) (by first | decide | (dsimp only; first | decide | omega)) ⟨b_51, b_44, k_45, rfl, (Nat.le_trans (Nat.le_trans (Nat.le_trans (Nat.le_trans (Nat.le_trans (Nat.le_trans (Nat.le_trans K_3.1 K_11.1) K_18.1) K_24.1) K_31.1) K_40.1) K_47.1) g_54), (Nat.le_trans (Nat.le_trans (Nat.le_trans (Nat.le_trans (Nat.le_trans (Nat.le_trans K_3.1 K_11.1) K_18.1) K_24.1) K_31.1) K_40.1) g_46), ((((((((((Keep.refl _ _).trans K_3 all0).trans K_11 (allS (Or.inr (Nat.le_trans (Nat.le_refl _) g_5)) all0)).trans K_18 all0).trans K_24 (allS (Or.inr (Nat.le_trans (Nat.le_refl _) g_5)) (allS (Or.inr (Nat.le_trans K_3.1 g_10)) all0))).trans K_31 (allS (Or.inr (Nat.le_trans (Nat.le_refl _) g_5)) (allS (Or.inr (Nat.le_trans K_3.1 g_10)) all0))).trans K_40 all0).trans K_47 all0).trans K_52 all0).trans K_58 (allS (Or.inr (Nat.le_trans (Nat.le_trans (Nat.le_trans (Nat.le_trans (Nat.le_trans (Nat.le_trans (Nat.le_trans K_3.1 K_11.1) K_18.1) K_24.1) K_31.1) K_40.1) K_47.1) g_54)) all0)), O_59, A_60, rfl⟩
set_option maxRecDepth 65536 in
set_option maxHeartbeats 4000000 in
theorem own_failw (l : Launch) (Z : State) (a0 : Array Value) (hw : Wds Z a0) (n0 : Nat) (s u : Addr) (k2 : ClassId) (cs : List Int32) (hcs : cs.length ≤ 3) (hS : Nsr cs) (h0 : Heap) (S0 : Stw Z h0 s u k2 cs) (hn0 : n0 ≤ h0.size) (cpt : Int32) (S_C : Sta Z Z.heap "java/lang/String" "COMPACT_STRINGS" "Z" (.int cpt)) (hcpt : ¬ cpt = 0) (S_A : Sta Z Z.heap "java/lang/StringUTF16" "$assertionsDisabled" "Z" (.int 1)) (S_H : Sta Z Z.heap "java/lang/StringUTF16" "HI_BYTE_SHIFT" "I" (.int 0)) (S_L : Sta Z Z.heap "java/lang/StringUTF16" "LO_BYTE_SHIFT" "I" (.int 8)) (fm : Value) (hfm : fm.isRef = true) (S_F : Sta Z Z.heap "jdk/internal/util/Preconditions" "SIOOBE_FORMATTER" "Ljava/util/function/BiFunction;" fm) (u8 : Addr) (S_I : Sta Z Z.heap "sun/nio/cs/UTF_8" "INSTANCE" "Lsun/nio/cs/UTF_8;" (.ref u8)) (S_8 : Sta Z Z.heap "java/nio/charset/StandardCharsets" "UTF_8" "Ljava/nio/charset/Charset;" (.ref u8)) (sF : Addr) (S_FAILED : Sta Z Z.heap "com/example/pacerd/pacerd/run/RunStatus" "FAILED" "Lcom/example/pacerd/pacerd/run/RunStatus;" (.ref sF)) : Con 1 l Z [("com/example/pacerd/pacerd/run/Outcome", 27), ("java/lang/String", 7)] n0 (⟨"com/example/pacerd/pacerd/run/Outcome", "failure", "(Ljava/lang/String;)Lcom/example/pacerd/pacerd/run/Outcome;"⟩ : MethodName) prog_25_method_2_code 2 (some (.object "com/example/pacerd/pacerd/run/Outcome")) ({ frames := 10, cells := 10, slots := 320, locals := 150 } : Room) #[(.ref s)] [] h0 (fun v h D' => ∃ e b k, v = some (.ref e) ∧ h0.size ≤ e ∧ h0.size ≤ b ∧ Keep h0 h [] ∧ Obj Z h e "com/example/pacerd/pacerd/run/Outcome" [("com/example/pacerd/pacerd/run/Outcome", "status", "Lcom/example/pacerd/pacerd/run/RunStatus;", (.ref sF)), ("com/example/pacerd/pacerd/run/Outcome", "exitCode", "Ljava/lang/Integer;", .null), ("com/example/pacerd/pacerd/run/Outcome", "httpStatus", "Ljava/lang/Integer;", .null), ("com/example/pacerd/pacerd/run/Outcome", "output", "[B", (.ref b))] ∧ Arv Z h b k .byte (Int32.ofNat (own_e8 ((own_T 50) ++ cs)).length) ((own_e8 ((own_T 50) ++ cs)).map Value.int) (.int 0) ∧ D' = []) := by
  refine Con.of_runs (ls := #[.val (.ref s), .unset]) (by decide +kernel) (ef rfl rfl) ?_
  refine Runs.newO i5_0 (w32 hw) (w33 hw) (w34 hw) (lay_1 hw) (by decide) (by decide) ?_
  intro h_1 b_2 g_5 ge_6 K_3 (O_4 : Obj Z h_1 b_2 "java/lang/StringBuilder" [("java/lang/AbstractStringBuilder", "value", "[B", .null), ("java/lang/AbstractStringBuilder", "coder", "B", (.int (0 : Int32))), ("java/lang/AbstractStringBuilder", "count", "I", (.int (0 : Int32))), ("java/lang/AbstractStringBuilder", "maybeLatin1", "Z", (.int (0 : Int32)))]) U_7
  refine Runs.dup i5_3 rfl ?_
  refine Runs.callCW (argsL := []) (rest := [(.ref b_2)]) (W := 1) i5_4 rfl (w35 hw) (w36 hw) (w37 hw) (w34 hw) (by decide) pd_21 rfl rfl rfl rfl (by decide) (by decide) (by decide) (by decide) all0 (by decide) (own_bi l Z a0 hw n0 b_2 _ ge_6 O_4 cpt S_C hcpt) ?_
  intro v h_13 D1 q hsz
  obtain ⟨rfl, t_8, k_9, g_10, K_11, B_12, rfl⟩ := q
  show Runs 1 l Z [("com/example/pacerd/pacerd/run/Outcome", 27), ("java/lang/String", 7)] n0 _ _ _ _ _ _ _ [t_8, b_2] h_13 2 20 7 #[.val (.ref s), .unset] [(.ref b_2)]
  have ge_t_8 : n0 ≤ t_8 := Nat.le_trans ge_6 (Nat.le_trans (Nat.le_of_lt O_4.lt) g_10)
  refine Runs.ldcT (vs := (own_T 50).map own_b) (z := Int32.ofNat (own_T 50).length) (n := 32) (by decide) i5_7 (own_k50 hw) (own_sa hw) (own_EW hw) (List.mem_of_getElem? (i := 0) rfl) ⟨own_c50, own_Tb own_c50⟩ (own_nn (by rw [own_L50]; decide)) (by rw [own_cl (by rw [own_L50]; decide), List.length_map]) (by rw [← own_Tlen, own_L50]; decide) (by decide) (by decide) (by decide) ?_
  intro h_14 s_15 t_16 k_17 K_18 O_19 A_20 dd_21
  have S_22 : Str Z h_14 s_15 t_16 k_17 (own_T 50) := ⟨O_19, A_20, own_Tl own_c50, by rw [own_L50]; decide⟩
  show Runs 1 l Z [("com/example/pacerd/pacerd/run/Outcome", 27), ("java/lang/String", 7)] n0 _ _ _ _ _ _ _ [t_8, b_2] h_14 4 56 9 #[.val (.ref s), .unset] [(.ref s_15), (.ref b_2)]
  have B_23 : SBd Z h_14 b_2 t_8 k_9 16 [] := ⟨B_12.1.keep K_18 nin0, B_12.2.1.keep K_18 nin0, B_12.2.2.1.keep K_18, B_12.2.2.2⟩
  refine Runs.callVW (argsL := [(.ref s_15)]) (rest := []) (W := 0) i5_9 (w51 hw) (w52 hw) (fun s hZ => notFace_of_selects (args := #[]) (mvT hZ (w54 hw))) (w54 hw) (w53 hw) (w55 hw) (w34 hw) (by decide) B_23.1.1 pd_35 rfl rfl rfl rfl (by decide) (by decide) (by decide) (by decide) (allS (List.mem_of_getElem? (i := 0) rfl) all0) (by decide) (own_apf l Z a0 hw n0 b_2 t_8 k_9 16 [] _ B_23 s_15 t_16 k_17 (own_T 50) S_22 (by rw [own_L50]; decide) ge_t_8 ge_6 cpt S_C hcpt) ?_
  intro v h_26 D1 q hsz
  obtain ⟨rfl, K_24, B_25, rfl⟩ := q
  show Runs 1 l Z [("com/example/pacerd/pacerd/run/Outcome", 27), ("java/lang/String", 7)] n0 _ _ _ _ _ _ _ [t_8, b_2] h_26 4 56 12 #[.val (.ref s), .unset] [(.ref b_2)]
  have B_27 : SBd Z h_26 b_2 t_8 k_9 16 (own_T 50) := B_25
  refine Runs.aloadN i5_12 rfl rfl ?_
  have O_29 := ((((S0.1.keep K_3 nin0).keep K_11 (ninS (Nat.ne_of_lt (Nat.lt_of_lt_of_le (Nat.lt_of_lt_of_le S0.1.lt (Nat.le_refl _)) g_5)) nin0)).keep K_18 nin0).keep K_24 (ninS (Nat.ne_of_lt (Nat.lt_of_lt_of_le (Nat.lt_of_lt_of_le S0.1.lt (Nat.le_refl _)) g_5)) (ninS (Nat.ne_of_lt (Nat.lt_of_lt_of_le (Nat.lt_of_lt_of_le S0.1.lt K_3.1) g_10)) nin0)))
  have A_30 := ((((S0.2.1.keep K_3 nin0).keep K_11 (ninS (Nat.ne_of_lt (Nat.lt_of_lt_of_le (Nat.lt_of_lt_of_le S0.2.1.lt (Nat.le_refl _)) g_5)) nin0)).keep K_18 nin0).keep K_24 (ninS (Nat.ne_of_lt (Nat.lt_of_lt_of_le (Nat.lt_of_lt_of_le S0.2.1.lt (Nat.le_refl _)) g_5)) (ninS (Nat.ne_of_lt (Nat.lt_of_lt_of_le (Nat.lt_of_lt_of_le S0.2.1.lt K_3.1) g_10)) nin0)))
  have S_28 : Stw Z h_26 s u k2 cs := ⟨O_29, A_30, S0.2.2⟩
  refine Runs.callVW (argsL := [(.ref s)]) (rest := []) (W := 0) i5_13 (w51 hw) (w52 hw) (fun s hZ => notFace_of_selects (args := #[]) (mvT hZ (w54 hw))) (w54 hw) (w53 hw) (w55 hw) (w34 hw) (by decide) B_27.1.1 pd_35 rfl rfl rfl rfl (by decide) (by decide) (by decide) (by decide) all0 (by decide) (own_apw l Z a0 hw n0 b_2 t_8 k_9 16 (own_T 50) _ B_27 s u k2 cs S_28 (by rw [own_L50]; omega) 64 (by decide) ge_6 (Nat.le_trans hn0 (Nat.le_trans (Nat.le_trans (Nat.le_trans K_3.1 K_11.1) K_18.1) K_24.1)) cpt S_C hcpt S_A S_H S_L fm hfm S_F) ?_
  intro v h_36 D1 q hsz
  obtain ⟨rfl, t_31, k_32, g_33, K_34, B_35, rfl⟩ := q
  show Runs 1 l Z [("com/example/pacerd/pacerd/run/Outcome", 27), ("java/lang/String", 7)] n0 _ _ _ _ _ _ _ [t_31, t_8, b_2] h_36 5 120 16 #[.val (.ref s), .unset] [(.ref b_2)]
  refine Runs.callVW (argsL := []) (rest := []) (W := 0) i5_16 (w99 hw) (w100 hw) (fun s hZ => notFace_of_selects (args := #[]) (mvT hZ (w102 hw))) (w102 hw) (w101 hw) (w103 hw) (w34 hw) (by decide) B_35.1.1 pd_36 rfl rfl rfl rfl (by decide) (by decide) (by decide) (by decide) all0 (by decide) (own_tsw l Z a0 hw n0 b_2 t_31 k_32 16 ((own_T 50) ++ cs) _ B_35 64 (by rw [List.length_append, own_L50]; omega) (by rw [List.length_append, own_L50]; omega) cpt S_C hcpt) ?_
  intro v h_45 D1 q hsz
  obtain ⟨m_37, u_38, k_39, rfl, g_40, g_41, K_42, S_43, E_44, rfl⟩ := q
  show Runs 1 l Z [("com/example/pacerd/pacerd/run/Outcome", 27), ("java/lang/String", 7)] n0 _ _ _ _ _ _ _ [t_31, t_8, b_2] h_45 7 188 19 #[.val (.ref s), .unset] [(.ref m_37)]
  refine Runs.getS i5_19 (w144 hw) Via.refl S_8 ?_
  have hlT : (own_e8 ((own_T 50) ++ cs)).length ≤ 8 + 3 * cs.length := by rw [own_e8a, List.length_append, own_PT]; have := own_e8l cs; show 8 + _ ≤ _; omega
  have hlc : ((own_T 50) ++ cs).length = 8 + cs.length := by rw [List.length_append, own_L50]
  refine Runs.callVW (argsL := [(.ref u8)]) (rest := []) (W := 0) i5_22 (w146 hw) (w147 hw) (fun s hZ => notFace_of_selects (args := #[]) (mvT hZ (w149 hw))) (w149 hw) (w148 hw) (w150 hw) (w9 hw) (by decide) S_43.1.1 pd_37 rfl rfl rfl rfl (by decide) (by decide) (by decide) (by decide) all0 (by decide) (own_gu8w l Z a0 hw n0 ((own_T 50) ++ cs) 64 (by omega) (by omega) (by omega) _ (Nat.le_trans hn0 (Nat.le_trans (Nat.le_trans (Nat.le_trans (Nat.le_trans (Nat.le_trans K_3.1 K_11.1) K_18.1) K_24.1) K_34.1) K_42.1)) m_37 u_38 k_39 S_43 (fun c hc => (List.mem_append.mp hc).elim (own_TN c) (hS c)) S_A S_H S_L u8 S_I cpt S_C hcpt) ?_
  intro v h_51 D1 q hsz
  obtain ⟨b_46, k_47, rfl, g_48, K_49, A_50, rfl⟩ := q
  show Runs 1 l Z [("com/example/pacerd/pacerd/run/Outcome", 27), ("java/lang/String", 7)] n0 _ _ _ _ _ _ _ [b_46, t_31, t_8, b_2] h_51 9 316 25 #[.val (.ref s), .unset] [(.ref b_46)]
  refine Runs.astoreN (ls' := #[.val (.ref s), .val (.ref b_46)]) i5_25 rfl rfl ?_
  refine Runs.newO i5_26 (w175 hw) (w176 hw) (w30 hw) (lay_2 hw) (by decide) (by decide) ?_
  intro h_52 b_53 g_56 ge_57 K_54 (O_55 : Obj Z h_52 b_53 "com/example/pacerd/pacerd/run/Outcome" [("com/example/pacerd/pacerd/run/Outcome", "status", "Lcom/example/pacerd/pacerd/run/RunStatus;", .null), ("com/example/pacerd/pacerd/run/Outcome", "exitCode", "Ljava/lang/Integer;", .null), ("com/example/pacerd/pacerd/run/Outcome", "httpStatus", "Ljava/lang/Integer;", .null), ("com/example/pacerd/pacerd/run/Outcome", "output", "[B", .null)]) U_58
  refine Runs.dup i5_29 rfl ?_
  refine Runs.getS i5_30 (w177 hw) Via.refl S_FAILED ?_
  refine Runs.aconstNull i5_33 ?_
  refine Runs.aconstNull i5_34 ?_
  refine Runs.aloadN i5_35 rfl rfl ?_
  refine Runs.callCW (argsL := [(.ref sF), .null, .null, (.ref b_46)]) (rest := [(.ref b_53)]) (W := 1) i5_36 rfl (w180 hw) (w181 hw) (w182 hw) (w30 hw) (by decide) pd_38 rfl rfl rfl rfl (by decide) (by decide) (by decide) (by decide) all0 (by decide) (own_cI l Z a0 hw n0 b_53 sF b_46 _ ge_57 O_55) ?_
  intro v h_59 D1 q hsz
  obtain ⟨rfl, K_60, O_61, rfl⟩ := q
  show Runs 1 l Z [("com/example/pacerd/pacerd/run/Outcome", 27), ("java/lang/String", 7)] n0 _ _ _ _ _ _ _ [b_53, b_46, t_31, t_8, b_2] h_59 10 320 39 #[.val (.ref s), .val (.ref b_46)] [(.ref b_53)]
  have A_62 := ((A_50.keep K_54 nin0).keep K_60 (ninS (Nat.ne_of_lt (Nat.lt_of_lt_of_le (Nat.lt_of_lt_of_le A_50.lt (Nat.le_refl _)) g_56)) nin0))
  refine Runs.weak (D1 := []) (fun _ q => nomatch q) ?_
  exact Runs.retA i5_39 rfl rfl rfl (by first | decide | (dsimp only; first | decide | omega)) (by first | decide | (dsimp only; first | decide | omega)) ⟨b_53, b_46, k_47, rfl, (Nat.le_trans (Nat.le_trans (Nat.le_trans (Nat.le_trans (Nat.le_trans (Nat.le_trans (Nat.le_trans K_3.1 K_11.1) K_18.1) K_24.1) K_34.1) K_42.1) K_49.1) g_56), (Nat.le_trans (Nat.le_trans (Nat.le_trans (Nat.le_trans (Nat.le_trans (Nat.le_trans K_3.1 K_11.1) K_18.1) K_24.1) K_34.1) K_42.1) g_48), ((((((((((Keep.refl _ _).trans K_3 all0).trans K_11 (allS (Or.inr (Nat.le_trans (Nat.le_refl _) g_5)) all0)).trans K_18 all0).trans K_24 (allS (Or.inr (Nat.le_trans (Nat.le_refl _) g_5)) (allS (Or.inr (Nat.le_trans K_3.1 g_10)) all0))).trans K_34 (allS (Or.inr (Nat.le_trans (Nat.le_refl _) g_5)) all0)).trans K_42 all0).trans K_49 all0).trans K_54 all0).trans K_60 (allS (Or.inr (Nat.le_trans (Nat.le_trans (Nat.le_trans (Nat.le_trans (Nat.le_trans (Nat.le_trans (Nat.le_trans K_3.1 K_11.1) K_18.1) K_24.1) K_34.1) K_42.1) K_49.1) g_56)) all0)), O_61, A_62, rfl⟩
theorem own_fail (l : Launch) (Z : State) (a0 : Array Value) (hw : Wds Z a0) (n0 : Nat) (s u : Addr) (k2 : ClassId) (cs : List Int32) (hcs : cs.length ≤ 3) (hS : Nsr cs) (h0 : Heap) (S0 : Sx Z h0 s u k2 cs) (hn0 : n0 ≤ h0.size) (cpt : Int32) (S_C : Sta Z Z.heap "java/lang/String" "COMPACT_STRINGS" "Z" (.int cpt)) (hcpt : ¬ cpt = 0) (S_A : Sta Z Z.heap "java/lang/StringUTF16" "$assertionsDisabled" "Z" (.int 1)) (S_H : Sta Z Z.heap "java/lang/StringUTF16" "HI_BYTE_SHIFT" "I" (.int 0)) (S_L : Sta Z Z.heap "java/lang/StringUTF16" "LO_BYTE_SHIFT" "I" (.int 8)) (fm : Value) (hfm : fm.isRef = true) (S_F : Sta Z Z.heap "jdk/internal/util/Preconditions" "SIOOBE_FORMATTER" "Ljava/util/function/BiFunction;" fm) (u8 : Addr) (S_I : Sta Z Z.heap "sun/nio/cs/UTF_8" "INSTANCE" "Lsun/nio/cs/UTF_8;" (.ref u8)) (S_8 : Sta Z Z.heap "java/nio/charset/StandardCharsets" "UTF_8" "Ljava/nio/charset/Charset;" (.ref u8)) (sF : Addr) (S_FAILED : Sta Z Z.heap "com/example/pacerd/pacerd/run/RunStatus" "FAILED" "Lcom/example/pacerd/pacerd/run/RunStatus;" (.ref sF)) : Con 1 l Z [("com/example/pacerd/pacerd/run/Outcome", 27), ("java/lang/String", 7)] n0 (⟨"com/example/pacerd/pacerd/run/Outcome", "failure", "(Ljava/lang/String;)Lcom/example/pacerd/pacerd/run/Outcome;"⟩ : MethodName) prog_25_method_2_code 2 (some (.object "com/example/pacerd/pacerd/run/Outcome")) ({ frames := 10, cells := 10, slots := 320, locals := 150 } : Room) #[(.ref s)] [] h0 (fun v h D' => ∃ e b k, v = some (.ref e) ∧ h0.size ≤ e ∧ h0.size ≤ b ∧ Keep h0 h [] ∧ Obj Z h e "com/example/pacerd/pacerd/run/Outcome" [("com/example/pacerd/pacerd/run/Outcome", "status", "Lcom/example/pacerd/pacerd/run/RunStatus;", (.ref sF)), ("com/example/pacerd/pacerd/run/Outcome", "exitCode", "Ljava/lang/Integer;", .null), ("com/example/pacerd/pacerd/run/Outcome", "httpStatus", "Ljava/lang/Integer;", .null), ("com/example/pacerd/pacerd/run/Outcome", "output", "[B", (.ref b))] ∧ Arv Z h b k .byte (Int32.ofNat (own_e8 ((own_T 50) ++ cs)).length) ((own_e8 ((own_T 50) ++ cs)).map Value.int) (.int 0) ∧ D' = []) := by
  rcases S0 with S0 | ⟨_, S0⟩
  · exact own_failn l Z a0 hw n0 s u k2 cs hcs hS h0 S0 hn0 cpt S_C hcpt S_A S_H S_L fm hfm S_F u8 S_I S_8 sF S_FAILED
  · exact own_failw l Z a0 hw n0 s u k2 cs hcs hS h0 S0 hn0 cpt S_C hcpt S_A S_H S_L fm hfm S_F u8 S_I S_8 sF S_FAILED
theorem own_eL (cs : List Int32) : own_e8 ((own_T 50) ++ cs) = own_P ++ own_e8 cs := by rw [own_e8a, own_PT]
theorem own_eL0 (p1 p2 p3 : Int32) : own_e8 ((own_T 50) ++ []) = own_P := by rw [own_eL]; simp only [own_e8, List.flatMap_nil, List.append_nil]
theorem own_lL0 (p1 p2 p3 : Int32) : own_P.length ≤ 8 + 3 * 0 := Nat.le_refl _
theorem own_eL1 (p1 p2 p3 : Int32) : own_e8 ((own_T 50) ++ [(own_dr p1)]) = (own_P ++ own_enc (own_dr p1)) := by rw [own_eL]; simp only [own_e8, List.flatMap_cons, List.flatMap_nil, List.append_assoc, List.append_nil]
theorem own_lL1 (p1 p2 p3 : Int32) : (own_P ++ own_enc (own_dr p1)).length ≤ 8 + 3 * 1 := by
  have h1 := own_encl (own_dr p1); have h2 := own_encl (own_dr p2); have h3 := own_encl (own_dr p3)
  simp only [List.length_append]; show 8 + _ ≤ _; omega
theorem own_eL2 (p1 p2 p3 : Int32) : own_e8 ((own_T 50) ++ [(own_dr p1), (own_dr p2)]) = ((own_P ++ own_enc (own_dr p1)) ++ own_enc (own_dr p2)) := by rw [own_eL]; simp only [own_e8, List.flatMap_cons, List.flatMap_nil, List.append_assoc, List.append_nil]
theorem own_lL2 (p1 p2 p3 : Int32) : ((own_P ++ own_enc (own_dr p1)) ++ own_enc (own_dr p2)).length ≤ 8 + 3 * 2 := by
  have h1 := own_encl (own_dr p1); have h2 := own_encl (own_dr p2); have h3 := own_encl (own_dr p3)
  simp only [List.length_append]; show 8 + _ + _ ≤ _; omega
theorem own_eL3 (p1 p2 p3 : Int32) : own_e8 ((own_T 50) ++ [(own_dr p1), (own_dr p2), (own_dr p3)]) = (((own_P ++ own_enc (own_dr p1)) ++ own_enc (own_dr p2)) ++ own_enc (own_dr p3)) := by rw [own_eL]; simp only [own_e8, List.flatMap_cons, List.flatMap_nil, List.append_assoc, List.append_nil]
theorem own_lL3 (p1 p2 p3 : Int32) : (((own_P ++ own_enc (own_dr p1)) ++ own_enc (own_dr p2)) ++ own_enc (own_dr p3)).length ≤ 8 + 3 * 3 := by
  have h1 := own_encl (own_dr p1); have h2 := own_encl (own_dr p2); have h3 := own_encl (own_dr p3)
  simp only [List.length_append]; show 8 + _ + _ + _ ≤ _; omega
theorem own_sxl {Z : State} {h : Heap} {b t : Addr} {k : ClassId} {cs : List Int32} (S : Sx Z h b t k cs) : b < h.size ∧ t < h.size := by
  rcases S with S | S
  · exact ⟨S.1.lt, S.2.1.lt⟩
  · exact ⟨S.2.1.lt, S.2.2.1.lt⟩
set_option maxRecDepth 65536 in
set_option maxHeartbeats 4000000 in
theorem own_law0 (l : Launch) (Z : State) (a0 : Array Value) (hw : Wds Z a0) (n0 : Nat) (p0 p1 p2 p3 : Int32) (cpt : Int32) (S_C : Sta Z Z.heap "java/lang/String" "COMPACT_STRINGS" "Z" (.int cpt)) (hcpt : ¬ cpt = 0) (S_A : Sta Z Z.heap "java/lang/StringUTF16" "$assertionsDisabled" "Z" (.int 1)) (S_H : Sta Z Z.heap "java/lang/StringUTF16" "HI_BYTE_SHIFT" "I" (.int 0)) (S_L : Sta Z Z.heap "java/lang/StringUTF16" "LO_BYTE_SHIFT" "I" (.int 8)) (fm : Value) (hfm : fm.isRef = true) (S_F : Sta Z Z.heap "jdk/internal/util/Preconditions" "SIOOBE_FORMATTER" "Ljava/util/function/BiFunction;" fm) (u8 : Addr) (S_I : Sta Z Z.heap "sun/nio/cs/UTF_8" "INSTANCE" "Lsun/nio/cs/UTF_8;" (.ref u8)) (S_8 : Sta Z Z.heap "java/nio/charset/StandardCharsets" "UTF_8" "Ljava/nio/charset/Charset;" (.ref u8)) (sF : Addr) (S_FAILED : Sta Z Z.heap "com/example/pacerd/pacerd/run/RunStatus" "FAILED" "Lcom/example/pacerd/pacerd/run/RunStatus;" (.ref sF)) : Runs 1 l Z [("com/example/pacerd/pacerd/run/Outcome", 27), ("java/lang/String", 7)] n0 x.cls x.name code maxLocals ret room_1 (fun v h D' => v = some (.int 1)) [] Z.heap 0 0 23 #[.val (.int p0), .val (.int p1), .val (.int p2), .val (.int p3), .val (.int (0 : Int32)), .val (.int (own_dr p1)), .val (.int (own_dr p2)), .val (.int (own_dr p3)), .unset, .unset, .unset, .unset, .unset, .unset] [] := by
  refine Runs.iload i0_23 rfl ?_
  refine Runs.ifN i0_25 (teq (by decide : (0 : Int32) = (0 : Int32))).2 ?_
  refine Runs.iconst (v := (0 : Int32)) i0_28 (by decide) ?_
  refine Runs.newP (cap := 0) (ad := "[C") i0_29 (w6 hw) (by decide) (by decide) (by decide) (by decide) (by decide) rfl ?_
  intro h_1 b_2 k_3 g_6 ge_7 K_4 (A_5 : Arv Z h_1 b_2 k_3 .char (0 : Int32) [] (.int (0 : Int32))) E_8
  refine Runs.astore (ls' := #[.val (.int p0), .val (.int p1), .val (.int p2), .val (.int p3), .val (.int (0 : Int32)), .val (.int (own_dr p1)), .val (.int (own_dr p2)), .val (.int (own_dr p3)), .val (.ref b_2), .unset, .unset, .unset, .unset, .unset]) i0_31 rfl rfl ?_
  refine Runs.goto (t := 105) i0_33 (by decide) ?_
  refine Runs.newO i0_105 (w7 hw) (w8 hw) (w9 hw) (lay_0 hw) (by decide) (by decide) ?_
  intro h_9 b_10 g_13 ge_14 K_11 (O_12 : Obj Z h_9 b_10 "java/lang/String" [("java/lang/String", "value", "[B", .null), ("java/lang/String", "coder", "B", (.int (0 : Int32)))]) U_15
  refine Runs.dup i0_108 rfl ?_
  refine Runs.aload i0_109 rfl rfl ?_
  have A_16 := (A_5.keep K_11 nin0)
  refine Runs.callCW (argsL := [(.ref b_2)]) (rest := [(.ref b_10)]) (W := 1) i0_111 rfl (w10 hw) (w11 hw) (w12 hw) (w9 hw) (by decide) pd_39 rfl rfl rfl rfl (by decide) (by decide) (by decide) (by decide) (allS (List.mem_of_getElem? (i := 0) rfl) all0) (by decide) (own_si_0 l Z a0 hw n0 b_10 b_2 k_3 _ ge_14 O_12 A_16) ?_
  intro v h_22 D1 q hsz
  obtain ⟨rfl, t_17, k_18, K_19, O_20, A_21, rfl⟩ := q
  show Runs 1 l Z [("com/example/pacerd/pacerd/run/Outcome", 27), ("java/lang/String", 7)] n0 _ _ _ _ _ _ _ [b_10, b_2] h_22 6 12 114 #[.val (.int p0), .val (.int p1), .val (.int p2), .val (.int p3), .val (.int (0 : Int32)), .val (.int (own_dr p1)), .val (.int (own_dr p2)), .val (.int (own_dr p3)), .val (.ref b_2), .unset, .unset, .unset, .unset, .unset] [(.ref b_10)]
  have S_23 : Sx Z h_22 b_10 t_17 k_18 [] := Or.inl ⟨O_20, A_21, own_lat0, by decide⟩
  refine Runs.weak (D1 := []) (fun _ q => nomatch q) ?_
  have hn0_1 : n0 ≤ Array.size h_22 := Nat.le_trans ge_14 (Nat.le_trans (Nat.le_of_lt O_12.lt) K_19.1)
  have ls_b_10 := own_sxl S_23
  refine Runs.astore (ls' := #[.val (.int p0), .val (.int p1), .val (.int p2), .val (.int p3), .val (.int (0 : Int32)), .val (.int (own_dr p1)), .val (.int (own_dr p2)), .val (.int (own_dr p3)), .val (.ref b_2), .val (.ref b_10), .unset, .unset, .unset, .unset]) i0_114 rfl rfl ?_
  refine Runs.bipush (v := (17 : Int32)) i0_116 (by decide) ?_
  refine Runs.newP (cap := 17) (ad := "[B") i0_118 (w21 hw) (by decide) (by decide) (by decide) (by decide) (by decide) rfl ?_
  intro h_24 b_25 k_26 g_29 ge_30 K_27 (A_28 : Arv Z h_24 b_25 k_26 .byte (Int32.ofNat 17) (([] : List Int32).map Value.int) (.int 0)) E_31
  refine Runs.astore (ls' := #[.val (.int p0), .val (.int p1), .val (.int p2), .val (.int p3), .val (.int (0 : Int32)), .val (.int (own_dr p1)), .val (.int (own_dr p2)), .val (.int (own_dr p3)), .val (.ref b_2), .val (.ref b_10), .val (.ref b_25), .unset, .unset, .unset]) i0_120 rfl rfl ?_
  refine Runs.aload i0_122 rfl rfl ?_
  refine Runs.iconst (v := (0 : Int32)) i0_124 (by decide) ?_
  refine Runs.bipush (v := (112 : Int32)) i0_125 (by decide) ?_
  refine own_bapp (y := (112 : Int32)) (L := ([] : List Int32)) (c := 17) (j := 0) i0_127 A_28 (by first | rfl | (simp only [List.length_append, List.length_cons, List.length_nil, Nat.zero_add]; first | done | omega)) (by (try simp only [List.length_append, List.length_cons, List.length_nil, Nat.zero_add]); first | done | omega) (by omega) (by decide) ge_30 (List.mem_of_getElem? (i := 0) rfl) ?_
  intro h_32 K_33 (A_34 : Arv Z h_32 b_25 k_26 .byte (Int32.ofNat 17) ((([] : List Int32) ++ [(112 : Int32)]).map Value.int) (.int 0))
  refine Runs.aload i0_128 rfl rfl ?_
  refine Runs.iconst (v := (1 : Int32)) i0_130 (by decide) ?_
  refine Runs.bipush (v := (97 : Int32)) i0_131 (by decide) ?_
  refine own_bapp (y := (97 : Int32)) (L := (([] : List Int32) ++ [(112 : Int32)])) (c := 17) (j := 1) i0_133 A_34 (by first | rfl | (simp only [List.length_append, List.length_cons, List.length_nil, Nat.zero_add]; first | done | omega)) (by (try simp only [List.length_append, List.length_cons, List.length_nil, Nat.zero_add]); first | done | omega) (by omega) (by decide) ge_30 (List.mem_of_getElem? (i := 0) rfl) ?_
  intro h_35 K_36 (A_37 : Arv Z h_35 b_25 k_26 .byte (Int32.ofNat 17) (((([] : List Int32) ++ [(112 : Int32)]) ++ [(97 : Int32)]).map Value.int) (.int 0))
  refine Runs.aload i0_134 rfl rfl ?_
  refine Runs.iconst (v := (2 : Int32)) i0_136 (by decide) ?_
  refine Runs.bipush (v := (99 : Int32)) i0_137 (by decide) ?_
  refine own_bapp (y := (99 : Int32)) (L := ((([] : List Int32) ++ [(112 : Int32)]) ++ [(97 : Int32)])) (c := 17) (j := 2) i0_139 A_37 (by first | rfl | (simp only [List.length_append, List.length_cons, List.length_nil, Nat.zero_add]; first | done | omega)) (by (try simp only [List.length_append, List.length_cons, List.length_nil, Nat.zero_add]); first | done | omega) (by omega) (by decide) ge_30 (List.mem_of_getElem? (i := 0) rfl) ?_
  intro h_38 K_39 (A_40 : Arv Z h_38 b_25 k_26 .byte (Int32.ofNat 17) ((((([] : List Int32) ++ [(112 : Int32)]) ++ [(97 : Int32)]) ++ [(99 : Int32)]).map Value.int) (.int 0))
  refine Runs.aload i0_140 rfl rfl ?_
  refine Runs.iconst (v := (3 : Int32)) i0_142 (by decide) ?_
  refine Runs.bipush (v := (101 : Int32)) i0_143 (by decide) ?_
  refine own_bapp (y := (101 : Int32)) (L := (((([] : List Int32) ++ [(112 : Int32)]) ++ [(97 : Int32)]) ++ [(99 : Int32)])) (c := 17) (j := 3) i0_145 A_40 (by first | rfl | (simp only [List.length_append, List.length_cons, List.length_nil, Nat.zero_add]; first | done | omega)) (by (try simp only [List.length_append, List.length_cons, List.length_nil, Nat.zero_add]); first | done | omega) (by omega) (by decide) ge_30 (List.mem_of_getElem? (i := 0) rfl) ?_
  intro h_41 K_42 (A_43 : Arv Z h_41 b_25 k_26 .byte (Int32.ofNat 17) (((((([] : List Int32) ++ [(112 : Int32)]) ++ [(97 : Int32)]) ++ [(99 : Int32)]) ++ [(101 : Int32)]).map Value.int) (.int 0))
  refine Runs.aload i0_146 rfl rfl ?_
  refine Runs.iconst (v := (4 : Int32)) i0_148 (by decide) ?_
  refine Runs.bipush (v := (114 : Int32)) i0_149 (by decide) ?_
  refine own_bapp (y := (114 : Int32)) (L := ((((([] : List Int32) ++ [(112 : Int32)]) ++ [(97 : Int32)]) ++ [(99 : Int32)]) ++ [(101 : Int32)])) (c := 17) (j := 4) i0_151 A_43 (by first | rfl | (simp only [List.length_append, List.length_cons, List.length_nil, Nat.zero_add]; first | done | omega)) (by (try simp only [List.length_append, List.length_cons, List.length_nil, Nat.zero_add]); first | done | omega) (by omega) (by decide) ge_30 (List.mem_of_getElem? (i := 0) rfl) ?_
  intro h_44 K_45 (A_46 : Arv Z h_44 b_25 k_26 .byte (Int32.ofNat 17) ((((((([] : List Int32) ++ [(112 : Int32)]) ++ [(97 : Int32)]) ++ [(99 : Int32)]) ++ [(101 : Int32)]) ++ [(114 : Int32)]).map Value.int) (.int 0))
  refine Runs.aload i0_152 rfl rfl ?_
  refine Runs.iconst (v := (5 : Int32)) i0_154 (by decide) ?_
  refine Runs.bipush (v := (100 : Int32)) i0_155 (by decide) ?_
  refine own_bapp (y := (100 : Int32)) (L := (((((([] : List Int32) ++ [(112 : Int32)]) ++ [(97 : Int32)]) ++ [(99 : Int32)]) ++ [(101 : Int32)]) ++ [(114 : Int32)])) (c := 17) (j := 5) i0_157 A_46 (by first | rfl | (simp only [List.length_append, List.length_cons, List.length_nil, Nat.zero_add]; first | done | omega)) (by (try simp only [List.length_append, List.length_cons, List.length_nil, Nat.zero_add]); first | done | omega) (by omega) (by decide) ge_30 (List.mem_of_getElem? (i := 0) rfl) ?_
  intro h_47 K_48 (A_49 : Arv Z h_47 b_25 k_26 .byte (Int32.ofNat 17) (((((((([] : List Int32) ++ [(112 : Int32)]) ++ [(97 : Int32)]) ++ [(99 : Int32)]) ++ [(101 : Int32)]) ++ [(114 : Int32)]) ++ [(100 : Int32)]).map Value.int) (.int 0))
  refine Runs.aload i0_158 rfl rfl ?_
  refine Runs.bipush (v := (6 : Int32)) i0_160 (by decide) ?_
  refine Runs.bipush (v := (58 : Int32)) i0_162 (by decide) ?_
  refine own_bapp (y := (58 : Int32)) (L := ((((((([] : List Int32) ++ [(112 : Int32)]) ++ [(97 : Int32)]) ++ [(99 : Int32)]) ++ [(101 : Int32)]) ++ [(114 : Int32)]) ++ [(100 : Int32)])) (c := 17) (j := 6) i0_164 A_49 (by first | rfl | (simp only [List.length_append, List.length_cons, List.length_nil, Nat.zero_add]; first | done | omega)) (by (try simp only [List.length_append, List.length_cons, List.length_nil, Nat.zero_add]); first | done | omega) (by omega) (by decide) ge_30 (List.mem_of_getElem? (i := 0) rfl) ?_
  intro h_50 K_51 (A_52 : Arv Z h_50 b_25 k_26 .byte (Int32.ofNat 17) ((((((((([] : List Int32) ++ [(112 : Int32)]) ++ [(97 : Int32)]) ++ [(99 : Int32)]) ++ [(101 : Int32)]) ++ [(114 : Int32)]) ++ [(100 : Int32)]) ++ [(58 : Int32)]).map Value.int) (.int 0))
  refine Runs.aload i0_165 rfl rfl ?_
  refine Runs.bipush (v := (7 : Int32)) i0_167 (by decide) ?_
  refine Runs.bipush (v := (32 : Int32)) i0_169 (by decide) ?_
  refine own_bapp (y := (32 : Int32)) (L := (((((((([] : List Int32) ++ [(112 : Int32)]) ++ [(97 : Int32)]) ++ [(99 : Int32)]) ++ [(101 : Int32)]) ++ [(114 : Int32)]) ++ [(100 : Int32)]) ++ [(58 : Int32)])) (c := 17) (j := 7) i0_171 A_52 (by first | rfl | (simp only [List.length_append, List.length_cons, List.length_nil, Nat.zero_add]; first | done | omega)) (by (try simp only [List.length_append, List.length_cons, List.length_nil, Nat.zero_add]); first | done | omega) (by omega) (by decide) ge_30 (List.mem_of_getElem? (i := 0) rfl) ?_
  intro h_53 K_54 (A_55 : Arv Z h_53 b_25 k_26 .byte (Int32.ofNat 17) (((((((((([] : List Int32) ++ [(112 : Int32)]) ++ [(97 : Int32)]) ++ [(99 : Int32)]) ++ [(101 : Int32)]) ++ [(114 : Int32)]) ++ [(100 : Int32)]) ++ [(58 : Int32)]) ++ [(32 : Int32)]).map Value.int) (.int 0))
  refine Runs.bipush (v := (8 : Int32)) i0_172 (by decide) ?_
  refine Runs.istore (ls' := #[.val (.int p0), .val (.int p1), .val (.int p2), .val (.int p3), .val (.int (0 : Int32)), .val (.int (own_dr p1)), .val (.int (own_dr p2)), .val (.int (own_dr p3)), .val (.ref b_2), .val (.ref b_10), .val (.ref b_25), .val (.int (8 : Int32)), .unset, .unset]) i0_174 rfl ?_
  refine Runs.iload i0_176 rfl ?_
  refine Runs.iconst (v := (1 : Int32)) i0_178 (by decide) ?_
  refine Runs.icY (t := 193) i0_179 (by decide) (tlt (by decide : (0 : Int32) < (1 : Int32))).1 ?_
  refine Runs.iload i0_193 rfl ?_
  refine Runs.iconst (v := (2 : Int32)) i0_195 (by decide) ?_
  refine Runs.icY (t := 210) i0_196 (by decide) (tlt (by decide : (0 : Int32) < (2 : Int32))).1 ?_
  refine Runs.iload i0_210 rfl ?_
  refine Runs.iconst (v := (3 : Int32)) i0_212 (by decide) ?_
  refine Runs.icY (t := 227) i0_213 (by decide) (tlt (by decide : (0 : Int32) < (3 : Int32))).1 ?_
  have A_56 : Arv Z h_53 b_25 k_26 .byte (Int32.ofNat 17) (own_P.map Value.int) (.int 0) := A_55
  show Runs 1 l Z [("com/example/pacerd/pacerd/run/Outcome", 27), ("java/lang/String", 7)] n0 _ _ _ _ _ _ _ [b_25] h_53 7 29 227 #[.val (.int p0), .val (.int p1), .val (.int p2), .val (.int p3), .val (.int (0 : Int32)), .val (.int (own_dr p1)), .val (.int (own_dr p2)), .val (.int (own_dr p3)), .val (.ref b_2), .val (.ref b_10), .val (.ref b_25), .val (.int (Int32.ofNat own_P.length)), .unset, .unset] []
  refine Runs.aload i0_227 rfl rfl ?_
  refine Runs.callSW (argsL := [(.ref b_10)]) (rest := []) (W := 0) i0_229 (w28 hw) (w29 hw) (w30 hw) (w31 hw) (by decide) pd_40 rfl rfl rfl rfl (by decide) (by decide) (by decide) (by decide) all0 (by decide) (own_fail l Z a0 hw n0 b_10 t_17 k_18 [] (by simp) own_a0 _ (((((((((S_23.keep K_27 nin0 nin0).keep K_33 (ninS (Nat.ne_of_lt (Nat.lt_of_lt_of_le (Nat.lt_of_lt_of_le ls_b_10.1 (Nat.le_refl _)) g_29)) nin0) (ninS (Nat.ne_of_lt (Nat.lt_of_lt_of_le (Nat.lt_of_lt_of_le ls_b_10.2 (Nat.le_refl _)) g_29)) nin0)).keep K_36 (ninS (Nat.ne_of_lt (Nat.lt_of_lt_of_le (Nat.lt_of_lt_of_le ls_b_10.1 (Nat.le_refl _)) g_29)) nin0) (ninS (Nat.ne_of_lt (Nat.lt_of_lt_of_le (Nat.lt_of_lt_of_le ls_b_10.2 (Nat.le_refl _)) g_29)) nin0)).keep K_39 (ninS (Nat.ne_of_lt (Nat.lt_of_lt_of_le (Nat.lt_of_lt_of_le ls_b_10.1 (Nat.le_refl _)) g_29)) nin0) (ninS (Nat.ne_of_lt (Nat.lt_of_lt_of_le (Nat.lt_of_lt_of_le ls_b_10.2 (Nat.le_refl _)) g_29)) nin0)).keep K_42 (ninS (Nat.ne_of_lt (Nat.lt_of_lt_of_le (Nat.lt_of_lt_of_le ls_b_10.1 (Nat.le_refl _)) g_29)) nin0) (ninS (Nat.ne_of_lt (Nat.lt_of_lt_of_le (Nat.lt_of_lt_of_le ls_b_10.2 (Nat.le_refl _)) g_29)) nin0)).keep K_45 (ninS (Nat.ne_of_lt (Nat.lt_of_lt_of_le (Nat.lt_of_lt_of_le ls_b_10.1 (Nat.le_refl _)) g_29)) nin0) (ninS (Nat.ne_of_lt (Nat.lt_of_lt_of_le (Nat.lt_of_lt_of_le ls_b_10.2 (Nat.le_refl _)) g_29)) nin0)).keep K_48 (ninS (Nat.ne_of_lt (Nat.lt_of_lt_of_le (Nat.lt_of_lt_of_le ls_b_10.1 (Nat.le_refl _)) g_29)) nin0) (ninS (Nat.ne_of_lt (Nat.lt_of_lt_of_le (Nat.lt_of_lt_of_le ls_b_10.2 (Nat.le_refl _)) g_29)) nin0)).keep K_51 (ninS (Nat.ne_of_lt (Nat.lt_of_lt_of_le (Nat.lt_of_lt_of_le ls_b_10.1 (Nat.le_refl _)) g_29)) nin0) (ninS (Nat.ne_of_lt (Nat.lt_of_lt_of_le (Nat.lt_of_lt_of_le ls_b_10.2 (Nat.le_refl _)) g_29)) nin0)).keep K_54 (ninS (Nat.ne_of_lt (Nat.lt_of_lt_of_le (Nat.lt_of_lt_of_le ls_b_10.1 (Nat.le_refl _)) g_29)) nin0) (ninS (Nat.ne_of_lt (Nat.lt_of_lt_of_le (Nat.lt_of_lt_of_le ls_b_10.2 (Nat.le_refl _)) g_29)) nin0)) (Nat.le_trans hn0_1 (Nat.le_trans (Nat.le_trans (Nat.le_trans (Nat.le_trans (Nat.le_trans (Nat.le_trans (Nat.le_trans (Nat.le_trans K_27.1 K_33.1) K_36.1) K_39.1) K_42.1) K_45.1) K_48.1) K_51.1) K_54.1)) cpt S_C hcpt S_A S_H S_L fm hfm S_F u8 S_I S_8 sF S_FAILED) ?_
  intro v h_65 D1 q hsz
  obtain ⟨o_57, b_58, k_59, rfl, g_60, g_61, K_62, O_63, A_64, rfl⟩ := q
  show Runs 1 l Z [("com/example/pacerd/pacerd/run/Outcome", 27), ("java/lang/String", 7)] n0 _ _ _ _ _ _ _ [b_25] h_65 17 349 232 #[.val (.int p0), .val (.int p1), .val (.int p2), .val (.int p3), .val (.int (0 : Int32)), .val (.int (own_dr p1)), .val (.int (own_dr p2)), .val (.int (own_dr p3)), .val (.ref b_2), .val (.ref b_10), .val (.ref b_25), .val (.int (Int32.ofNat own_P.length)), .unset, .unset] [(.ref o_57)]
  rw [own_eL0 p1 p2 p3] at A_64
  refine Runs.astore (ls' := #[.val (.int p0), .val (.int p1), .val (.int p2), .val (.int p3), .val (.int (0 : Int32)), .val (.int (own_dr p1)), .val (.int (own_dr p2)), .val (.int (own_dr p3)), .val (.ref b_2), .val (.ref b_10), .val (.ref b_25), .val (.int (Int32.ofNat own_P.length)), .val (.ref o_57), .unset]) i0_232 rfl rfl ?_
  refine Runs.aload i0_234 rfl rfl ?_
  refine Runs.nnullY (t := 241) i0_236 (by decide) ?_
  refine Runs.aload i0_241 rfl rfl ?_
  refine Runs.callVW (argsL := []) (rest := []) (W := 0) i0_243 (w197 hw) (w198 hw) (fun s hZ => notFace_of_selects (args := #[]) (mvT hZ (w200 hw))) (w200 hw) (w199 hw) (w201 hw) (w30 hw) (by decide) O_63.1 pd_41 rfl rfl rfl rfl (by decide) (by decide) (by decide) (by decide) all0 (by decide) (own_g_status l Z a0 hw n0 o_57 (.ref sF) rfl _ (O_63.fld (i := 0) rfl)) ?_
  intro v h1 D1 q hsz
  obtain ⟨rfl, rfl, rfl⟩ := q
  show Runs 1 l Z [("com/example/pacerd/pacerd/run/Outcome", 27), ("java/lang/String", 7)] n0 _ _ _ _ _ _ _ [b_25] h_65 17 349 246 #[.val (.int p0), .val (.int p1), .val (.int p2), .val (.int p3), .val (.int (0 : Int32)), .val (.int (own_dr p1)), .val (.int (own_dr p2)), .val (.int (own_dr p3)), .val (.ref b_2), .val (.ref b_10), .val (.ref b_25), .val (.int (Int32.ofNat own_P.length)), .val (.ref o_57), .unset] [(.ref sF)]
  refine Runs.getS i0_246 (w202 hw) Via.refl S_FAILED ?_
  refine Runs.acY (t := 254) i0_249 (by decide) rfl rfl (Jvm.Free.XT.aa_eq_t (congrArg Value.ref rfl)) ?_
  refine Runs.aload i0_254 rfl rfl ?_
  refine Runs.callVW (argsL := []) (rest := []) (W := 0) i0_256 (w203 hw) (w204 hw) (fun s hZ => notFace_of_selects (args := #[]) (mvT hZ (w206 hw))) (w206 hw) (w205 hw) (w207 hw) (w30 hw) (by decide) O_63.1 pd_42 rfl rfl rfl rfl (by decide) (by decide) (by decide) (by decide) all0 (by decide) (own_g_exitCode l Z a0 hw n0 o_57 .null rfl _ (O_63.fld (i := 1) rfl)) ?_
  intro v h1 D1 q hsz
  obtain ⟨rfl, rfl, rfl⟩ := q
  show Runs 1 l Z [("com/example/pacerd/pacerd/run/Outcome", 27), ("java/lang/String", 7)] n0 _ _ _ _ _ _ _ [b_25] h_65 17 349 259 #[.val (.int p0), .val (.int p1), .val (.int p2), .val (.int p3), .val (.int (0 : Int32)), .val (.int (own_dr p1)), .val (.int (own_dr p2)), .val (.int (own_dr p3)), .val (.ref b_2), .val (.ref b_10), .val (.ref b_25), .val (.int (Int32.ofNat own_P.length)), .val (.ref o_57), .unset] [.null]
  refine Runs.nnullN i0_259 ?_
  refine Runs.aload i0_262 rfl rfl ?_
  refine Runs.callVW (argsL := []) (rest := []) (W := 0) i0_264 (w208 hw) (w209 hw) (fun s hZ => notFace_of_selects (args := #[]) (mvT hZ (w211 hw))) (w211 hw) (w210 hw) (w212 hw) (w30 hw) (by decide) O_63.1 pd_42 rfl rfl rfl rfl (by decide) (by decide) (by decide) (by decide) all0 (by decide) (own_g_httpStatus l Z a0 hw n0 o_57 .null rfl _ (O_63.fld (i := 2) rfl)) ?_
  intro v h1 D1 q hsz
  obtain ⟨rfl, rfl, rfl⟩ := q
  show Runs 1 l Z [("com/example/pacerd/pacerd/run/Outcome", 27), ("java/lang/String", 7)] n0 _ _ _ _ _ _ _ [b_25] h_65 17 349 267 #[.val (.int p0), .val (.int p1), .val (.int p2), .val (.int p3), .val (.int (0 : Int32)), .val (.int (own_dr p1)), .val (.int (own_dr p2)), .val (.int (own_dr p3)), .val (.ref b_2), .val (.ref b_10), .val (.ref b_25), .val (.int (Int32.ofNat own_P.length)), .val (.ref o_57), .unset] [.null]
  refine Runs.nullY (t := 272) i0_267 (by decide) ?_
  refine Runs.aload i0_272 rfl rfl ?_
  refine Runs.callVW (argsL := []) (rest := []) (W := 0) i0_274 (w213 hw) (w214 hw) (fun s hZ => notFace_of_selects (args := #[]) (mvT hZ (w216 hw))) (w216 hw) (w215 hw) (w217 hw) (w30 hw) (by decide) O_63.1 pd_25 rfl rfl rfl rfl (by decide) (by decide) (by decide) (by decide) all0 (by decide) (own_g_output l Z a0 hw n0 o_57 (.ref b_58) rfl _ (O_63.fld (i := 3) rfl)) ?_
  intro v h1 D1 q hsz
  obtain ⟨rfl, rfl, rfl⟩ := q
  show Runs 1 l Z [("com/example/pacerd/pacerd/run/Outcome", 27), ("java/lang/String", 7)] n0 _ _ _ _ _ _ _ [b_25] h_65 17 349 277 #[.val (.int p0), .val (.int p1), .val (.int p2), .val (.int p3), .val (.int (0 : Int32)), .val (.int (own_dr p1)), .val (.int (own_dr p2)), .val (.int (own_dr p3)), .val (.ref b_2), .val (.ref b_10), .val (.ref b_25), .val (.int (Int32.ofNat own_P.length)), .val (.ref o_57), .unset] [(.ref b_58)]
  refine Runs.astore (ls' := #[.val (.int p0), .val (.int p1), .val (.int p2), .val (.int p3), .val (.int (0 : Int32)), .val (.int (own_dr p1)), .val (.int (own_dr p2)), .val (.int (own_dr p3)), .val (.ref b_2), .val (.ref b_10), .val (.ref b_25), .val (.int (Int32.ofNat own_P.length)), .val (.ref o_57), .val (.ref b_58)]) i0_277 rfl rfl ?_
  refine Runs.aload i0_279 rfl rfl ?_
  refine Runs.nullN i0_281 ?_
  refine Runs.aload i0_284 rfl rfl ?_
  refine Runs.arrlen i0_286 A_64 ?_
  refine Runs.iload i0_287 rfl ?_
  refine Runs.icY (t := 294) i0_289 (by decide) (teq (rfl : (Int32.ofNat own_P.length) = (Int32.ofNat own_P.length))).1 ?_
  refine Runs.aload i0_294 rfl rfl ?_
  refine Runs.aload i0_296 rfl rfl ?_
  refine Runs.iload i0_298 rfl ?_
  refine Runs.iconst (v := (0 : Int32)) i0_300 (by decide) ?_
  have A_66 := (A_56.keep K_62 nin0)
  refine Runs.callSW (argsL := [(.ref b_58), (.ref b_25), (.int (Int32.ofNat own_P.length)), (.int (0 : Int32))]) (rest := []) (W := 0) i0_301 (w218 hw) (w219 hw) (w2 hw) (w220 hw) (by decide) pd_43 rfl rfl rfl rfl (by decide) (by decide) (by decide) (by decide) all0 (by decide) (own_eqc l Z a0 hw n0 b_58 b_25 k_59 k_26 own_P (by have := own_lL0 p1 p2 p3; omega) 0 (by decide) _ A_64 A_66) ?_
  intro v h1 D1 q hsz
  obtain ⟨rfl, rfl, rfl⟩ := q
  show Runs 1 l Z [("com/example/pacerd/pacerd/run/Outcome", 27), ("java/lang/String", 7)] n0 _ _ _ _ _ _ _ [b_25] h_65 17 349 304 #[.val (.int p0), .val (.int p1), .val (.int p2), .val (.int p3), .val (.int (0 : Int32)), .val (.int (own_dr p1)), .val (.int (own_dr p2)), .val (.int (own_dr p3)), .val (.ref b_2), .val (.ref b_10), .val (.ref b_25), .val (.int (Int32.ofNat own_P.length)), .val (.ref o_57), .val (.ref b_58)] [(.int (1 : Int32))]
  refine Runs.ifN i0_304 (feq (by decide : ¬ ((1 : Int32) = (0 : Int32)))).1 ?_
  refine Runs.aload i0_307 rfl rfl ?_
  refine Runs.aload i0_309 rfl rfl ?_
  refine Runs.iload i0_311 rfl ?_
  refine Runs.iconst (v := (1 : Int32)) i0_313 (by decide) ?_
  refine Runs.callSW (argsL := [(.ref b_58), (.ref b_25), (.int (Int32.ofNat own_P.length)), (.int (1 : Int32))]) (rest := []) (W := 0) i0_314 (w218 hw) (w219 hw) (w2 hw) (w220 hw) (by decide) pd_43 rfl rfl rfl rfl (by decide) (by decide) (by decide) (by decide) all0 (by decide) (own_eqc l Z a0 hw n0 b_58 b_25 k_59 k_26 own_P (by have := own_lL0 p1 p2 p3; omega) 1 (by decide) _ A_64 A_66) ?_
  intro v h1 D1 q hsz
  obtain ⟨rfl, rfl, rfl⟩ := q
  show Runs 1 l Z [("com/example/pacerd/pacerd/run/Outcome", 27), ("java/lang/String", 7)] n0 _ _ _ _ _ _ _ [b_25] h_65 17 349 317 #[.val (.int p0), .val (.int p1), .val (.int p2), .val (.int p3), .val (.int (0 : Int32)), .val (.int (own_dr p1)), .val (.int (own_dr p2)), .val (.int (own_dr p3)), .val (.ref b_2), .val (.ref b_10), .val (.ref b_25), .val (.int (Int32.ofNat own_P.length)), .val (.ref o_57), .val (.ref b_58)] [(.int (1 : Int32))]
  refine Runs.ifN i0_317 (feq (by decide : ¬ ((1 : Int32) = (0 : Int32)))).1 ?_
  refine Runs.aload i0_320 rfl rfl ?_
  refine Runs.aload i0_322 rfl rfl ?_
  refine Runs.iload i0_324 rfl ?_
  refine Runs.iconst (v := (2 : Int32)) i0_326 (by decide) ?_
  refine Runs.callSW (argsL := [(.ref b_58), (.ref b_25), (.int (Int32.ofNat own_P.length)), (.int (2 : Int32))]) (rest := []) (W := 0) i0_327 (w218 hw) (w219 hw) (w2 hw) (w220 hw) (by decide) pd_43 rfl rfl rfl rfl (by decide) (by decide) (by decide) (by decide) all0 (by decide) (own_eqc l Z a0 hw n0 b_58 b_25 k_59 k_26 own_P (by have := own_lL0 p1 p2 p3; omega) 2 (by decide) _ A_64 A_66) ?_
  intro v h1 D1 q hsz
  obtain ⟨rfl, rfl, rfl⟩ := q
  show Runs 1 l Z [("com/example/pacerd/pacerd/run/Outcome", 27), ("java/lang/String", 7)] n0 _ _ _ _ _ _ _ [b_25] h_65 17 349 330 #[.val (.int p0), .val (.int p1), .val (.int p2), .val (.int p3), .val (.int (0 : Int32)), .val (.int (own_dr p1)), .val (.int (own_dr p2)), .val (.int (own_dr p3)), .val (.ref b_2), .val (.ref b_10), .val (.ref b_25), .val (.int (Int32.ofNat own_P.length)), .val (.ref o_57), .val (.ref b_58)] [(.int (1 : Int32))]
  refine Runs.ifN i0_330 (feq (by decide : ¬ ((1 : Int32) = (0 : Int32)))).1 ?_
  refine Runs.aload i0_333 rfl rfl ?_
  refine Runs.aload i0_335 rfl rfl ?_
  refine Runs.iload i0_337 rfl ?_
  refine Runs.iconst (v := (3 : Int32)) i0_339 (by decide) ?_
  refine Runs.callSW (argsL := [(.ref b_58), (.ref b_25), (.int (Int32.ofNat own_P.length)), (.int (3 : Int32))]) (rest := []) (W := 0) i0_340 (w218 hw) (w219 hw) (w2 hw) (w220 hw) (by decide) pd_43 rfl rfl rfl rfl (by decide) (by decide) (by decide) (by decide) all0 (by decide) (own_eqc l Z a0 hw n0 b_58 b_25 k_59 k_26 own_P (by have := own_lL0 p1 p2 p3; omega) 3 (by decide) _ A_64 A_66) ?_
  intro v h1 D1 q hsz
  obtain ⟨rfl, rfl, rfl⟩ := q
  show Runs 1 l Z [("com/example/pacerd/pacerd/run/Outcome", 27), ("java/lang/String", 7)] n0 _ _ _ _ _ _ _ [b_25] h_65 17 349 343 #[.val (.int p0), .val (.int p1), .val (.int p2), .val (.int p3), .val (.int (0 : Int32)), .val (.int (own_dr p1)), .val (.int (own_dr p2)), .val (.int (own_dr p3)), .val (.ref b_2), .val (.ref b_10), .val (.ref b_25), .val (.int (Int32.ofNat own_P.length)), .val (.ref o_57), .val (.ref b_58)] [(.int (1 : Int32))]
  refine Runs.ifN i0_343 (feq (by decide : ¬ ((1 : Int32) = (0 : Int32)))).1 ?_
  refine Runs.aload i0_346 rfl rfl ?_
  refine Runs.aload i0_348 rfl rfl ?_
  refine Runs.iload i0_350 rfl ?_
  refine Runs.iconst (v := (4 : Int32)) i0_352 (by decide) ?_
  refine Runs.callSW (argsL := [(.ref b_58), (.ref b_25), (.int (Int32.ofNat own_P.length)), (.int (4 : Int32))]) (rest := []) (W := 0) i0_353 (w218 hw) (w219 hw) (w2 hw) (w220 hw) (by decide) pd_43 rfl rfl rfl rfl (by decide) (by decide) (by decide) (by decide) all0 (by decide) (own_eqc l Z a0 hw n0 b_58 b_25 k_59 k_26 own_P (by have := own_lL0 p1 p2 p3; omega) 4 (by decide) _ A_64 A_66) ?_
  intro v h1 D1 q hsz
  obtain ⟨rfl, rfl, rfl⟩ := q
  show Runs 1 l Z [("com/example/pacerd/pacerd/run/Outcome", 27), ("java/lang/String", 7)] n0 _ _ _ _ _ _ _ [b_25] h_65 17 349 356 #[.val (.int p0), .val (.int p1), .val (.int p2), .val (.int p3), .val (.int (0 : Int32)), .val (.int (own_dr p1)), .val (.int (own_dr p2)), .val (.int (own_dr p3)), .val (.ref b_2), .val (.ref b_10), .val (.ref b_25), .val (.int (Int32.ofNat own_P.length)), .val (.ref o_57), .val (.ref b_58)] [(.int (1 : Int32))]
  refine Runs.ifN i0_356 (feq (by decide : ¬ ((1 : Int32) = (0 : Int32)))).1 ?_
  refine Runs.aload i0_359 rfl rfl ?_
  refine Runs.aload i0_361 rfl rfl ?_
  refine Runs.iload i0_363 rfl ?_
  refine Runs.iconst (v := (5 : Int32)) i0_365 (by decide) ?_
  refine Runs.callSW (argsL := [(.ref b_58), (.ref b_25), (.int (Int32.ofNat own_P.length)), (.int (5 : Int32))]) (rest := []) (W := 0) i0_366 (w218 hw) (w219 hw) (w2 hw) (w220 hw) (by decide) pd_43 rfl rfl rfl rfl (by decide) (by decide) (by decide) (by decide) all0 (by decide) (own_eqc l Z a0 hw n0 b_58 b_25 k_59 k_26 own_P (by have := own_lL0 p1 p2 p3; omega) 5 (by decide) _ A_64 A_66) ?_
  intro v h1 D1 q hsz
  obtain ⟨rfl, rfl, rfl⟩ := q
  show Runs 1 l Z [("com/example/pacerd/pacerd/run/Outcome", 27), ("java/lang/String", 7)] n0 _ _ _ _ _ _ _ [b_25] h_65 17 349 369 #[.val (.int p0), .val (.int p1), .val (.int p2), .val (.int p3), .val (.int (0 : Int32)), .val (.int (own_dr p1)), .val (.int (own_dr p2)), .val (.int (own_dr p3)), .val (.ref b_2), .val (.ref b_10), .val (.ref b_25), .val (.int (Int32.ofNat own_P.length)), .val (.ref o_57), .val (.ref b_58)] [(.int (1 : Int32))]
  refine Runs.ifN i0_369 (feq (by decide : ¬ ((1 : Int32) = (0 : Int32)))).1 ?_
  refine Runs.aload i0_372 rfl rfl ?_
  refine Runs.aload i0_374 rfl rfl ?_
  refine Runs.iload i0_376 rfl ?_
  refine Runs.bipush (v := (6 : Int32)) i0_378 (by decide) ?_
  refine Runs.callSW (argsL := [(.ref b_58), (.ref b_25), (.int (Int32.ofNat own_P.length)), (.int (6 : Int32))]) (rest := []) (W := 0) i0_380 (w218 hw) (w219 hw) (w2 hw) (w220 hw) (by decide) pd_43 rfl rfl rfl rfl (by decide) (by decide) (by decide) (by decide) all0 (by decide) (own_eqc l Z a0 hw n0 b_58 b_25 k_59 k_26 own_P (by have := own_lL0 p1 p2 p3; omega) 6 (by decide) _ A_64 A_66) ?_
  intro v h1 D1 q hsz
  obtain ⟨rfl, rfl, rfl⟩ := q
  show Runs 1 l Z [("com/example/pacerd/pacerd/run/Outcome", 27), ("java/lang/String", 7)] n0 _ _ _ _ _ _ _ [b_25] h_65 17 349 383 #[.val (.int p0), .val (.int p1), .val (.int p2), .val (.int p3), .val (.int (0 : Int32)), .val (.int (own_dr p1)), .val (.int (own_dr p2)), .val (.int (own_dr p3)), .val (.ref b_2), .val (.ref b_10), .val (.ref b_25), .val (.int (Int32.ofNat own_P.length)), .val (.ref o_57), .val (.ref b_58)] [(.int (1 : Int32))]
  refine Runs.ifN i0_383 (feq (by decide : ¬ ((1 : Int32) = (0 : Int32)))).1 ?_
  refine Runs.aload i0_386 rfl rfl ?_
  refine Runs.aload i0_388 rfl rfl ?_
  refine Runs.iload i0_390 rfl ?_
  refine Runs.bipush (v := (7 : Int32)) i0_392 (by decide) ?_
  refine Runs.callSW (argsL := [(.ref b_58), (.ref b_25), (.int (Int32.ofNat own_P.length)), (.int (7 : Int32))]) (rest := []) (W := 0) i0_394 (w218 hw) (w219 hw) (w2 hw) (w220 hw) (by decide) pd_43 rfl rfl rfl rfl (by decide) (by decide) (by decide) (by decide) all0 (by decide) (own_eqc l Z a0 hw n0 b_58 b_25 k_59 k_26 own_P (by have := own_lL0 p1 p2 p3; omega) 7 (by decide) _ A_64 A_66) ?_
  intro v h1 D1 q hsz
  obtain ⟨rfl, rfl, rfl⟩ := q
  show Runs 1 l Z [("com/example/pacerd/pacerd/run/Outcome", 27), ("java/lang/String", 7)] n0 _ _ _ _ _ _ _ [b_25] h_65 17 349 397 #[.val (.int p0), .val (.int p1), .val (.int p2), .val (.int p3), .val (.int (0 : Int32)), .val (.int (own_dr p1)), .val (.int (own_dr p2)), .val (.int (own_dr p3)), .val (.ref b_2), .val (.ref b_10), .val (.ref b_25), .val (.int (Int32.ofNat own_P.length)), .val (.ref o_57), .val (.ref b_58)] [(.int (1 : Int32))]
  refine Runs.ifN i0_397 (feq (by decide : ¬ ((1 : Int32) = (0 : Int32)))).1 ?_
  refine Runs.aload i0_400 rfl rfl ?_
  refine Runs.aload i0_402 rfl rfl ?_
  refine Runs.iload i0_404 rfl ?_
  refine Runs.bipush (v := (8 : Int32)) i0_406 (by decide) ?_
  refine Runs.callSW (argsL := [(.ref b_58), (.ref b_25), (.int (Int32.ofNat own_P.length)), (.int (8 : Int32))]) (rest := []) (W := 0) i0_408 (w218 hw) (w219 hw) (w2 hw) (w220 hw) (by decide) pd_43 rfl rfl rfl rfl (by decide) (by decide) (by decide) (by decide) all0 (by decide) (own_eqc l Z a0 hw n0 b_58 b_25 k_59 k_26 own_P (by have := own_lL0 p1 p2 p3; omega) 8 (by decide) _ A_64 A_66) ?_
  intro v h1 D1 q hsz
  obtain ⟨rfl, rfl, rfl⟩ := q
  show Runs 1 l Z [("com/example/pacerd/pacerd/run/Outcome", 27), ("java/lang/String", 7)] n0 _ _ _ _ _ _ _ [b_25] h_65 17 349 411 #[.val (.int p0), .val (.int p1), .val (.int p2), .val (.int p3), .val (.int (0 : Int32)), .val (.int (own_dr p1)), .val (.int (own_dr p2)), .val (.int (own_dr p3)), .val (.ref b_2), .val (.ref b_10), .val (.ref b_25), .val (.int (Int32.ofNat own_P.length)), .val (.ref o_57), .val (.ref b_58)] [(.int (1 : Int32))]
  refine Runs.ifN i0_411 (feq (by decide : ¬ ((1 : Int32) = (0 : Int32)))).1 ?_
  refine Runs.aload i0_414 rfl rfl ?_
  refine Runs.aload i0_416 rfl rfl ?_
  refine Runs.iload i0_418 rfl ?_
  refine Runs.bipush (v := (9 : Int32)) i0_420 (by decide) ?_
  refine Runs.callSW (argsL := [(.ref b_58), (.ref b_25), (.int (Int32.ofNat own_P.length)), (.int (9 : Int32))]) (rest := []) (W := 0) i0_422 (w218 hw) (w219 hw) (w2 hw) (w220 hw) (by decide) pd_43 rfl rfl rfl rfl (by decide) (by decide) (by decide) (by decide) all0 (by decide) (own_eqc l Z a0 hw n0 b_58 b_25 k_59 k_26 own_P (by have := own_lL0 p1 p2 p3; omega) 9 (by decide) _ A_64 A_66) ?_
  intro v h1 D1 q hsz
  obtain ⟨rfl, rfl, rfl⟩ := q
  show Runs 1 l Z [("com/example/pacerd/pacerd/run/Outcome", 27), ("java/lang/String", 7)] n0 _ _ _ _ _ _ _ [b_25] h_65 17 349 425 #[.val (.int p0), .val (.int p1), .val (.int p2), .val (.int p3), .val (.int (0 : Int32)), .val (.int (own_dr p1)), .val (.int (own_dr p2)), .val (.int (own_dr p3)), .val (.ref b_2), .val (.ref b_10), .val (.ref b_25), .val (.int (Int32.ofNat own_P.length)), .val (.ref o_57), .val (.ref b_58)] [(.int (1 : Int32))]
  refine Runs.ifN i0_425 (feq (by decide : ¬ ((1 : Int32) = (0 : Int32)))).1 ?_
  refine Runs.aload i0_428 rfl rfl ?_
  refine Runs.aload i0_430 rfl rfl ?_
  refine Runs.iload i0_432 rfl ?_
  refine Runs.bipush (v := (10 : Int32)) i0_434 (by decide) ?_
  refine Runs.callSW (argsL := [(.ref b_58), (.ref b_25), (.int (Int32.ofNat own_P.length)), (.int (10 : Int32))]) (rest := []) (W := 0) i0_436 (w218 hw) (w219 hw) (w2 hw) (w220 hw) (by decide) pd_43 rfl rfl rfl rfl (by decide) (by decide) (by decide) (by decide) all0 (by decide) (own_eqc l Z a0 hw n0 b_58 b_25 k_59 k_26 own_P (by have := own_lL0 p1 p2 p3; omega) 10 (by decide) _ A_64 A_66) ?_
  intro v h1 D1 q hsz
  obtain ⟨rfl, rfl, rfl⟩ := q
  show Runs 1 l Z [("com/example/pacerd/pacerd/run/Outcome", 27), ("java/lang/String", 7)] n0 _ _ _ _ _ _ _ [b_25] h_65 17 349 439 #[.val (.int p0), .val (.int p1), .val (.int p2), .val (.int p3), .val (.int (0 : Int32)), .val (.int (own_dr p1)), .val (.int (own_dr p2)), .val (.int (own_dr p3)), .val (.ref b_2), .val (.ref b_10), .val (.ref b_25), .val (.int (Int32.ofNat own_P.length)), .val (.ref o_57), .val (.ref b_58)] [(.int (1 : Int32))]
  refine Runs.ifN i0_439 (feq (by decide : ¬ ((1 : Int32) = (0 : Int32)))).1 ?_
  refine Runs.aload i0_442 rfl rfl ?_
  refine Runs.aload i0_444 rfl rfl ?_
  refine Runs.iload i0_446 rfl ?_
  refine Runs.bipush (v := (11 : Int32)) i0_448 (by decide) ?_
  refine Runs.callSW (argsL := [(.ref b_58), (.ref b_25), (.int (Int32.ofNat own_P.length)), (.int (11 : Int32))]) (rest := []) (W := 0) i0_450 (w218 hw) (w219 hw) (w2 hw) (w220 hw) (by decide) pd_43 rfl rfl rfl rfl (by decide) (by decide) (by decide) (by decide) all0 (by decide) (own_eqc l Z a0 hw n0 b_58 b_25 k_59 k_26 own_P (by have := own_lL0 p1 p2 p3; omega) 11 (by decide) _ A_64 A_66) ?_
  intro v h1 D1 q hsz
  obtain ⟨rfl, rfl, rfl⟩ := q
  show Runs 1 l Z [("com/example/pacerd/pacerd/run/Outcome", 27), ("java/lang/String", 7)] n0 _ _ _ _ _ _ _ [b_25] h_65 17 349 453 #[.val (.int p0), .val (.int p1), .val (.int p2), .val (.int p3), .val (.int (0 : Int32)), .val (.int (own_dr p1)), .val (.int (own_dr p2)), .val (.int (own_dr p3)), .val (.ref b_2), .val (.ref b_10), .val (.ref b_25), .val (.int (Int32.ofNat own_P.length)), .val (.ref o_57), .val (.ref b_58)] [(.int (1 : Int32))]
  refine Runs.ifN i0_453 (feq (by decide : ¬ ((1 : Int32) = (0 : Int32)))).1 ?_
  refine Runs.aload i0_456 rfl rfl ?_
  refine Runs.aload i0_458 rfl rfl ?_
  refine Runs.iload i0_460 rfl ?_
  refine Runs.bipush (v := (12 : Int32)) i0_462 (by decide) ?_
  refine Runs.callSW (argsL := [(.ref b_58), (.ref b_25), (.int (Int32.ofNat own_P.length)), (.int (12 : Int32))]) (rest := []) (W := 0) i0_464 (w218 hw) (w219 hw) (w2 hw) (w220 hw) (by decide) pd_43 rfl rfl rfl rfl (by decide) (by decide) (by decide) (by decide) all0 (by decide) (own_eqc l Z a0 hw n0 b_58 b_25 k_59 k_26 own_P (by have := own_lL0 p1 p2 p3; omega) 12 (by decide) _ A_64 A_66) ?_
  intro v h1 D1 q hsz
  obtain ⟨rfl, rfl, rfl⟩ := q
  show Runs 1 l Z [("com/example/pacerd/pacerd/run/Outcome", 27), ("java/lang/String", 7)] n0 _ _ _ _ _ _ _ [b_25] h_65 17 349 467 #[.val (.int p0), .val (.int p1), .val (.int p2), .val (.int p3), .val (.int (0 : Int32)), .val (.int (own_dr p1)), .val (.int (own_dr p2)), .val (.int (own_dr p3)), .val (.ref b_2), .val (.ref b_10), .val (.ref b_25), .val (.int (Int32.ofNat own_P.length)), .val (.ref o_57), .val (.ref b_58)] [(.int (1 : Int32))]
  refine Runs.ifN i0_467 (feq (by decide : ¬ ((1 : Int32) = (0 : Int32)))).1 ?_
  refine Runs.aload i0_470 rfl rfl ?_
  refine Runs.aload i0_472 rfl rfl ?_
  refine Runs.iload i0_474 rfl ?_
  refine Runs.bipush (v := (13 : Int32)) i0_476 (by decide) ?_
  refine Runs.callSW (argsL := [(.ref b_58), (.ref b_25), (.int (Int32.ofNat own_P.length)), (.int (13 : Int32))]) (rest := []) (W := 0) i0_478 (w218 hw) (w219 hw) (w2 hw) (w220 hw) (by decide) pd_43 rfl rfl rfl rfl (by decide) (by decide) (by decide) (by decide) all0 (by decide) (own_eqc l Z a0 hw n0 b_58 b_25 k_59 k_26 own_P (by have := own_lL0 p1 p2 p3; omega) 13 (by decide) _ A_64 A_66) ?_
  intro v h1 D1 q hsz
  obtain ⟨rfl, rfl, rfl⟩ := q
  show Runs 1 l Z [("com/example/pacerd/pacerd/run/Outcome", 27), ("java/lang/String", 7)] n0 _ _ _ _ _ _ _ [b_25] h_65 17 349 481 #[.val (.int p0), .val (.int p1), .val (.int p2), .val (.int p3), .val (.int (0 : Int32)), .val (.int (own_dr p1)), .val (.int (own_dr p2)), .val (.int (own_dr p3)), .val (.ref b_2), .val (.ref b_10), .val (.ref b_25), .val (.int (Int32.ofNat own_P.length)), .val (.ref o_57), .val (.ref b_58)] [(.int (1 : Int32))]
  refine Runs.ifN i0_481 (feq (by decide : ¬ ((1 : Int32) = (0 : Int32)))).1 ?_
  refine Runs.aload i0_484 rfl rfl ?_
  refine Runs.aload i0_486 rfl rfl ?_
  refine Runs.iload i0_488 rfl ?_
  refine Runs.bipush (v := (14 : Int32)) i0_490 (by decide) ?_
  refine Runs.callSW (argsL := [(.ref b_58), (.ref b_25), (.int (Int32.ofNat own_P.length)), (.int (14 : Int32))]) (rest := []) (W := 0) i0_492 (w218 hw) (w219 hw) (w2 hw) (w220 hw) (by decide) pd_43 rfl rfl rfl rfl (by decide) (by decide) (by decide) (by decide) all0 (by decide) (own_eqc l Z a0 hw n0 b_58 b_25 k_59 k_26 own_P (by have := own_lL0 p1 p2 p3; omega) 14 (by decide) _ A_64 A_66) ?_
  intro v h1 D1 q hsz
  obtain ⟨rfl, rfl, rfl⟩ := q
  show Runs 1 l Z [("com/example/pacerd/pacerd/run/Outcome", 27), ("java/lang/String", 7)] n0 _ _ _ _ _ _ _ [b_25] h_65 17 349 495 #[.val (.int p0), .val (.int p1), .val (.int p2), .val (.int p3), .val (.int (0 : Int32)), .val (.int (own_dr p1)), .val (.int (own_dr p2)), .val (.int (own_dr p3)), .val (.ref b_2), .val (.ref b_10), .val (.ref b_25), .val (.int (Int32.ofNat own_P.length)), .val (.ref o_57), .val (.ref b_58)] [(.int (1 : Int32))]
  refine Runs.ifN i0_495 (feq (by decide : ¬ ((1 : Int32) = (0 : Int32)))).1 ?_
  refine Runs.aload i0_498 rfl rfl ?_
  refine Runs.aload i0_500 rfl rfl ?_
  refine Runs.iload i0_502 rfl ?_
  refine Runs.bipush (v := (15 : Int32)) i0_504 (by decide) ?_
  refine Runs.callSW (argsL := [(.ref b_58), (.ref b_25), (.int (Int32.ofNat own_P.length)), (.int (15 : Int32))]) (rest := []) (W := 0) i0_506 (w218 hw) (w219 hw) (w2 hw) (w220 hw) (by decide) pd_43 rfl rfl rfl rfl (by decide) (by decide) (by decide) (by decide) all0 (by decide) (own_eqc l Z a0 hw n0 b_58 b_25 k_59 k_26 own_P (by have := own_lL0 p1 p2 p3; omega) 15 (by decide) _ A_64 A_66) ?_
  intro v h1 D1 q hsz
  obtain ⟨rfl, rfl, rfl⟩ := q
  show Runs 1 l Z [("com/example/pacerd/pacerd/run/Outcome", 27), ("java/lang/String", 7)] n0 _ _ _ _ _ _ _ [b_25] h_65 17 349 509 #[.val (.int p0), .val (.int p1), .val (.int p2), .val (.int p3), .val (.int (0 : Int32)), .val (.int (own_dr p1)), .val (.int (own_dr p2)), .val (.int (own_dr p3)), .val (.ref b_2), .val (.ref b_10), .val (.ref b_25), .val (.int (Int32.ofNat own_P.length)), .val (.ref o_57), .val (.ref b_58)] [(.int (1 : Int32))]
  refine Runs.ifN i0_509 (feq (by decide : ¬ ((1 : Int32) = (0 : Int32)))).1 ?_
  refine Runs.aload i0_512 rfl rfl ?_
  refine Runs.aload i0_514 rfl rfl ?_
  refine Runs.iload i0_516 rfl ?_
  refine Runs.bipush (v := (16 : Int32)) i0_518 (by decide) ?_
  refine Runs.callSW (argsL := [(.ref b_58), (.ref b_25), (.int (Int32.ofNat own_P.length)), (.int (16 : Int32))]) (rest := []) (W := 0) i0_520 (w218 hw) (w219 hw) (w2 hw) (w220 hw) (by decide) pd_43 rfl rfl rfl rfl (by decide) (by decide) (by decide) (by decide) all0 (by decide) (own_eqc l Z a0 hw n0 b_58 b_25 k_59 k_26 own_P (by have := own_lL0 p1 p2 p3; omega) 16 (by decide) _ A_64 A_66) ?_
  intro v h1 D1 q hsz
  obtain ⟨rfl, rfl, rfl⟩ := q
  show Runs 1 l Z [("com/example/pacerd/pacerd/run/Outcome", 27), ("java/lang/String", 7)] n0 _ _ _ _ _ _ _ [b_25] h_65 17 349 523 #[.val (.int p0), .val (.int p1), .val (.int p2), .val (.int p3), .val (.int (0 : Int32)), .val (.int (own_dr p1)), .val (.int (own_dr p2)), .val (.int (own_dr p3)), .val (.ref b_2), .val (.ref b_10), .val (.ref b_25), .val (.int (Int32.ofNat own_P.length)), .val (.ref o_57), .val (.ref b_58)] [(.int (1 : Int32))]
  refine Runs.ifN i0_523 (feq (by decide : ¬ ((1 : Int32) = (0 : Int32)))).1 ?_
  refine Runs.iconst (v := (1 : Int32)) i0_526 (by decide) ?_
  refine Runs.goto (t := 531) i0_527 (by decide) ?_
  exact Runs.retI (z := (1 : Int32)) i0_531 rfl (Or.inr (Or.inl rfl)) (by decide) (by decide) (by decide) rfl
set_option maxRecDepth 65536 in
set_option maxHeartbeats 4000000 in
theorem own_law1 (l : Launch) (Z : State) (a0 : Array Value) (hw : Wds Z a0) (n0 : Nat) (p0 p1 p2 p3 : Int32) (cpt : Int32) (S_C : Sta Z Z.heap "java/lang/String" "COMPACT_STRINGS" "Z" (.int cpt)) (hcpt : ¬ cpt = 0) (S_A : Sta Z Z.heap "java/lang/StringUTF16" "$assertionsDisabled" "Z" (.int 1)) (S_H : Sta Z Z.heap "java/lang/StringUTF16" "HI_BYTE_SHIFT" "I" (.int 0)) (S_L : Sta Z Z.heap "java/lang/StringUTF16" "LO_BYTE_SHIFT" "I" (.int 8)) (fm : Value) (hfm : fm.isRef = true) (S_F : Sta Z Z.heap "jdk/internal/util/Preconditions" "SIOOBE_FORMATTER" "Ljava/util/function/BiFunction;" fm) (u8 : Addr) (S_I : Sta Z Z.heap "sun/nio/cs/UTF_8" "INSTANCE" "Lsun/nio/cs/UTF_8;" (.ref u8)) (S_8 : Sta Z Z.heap "java/nio/charset/StandardCharsets" "UTF_8" "Ljava/nio/charset/Charset;" (.ref u8)) (sF : Addr) (S_FAILED : Sta Z Z.heap "com/example/pacerd/pacerd/run/RunStatus" "FAILED" "Lcom/example/pacerd/pacerd/run/RunStatus;" (.ref sF)) : Runs 1 l Z [("com/example/pacerd/pacerd/run/Outcome", 27), ("java/lang/String", 7)] n0 x.cls x.name code maxLocals ret room_1 (fun v h D' => v = some (.int 1)) [] Z.heap 0 0 23 #[.val (.int p0), .val (.int p1), .val (.int p2), .val (.int p3), .val (.int (1 : Int32)), .val (.int (own_dr p1)), .val (.int (own_dr p2)), .val (.int (own_dr p3)), .unset, .unset, .unset, .unset, .unset, .unset] [] := by
  refine Runs.iload i0_23 rfl ?_
  refine Runs.ifY (t := 36) i0_25 (by decide) (feq (by decide : ¬ ((1 : Int32) = (0 : Int32)))).2 ?_
  refine Runs.iload i0_36 rfl ?_
  refine Runs.iconst (v := (1 : Int32)) i0_38 (by decide) ?_
  refine Runs.icN i0_39 (teq (by decide : (1 : Int32) = (1 : Int32))).2 ?_
  refine Runs.iconst (v := (1 : Int32)) i0_42 (by decide) ?_
  refine Runs.newP (cap := 1) (ad := "[C") i0_43 (w6 hw) (by decide) (by decide) (by decide) (by decide) (by decide) rfl ?_
  intro h_1 b_2 k_3 g_6 ge_7 K_4 (A_5 : Arv Z h_1 b_2 k_3 .char (1 : Int32) [] (.int (0 : Int32))) E_8
  have A_9 : Arv Z h_1 b_2 k_3 .char (1 : Int32) [(.int (0 : Int32))] (.int (0 : Int32)) := A_5.pad (pad_rep [] (.int (0 : Int32)) 1)
  refine Runs.dup i0_45 rfl ?_
  refine Runs.iconst (v := (0 : Int32)) i0_46 (by decide) ?_
  refine Runs.iload i0_47 rfl ?_
  refine Runs.i2c (z := (own_dr p1)) i0_49 (own_cc (own_drc p1).1) ?_
  refine Runs.castore (i := 0) (y := (own_dr p1)) i0_50 A_9 ⟨by decide, by decide⟩ (by decide) (Nat.le_of_ble_eq_true rfl) (own_cc (own_drc p1).1) ge_7 (Or.inr (by decide)) ?_
  intro h_10 K_11 (A_12 : Arv Z h_10 b_2 k_3 .char (1 : Int32) [(.int (own_dr p1))] (.int (0 : Int32)))
  refine Runs.astore (ls' := #[.val (.int p0), .val (.int p1), .val (.int p2), .val (.int p3), .val (.int (1 : Int32)), .val (.int (own_dr p1)), .val (.int (own_dr p2)), .val (.int (own_dr p3)), .val (.ref b_2), .unset, .unset, .unset, .unset, .unset]) i0_51 rfl rfl ?_
  refine Runs.goto (t := 105) i0_53 (by decide) ?_
  refine Runs.newO i0_105 (w7 hw) (w8 hw) (w9 hw) (lay_0 hw) (by decide) (by decide) ?_
  intro h_13 b_14 g_17 ge_18 K_15 (O_16 : Obj Z h_13 b_14 "java/lang/String" [("java/lang/String", "value", "[B", .null), ("java/lang/String", "coder", "B", (.int (0 : Int32)))]) U_19
  refine Runs.dup i0_108 rfl ?_
  refine Runs.aload i0_109 rfl rfl ?_
  have A_20 := (A_12.keep K_15 nin0)
  have U_21 : Arv Z h_13 b_2 k_3 .char (Int32.ofNat [(own_dr p1)].length) (([(own_dr p1)] : List Int32).map Value.int) (.int 0) := A_20
  refine Runs.callCW (argsL := [(.ref b_2)]) (rest := [(.ref b_14)]) (W := 1) i0_111 rfl (w10 hw) (w11 hw) (w12 hw) (w9 hw) (by decide) pd_39 rfl rfl rfl rfl (by decide) (by decide) (by decide) (by decide) (allS (List.mem_of_getElem? (i := 0) rfl) all0) (by decide) (own_sw l Z a0 hw n0 b_14 b_2 k_3 (Nat.ne_of_lt (Nat.lt_of_lt_of_le (Nat.lt_of_lt_of_le A_9.lt K_11.1) g_17)) [(own_dr p1)] 8 (by simp) (by simp) (own_aS (own_drc p1).1 own_a0) cpt _ ge_18 O_16 U_21 (Nat.le_trans ge_18 (Nat.le_of_lt O_16.lt)) S_C hcpt S_A S_H S_L) ?_
  intro v h_28 D1 q hsz
  obtain ⟨rfl, t_22, k_23, g_24, K_25, S_26, E_27, rfl⟩ := q
  show Runs 1 l Z [("com/example/pacerd/pacerd/run/Outcome", 27), ("java/lang/String", 7)] n0 _ _ _ _ _ _ _ [b_14, b_2] h_28 4 21 114 #[.val (.int p0), .val (.int p1), .val (.int p2), .val (.int p3), .val (.int (1 : Int32)), .val (.int (own_dr p1)), .val (.int (own_dr p2)), .val (.int (own_dr p3)), .val (.ref b_2), .unset, .unset, .unset, .unset, .unset] [(.ref b_14)]
  refine Runs.weak (D1 := []) (fun _ q => nomatch q) ?_
  have hn0_1 : n0 ≤ Array.size h_28 := Nat.le_trans ge_18 (Nat.le_trans (Nat.le_of_lt O_16.lt) K_25.1)
  have ls_b_14 := own_sxl S_26
  refine Runs.astore (ls' := #[.val (.int p0), .val (.int p1), .val (.int p2), .val (.int p3), .val (.int (1 : Int32)), .val (.int (own_dr p1)), .val (.int (own_dr p2)), .val (.int (own_dr p3)), .val (.ref b_2), .val (.ref b_14), .unset, .unset, .unset, .unset]) i0_114 rfl rfl ?_
  refine Runs.bipush (v := (17 : Int32)) i0_116 (by decide) ?_
  refine Runs.newP (cap := 17) (ad := "[B") i0_118 (w21 hw) (by decide) (by decide) (by decide) (by decide) (by decide) rfl ?_
  intro h_29 b_30 k_31 g_34 ge_35 K_32 (A_33 : Arv Z h_29 b_30 k_31 .byte (Int32.ofNat 17) (([] : List Int32).map Value.int) (.int 0)) E_36
  refine Runs.astore (ls' := #[.val (.int p0), .val (.int p1), .val (.int p2), .val (.int p3), .val (.int (1 : Int32)), .val (.int (own_dr p1)), .val (.int (own_dr p2)), .val (.int (own_dr p3)), .val (.ref b_2), .val (.ref b_14), .val (.ref b_30), .unset, .unset, .unset]) i0_120 rfl rfl ?_
  refine Runs.aload i0_122 rfl rfl ?_
  refine Runs.iconst (v := (0 : Int32)) i0_124 (by decide) ?_
  refine Runs.bipush (v := (112 : Int32)) i0_125 (by decide) ?_
  refine own_bapp (y := (112 : Int32)) (L := ([] : List Int32)) (c := 17) (j := 0) i0_127 A_33 (by first | rfl | (simp only [List.length_append, List.length_cons, List.length_nil, Nat.zero_add]; first | done | omega)) (by (try simp only [List.length_append, List.length_cons, List.length_nil, Nat.zero_add]); first | done | omega) (by omega) (by decide) ge_35 (List.mem_of_getElem? (i := 0) rfl) ?_
  intro h_37 K_38 (A_39 : Arv Z h_37 b_30 k_31 .byte (Int32.ofNat 17) ((([] : List Int32) ++ [(112 : Int32)]).map Value.int) (.int 0))
  refine Runs.aload i0_128 rfl rfl ?_
  refine Runs.iconst (v := (1 : Int32)) i0_130 (by decide) ?_
  refine Runs.bipush (v := (97 : Int32)) i0_131 (by decide) ?_
  refine own_bapp (y := (97 : Int32)) (L := (([] : List Int32) ++ [(112 : Int32)])) (c := 17) (j := 1) i0_133 A_39 (by first | rfl | (simp only [List.length_append, List.length_cons, List.length_nil, Nat.zero_add]; first | done | omega)) (by (try simp only [List.length_append, List.length_cons, List.length_nil, Nat.zero_add]); first | done | omega) (by omega) (by decide) ge_35 (List.mem_of_getElem? (i := 0) rfl) ?_
  intro h_40 K_41 (A_42 : Arv Z h_40 b_30 k_31 .byte (Int32.ofNat 17) (((([] : List Int32) ++ [(112 : Int32)]) ++ [(97 : Int32)]).map Value.int) (.int 0))
  refine Runs.aload i0_134 rfl rfl ?_
  refine Runs.iconst (v := (2 : Int32)) i0_136 (by decide) ?_
  refine Runs.bipush (v := (99 : Int32)) i0_137 (by decide) ?_
  refine own_bapp (y := (99 : Int32)) (L := ((([] : List Int32) ++ [(112 : Int32)]) ++ [(97 : Int32)])) (c := 17) (j := 2) i0_139 A_42 (by first | rfl | (simp only [List.length_append, List.length_cons, List.length_nil, Nat.zero_add]; first | done | omega)) (by (try simp only [List.length_append, List.length_cons, List.length_nil, Nat.zero_add]); first | done | omega) (by omega) (by decide) ge_35 (List.mem_of_getElem? (i := 0) rfl) ?_
  intro h_43 K_44 (A_45 : Arv Z h_43 b_30 k_31 .byte (Int32.ofNat 17) ((((([] : List Int32) ++ [(112 : Int32)]) ++ [(97 : Int32)]) ++ [(99 : Int32)]).map Value.int) (.int 0))
  refine Runs.aload i0_140 rfl rfl ?_
  refine Runs.iconst (v := (3 : Int32)) i0_142 (by decide) ?_
  refine Runs.bipush (v := (101 : Int32)) i0_143 (by decide) ?_
  refine own_bapp (y := (101 : Int32)) (L := (((([] : List Int32) ++ [(112 : Int32)]) ++ [(97 : Int32)]) ++ [(99 : Int32)])) (c := 17) (j := 3) i0_145 A_45 (by first | rfl | (simp only [List.length_append, List.length_cons, List.length_nil, Nat.zero_add]; first | done | omega)) (by (try simp only [List.length_append, List.length_cons, List.length_nil, Nat.zero_add]); first | done | omega) (by omega) (by decide) ge_35 (List.mem_of_getElem? (i := 0) rfl) ?_
  intro h_46 K_47 (A_48 : Arv Z h_46 b_30 k_31 .byte (Int32.ofNat 17) (((((([] : List Int32) ++ [(112 : Int32)]) ++ [(97 : Int32)]) ++ [(99 : Int32)]) ++ [(101 : Int32)]).map Value.int) (.int 0))
  refine Runs.aload i0_146 rfl rfl ?_
  refine Runs.iconst (v := (4 : Int32)) i0_148 (by decide) ?_
  refine Runs.bipush (v := (114 : Int32)) i0_149 (by decide) ?_
  refine own_bapp (y := (114 : Int32)) (L := ((((([] : List Int32) ++ [(112 : Int32)]) ++ [(97 : Int32)]) ++ [(99 : Int32)]) ++ [(101 : Int32)])) (c := 17) (j := 4) i0_151 A_48 (by first | rfl | (simp only [List.length_append, List.length_cons, List.length_nil, Nat.zero_add]; first | done | omega)) (by (try simp only [List.length_append, List.length_cons, List.length_nil, Nat.zero_add]); first | done | omega) (by omega) (by decide) ge_35 (List.mem_of_getElem? (i := 0) rfl) ?_
  intro h_49 K_50 (A_51 : Arv Z h_49 b_30 k_31 .byte (Int32.ofNat 17) ((((((([] : List Int32) ++ [(112 : Int32)]) ++ [(97 : Int32)]) ++ [(99 : Int32)]) ++ [(101 : Int32)]) ++ [(114 : Int32)]).map Value.int) (.int 0))
  refine Runs.aload i0_152 rfl rfl ?_
  refine Runs.iconst (v := (5 : Int32)) i0_154 (by decide) ?_
  refine Runs.bipush (v := (100 : Int32)) i0_155 (by decide) ?_
  refine own_bapp (y := (100 : Int32)) (L := (((((([] : List Int32) ++ [(112 : Int32)]) ++ [(97 : Int32)]) ++ [(99 : Int32)]) ++ [(101 : Int32)]) ++ [(114 : Int32)])) (c := 17) (j := 5) i0_157 A_51 (by first | rfl | (simp only [List.length_append, List.length_cons, List.length_nil, Nat.zero_add]; first | done | omega)) (by (try simp only [List.length_append, List.length_cons, List.length_nil, Nat.zero_add]); first | done | omega) (by omega) (by decide) ge_35 (List.mem_of_getElem? (i := 0) rfl) ?_
  intro h_52 K_53 (A_54 : Arv Z h_52 b_30 k_31 .byte (Int32.ofNat 17) (((((((([] : List Int32) ++ [(112 : Int32)]) ++ [(97 : Int32)]) ++ [(99 : Int32)]) ++ [(101 : Int32)]) ++ [(114 : Int32)]) ++ [(100 : Int32)]).map Value.int) (.int 0))
  refine Runs.aload i0_158 rfl rfl ?_
  refine Runs.bipush (v := (6 : Int32)) i0_160 (by decide) ?_
  refine Runs.bipush (v := (58 : Int32)) i0_162 (by decide) ?_
  refine own_bapp (y := (58 : Int32)) (L := ((((((([] : List Int32) ++ [(112 : Int32)]) ++ [(97 : Int32)]) ++ [(99 : Int32)]) ++ [(101 : Int32)]) ++ [(114 : Int32)]) ++ [(100 : Int32)])) (c := 17) (j := 6) i0_164 A_54 (by first | rfl | (simp only [List.length_append, List.length_cons, List.length_nil, Nat.zero_add]; first | done | omega)) (by (try simp only [List.length_append, List.length_cons, List.length_nil, Nat.zero_add]); first | done | omega) (by omega) (by decide) ge_35 (List.mem_of_getElem? (i := 0) rfl) ?_
  intro h_55 K_56 (A_57 : Arv Z h_55 b_30 k_31 .byte (Int32.ofNat 17) ((((((((([] : List Int32) ++ [(112 : Int32)]) ++ [(97 : Int32)]) ++ [(99 : Int32)]) ++ [(101 : Int32)]) ++ [(114 : Int32)]) ++ [(100 : Int32)]) ++ [(58 : Int32)]).map Value.int) (.int 0))
  refine Runs.aload i0_165 rfl rfl ?_
  refine Runs.bipush (v := (7 : Int32)) i0_167 (by decide) ?_
  refine Runs.bipush (v := (32 : Int32)) i0_169 (by decide) ?_
  refine own_bapp (y := (32 : Int32)) (L := (((((((([] : List Int32) ++ [(112 : Int32)]) ++ [(97 : Int32)]) ++ [(99 : Int32)]) ++ [(101 : Int32)]) ++ [(114 : Int32)]) ++ [(100 : Int32)]) ++ [(58 : Int32)])) (c := 17) (j := 7) i0_171 A_57 (by first | rfl | (simp only [List.length_append, List.length_cons, List.length_nil, Nat.zero_add]; first | done | omega)) (by (try simp only [List.length_append, List.length_cons, List.length_nil, Nat.zero_add]); first | done | omega) (by omega) (by decide) ge_35 (List.mem_of_getElem? (i := 0) rfl) ?_
  intro h_58 K_59 (A_60 : Arv Z h_58 b_30 k_31 .byte (Int32.ofNat 17) (((((((((([] : List Int32) ++ [(112 : Int32)]) ++ [(97 : Int32)]) ++ [(99 : Int32)]) ++ [(101 : Int32)]) ++ [(114 : Int32)]) ++ [(100 : Int32)]) ++ [(58 : Int32)]) ++ [(32 : Int32)]).map Value.int) (.int 0))
  refine Runs.bipush (v := (8 : Int32)) i0_172 (by decide) ?_
  refine Runs.istore (ls' := #[.val (.int p0), .val (.int p1), .val (.int p2), .val (.int p3), .val (.int (1 : Int32)), .val (.int (own_dr p1)), .val (.int (own_dr p2)), .val (.int (own_dr p3)), .val (.ref b_2), .val (.ref b_14), .val (.ref b_30), .val (.int (8 : Int32)), .unset, .unset]) i0_174 rfl ?_
  refine Runs.iload i0_176 rfl ?_
  refine Runs.iconst (v := (1 : Int32)) i0_178 (by decide) ?_
  refine Runs.icN i0_179 (flt (by decide : ¬ ((1 : Int32) < (1 : Int32)))).1 ?_
  refine Runs.aload i0_182 rfl rfl ?_
  refine Runs.iload i0_184 rfl ?_
  refine Runs.iload i0_186 rfl ?_
  have A_61 : Arv Z h_58 b_30 k_31 .byte (Int32.ofNat 17) (own_P.map Value.int) (.int 0) := A_60
  refine Runs.callSW (argsL := [(.ref b_30), (.int (8 : Int32)), (.int (own_dr p1))]) (rest := []) (W := 0) i0_188 (w231 hw) (w232 hw) (w2 hw) (w233 hw) (by decide) pd_28 rfl rfl rfl rfl (by decide) (by decide) (by decide) (by decide) (allS (List.mem_of_getElem? (i := 0) rfl) all0) (by decide) (own_putc l Z a0 hw n0 b_30 k_31 own_P (own_dr p1) (by have := own_lL0 p1 p2 p3; omega) ge_35 _ A_61) ?_
  intro v h_64 D1 q hsz
  obtain ⟨rfl, K_62, A_63, rfl⟩ := q
  show Runs 1 l Z [("com/example/pacerd/pacerd/run/Outcome", 27), ("java/lang/String", 7)] n0 _ _ _ _ _ _ _ [b_30] h_64 5 38 191 #[.val (.int p0), .val (.int p1), .val (.int p2), .val (.int p3), .val (.int (1 : Int32)), .val (.int (own_dr p1)), .val (.int (own_dr p2)), .val (.int (own_dr p3)), .val (.ref b_2), .val (.ref b_14), .val (.ref b_30), .val (.int (8 : Int32)), .unset, .unset] [(.int (Int32.ofNat (own_P ++ own_enc (own_dr p1)).length))]
  refine Runs.istore (ls' := #[.val (.int p0), .val (.int p1), .val (.int p2), .val (.int p3), .val (.int (1 : Int32)), .val (.int (own_dr p1)), .val (.int (own_dr p2)), .val (.int (own_dr p3)), .val (.ref b_2), .val (.ref b_14), .val (.ref b_30), .val (.int (Int32.ofNat (own_P ++ own_enc (own_dr p1)).length)), .unset, .unset]) i0_191 rfl ?_
  refine Runs.iload i0_193 rfl ?_
  refine Runs.iconst (v := (2 : Int32)) i0_195 (by decide) ?_
  refine Runs.icY (t := 210) i0_196 (by decide) (tlt (by decide : (1 : Int32) < (2 : Int32))).1 ?_
  refine Runs.iload i0_210 rfl ?_
  refine Runs.iconst (v := (3 : Int32)) i0_212 (by decide) ?_
  refine Runs.icY (t := 227) i0_213 (by decide) (tlt (by decide : (1 : Int32) < (3 : Int32))).1 ?_
  refine Runs.aload i0_227 rfl rfl ?_
  refine Runs.callSW (argsL := [(.ref b_14)]) (rest := []) (W := 0) i0_229 (w28 hw) (w29 hw) (w30 hw) (w31 hw) (by decide) pd_40 rfl rfl rfl rfl (by decide) (by decide) (by decide) (by decide) all0 (by decide) (own_fail l Z a0 hw n0 b_14 t_22 k_23 [(own_dr p1)] (by simp) (own_aS (own_drc p1).2 own_a0) _ ((((((((((S_26.keep K_32 nin0 nin0).keep K_38 (ninS (Nat.ne_of_lt (Nat.lt_of_lt_of_le (Nat.lt_of_lt_of_le ls_b_14.1 (Nat.le_refl _)) g_34)) nin0) (ninS (Nat.ne_of_lt (Nat.lt_of_lt_of_le (Nat.lt_of_lt_of_le ls_b_14.2 (Nat.le_refl _)) g_34)) nin0)).keep K_41 (ninS (Nat.ne_of_lt (Nat.lt_of_lt_of_le (Nat.lt_of_lt_of_le ls_b_14.1 (Nat.le_refl _)) g_34)) nin0) (ninS (Nat.ne_of_lt (Nat.lt_of_lt_of_le (Nat.lt_of_lt_of_le ls_b_14.2 (Nat.le_refl _)) g_34)) nin0)).keep K_44 (ninS (Nat.ne_of_lt (Nat.lt_of_lt_of_le (Nat.lt_of_lt_of_le ls_b_14.1 (Nat.le_refl _)) g_34)) nin0) (ninS (Nat.ne_of_lt (Nat.lt_of_lt_of_le (Nat.lt_of_lt_of_le ls_b_14.2 (Nat.le_refl _)) g_34)) nin0)).keep K_47 (ninS (Nat.ne_of_lt (Nat.lt_of_lt_of_le (Nat.lt_of_lt_of_le ls_b_14.1 (Nat.le_refl _)) g_34)) nin0) (ninS (Nat.ne_of_lt (Nat.lt_of_lt_of_le (Nat.lt_of_lt_of_le ls_b_14.2 (Nat.le_refl _)) g_34)) nin0)).keep K_50 (ninS (Nat.ne_of_lt (Nat.lt_of_lt_of_le (Nat.lt_of_lt_of_le ls_b_14.1 (Nat.le_refl _)) g_34)) nin0) (ninS (Nat.ne_of_lt (Nat.lt_of_lt_of_le (Nat.lt_of_lt_of_le ls_b_14.2 (Nat.le_refl _)) g_34)) nin0)).keep K_53 (ninS (Nat.ne_of_lt (Nat.lt_of_lt_of_le (Nat.lt_of_lt_of_le ls_b_14.1 (Nat.le_refl _)) g_34)) nin0) (ninS (Nat.ne_of_lt (Nat.lt_of_lt_of_le (Nat.lt_of_lt_of_le ls_b_14.2 (Nat.le_refl _)) g_34)) nin0)).keep K_56 (ninS (Nat.ne_of_lt (Nat.lt_of_lt_of_le (Nat.lt_of_lt_of_le ls_b_14.1 (Nat.le_refl _)) g_34)) nin0) (ninS (Nat.ne_of_lt (Nat.lt_of_lt_of_le (Nat.lt_of_lt_of_le ls_b_14.2 (Nat.le_refl _)) g_34)) nin0)).keep K_59 (ninS (Nat.ne_of_lt (Nat.lt_of_lt_of_le (Nat.lt_of_lt_of_le ls_b_14.1 (Nat.le_refl _)) g_34)) nin0) (ninS (Nat.ne_of_lt (Nat.lt_of_lt_of_le (Nat.lt_of_lt_of_le ls_b_14.2 (Nat.le_refl _)) g_34)) nin0)).keep K_62 (ninS (Nat.ne_of_lt (Nat.lt_of_lt_of_le (Nat.lt_of_lt_of_le ls_b_14.1 (Nat.le_refl _)) g_34)) nin0) (ninS (Nat.ne_of_lt (Nat.lt_of_lt_of_le (Nat.lt_of_lt_of_le ls_b_14.2 (Nat.le_refl _)) g_34)) nin0)) (Nat.le_trans hn0_1 (Nat.le_trans (Nat.le_trans (Nat.le_trans (Nat.le_trans (Nat.le_trans (Nat.le_trans (Nat.le_trans (Nat.le_trans (Nat.le_trans K_32.1 K_38.1) K_41.1) K_44.1) K_47.1) K_50.1) K_53.1) K_56.1) K_59.1) K_62.1)) cpt S_C hcpt S_A S_H S_L fm hfm S_F u8 S_I S_8 sF S_FAILED) ?_
  intro v h_73 D1 q hsz
  obtain ⟨o_65, b_66, k_67, rfl, g_68, g_69, K_70, O_71, A_72, rfl⟩ := q
  show Runs 1 l Z [("com/example/pacerd/pacerd/run/Outcome", 27), ("java/lang/String", 7)] n0 _ _ _ _ _ _ _ [b_30] h_73 15 358 232 #[.val (.int p0), .val (.int p1), .val (.int p2), .val (.int p3), .val (.int (1 : Int32)), .val (.int (own_dr p1)), .val (.int (own_dr p2)), .val (.int (own_dr p3)), .val (.ref b_2), .val (.ref b_14), .val (.ref b_30), .val (.int (Int32.ofNat (own_P ++ own_enc (own_dr p1)).length)), .unset, .unset] [(.ref o_65)]
  rw [own_eL1 p1 p2 p3] at A_72
  refine Runs.astore (ls' := #[.val (.int p0), .val (.int p1), .val (.int p2), .val (.int p3), .val (.int (1 : Int32)), .val (.int (own_dr p1)), .val (.int (own_dr p2)), .val (.int (own_dr p3)), .val (.ref b_2), .val (.ref b_14), .val (.ref b_30), .val (.int (Int32.ofNat (own_P ++ own_enc (own_dr p1)).length)), .val (.ref o_65), .unset]) i0_232 rfl rfl ?_
  refine Runs.aload i0_234 rfl rfl ?_
  refine Runs.nnullY (t := 241) i0_236 (by decide) ?_
  refine Runs.aload i0_241 rfl rfl ?_
  refine Runs.callVW (argsL := []) (rest := []) (W := 0) i0_243 (w197 hw) (w198 hw) (fun s hZ => notFace_of_selects (args := #[]) (mvT hZ (w200 hw))) (w200 hw) (w199 hw) (w201 hw) (w30 hw) (by decide) O_71.1 pd_41 rfl rfl rfl rfl (by decide) (by decide) (by decide) (by decide) all0 (by decide) (own_g_status l Z a0 hw n0 o_65 (.ref sF) rfl _ (O_71.fld (i := 0) rfl)) ?_
  intro v h1 D1 q hsz
  obtain ⟨rfl, rfl, rfl⟩ := q
  show Runs 1 l Z [("com/example/pacerd/pacerd/run/Outcome", 27), ("java/lang/String", 7)] n0 _ _ _ _ _ _ _ [b_30] h_73 15 358 246 #[.val (.int p0), .val (.int p1), .val (.int p2), .val (.int p3), .val (.int (1 : Int32)), .val (.int (own_dr p1)), .val (.int (own_dr p2)), .val (.int (own_dr p3)), .val (.ref b_2), .val (.ref b_14), .val (.ref b_30), .val (.int (Int32.ofNat (own_P ++ own_enc (own_dr p1)).length)), .val (.ref o_65), .unset] [(.ref sF)]
  refine Runs.getS i0_246 (w202 hw) Via.refl S_FAILED ?_
  refine Runs.acY (t := 254) i0_249 (by decide) rfl rfl (Jvm.Free.XT.aa_eq_t (congrArg Value.ref rfl)) ?_
  refine Runs.aload i0_254 rfl rfl ?_
  refine Runs.callVW (argsL := []) (rest := []) (W := 0) i0_256 (w203 hw) (w204 hw) (fun s hZ => notFace_of_selects (args := #[]) (mvT hZ (w206 hw))) (w206 hw) (w205 hw) (w207 hw) (w30 hw) (by decide) O_71.1 pd_42 rfl rfl rfl rfl (by decide) (by decide) (by decide) (by decide) all0 (by decide) (own_g_exitCode l Z a0 hw n0 o_65 .null rfl _ (O_71.fld (i := 1) rfl)) ?_
  intro v h1 D1 q hsz
  obtain ⟨rfl, rfl, rfl⟩ := q
  show Runs 1 l Z [("com/example/pacerd/pacerd/run/Outcome", 27), ("java/lang/String", 7)] n0 _ _ _ _ _ _ _ [b_30] h_73 15 358 259 #[.val (.int p0), .val (.int p1), .val (.int p2), .val (.int p3), .val (.int (1 : Int32)), .val (.int (own_dr p1)), .val (.int (own_dr p2)), .val (.int (own_dr p3)), .val (.ref b_2), .val (.ref b_14), .val (.ref b_30), .val (.int (Int32.ofNat (own_P ++ own_enc (own_dr p1)).length)), .val (.ref o_65), .unset] [.null]
  refine Runs.nnullN i0_259 ?_
  refine Runs.aload i0_262 rfl rfl ?_
  refine Runs.callVW (argsL := []) (rest := []) (W := 0) i0_264 (w208 hw) (w209 hw) (fun s hZ => notFace_of_selects (args := #[]) (mvT hZ (w211 hw))) (w211 hw) (w210 hw) (w212 hw) (w30 hw) (by decide) O_71.1 pd_42 rfl rfl rfl rfl (by decide) (by decide) (by decide) (by decide) all0 (by decide) (own_g_httpStatus l Z a0 hw n0 o_65 .null rfl _ (O_71.fld (i := 2) rfl)) ?_
  intro v h1 D1 q hsz
  obtain ⟨rfl, rfl, rfl⟩ := q
  show Runs 1 l Z [("com/example/pacerd/pacerd/run/Outcome", 27), ("java/lang/String", 7)] n0 _ _ _ _ _ _ _ [b_30] h_73 15 358 267 #[.val (.int p0), .val (.int p1), .val (.int p2), .val (.int p3), .val (.int (1 : Int32)), .val (.int (own_dr p1)), .val (.int (own_dr p2)), .val (.int (own_dr p3)), .val (.ref b_2), .val (.ref b_14), .val (.ref b_30), .val (.int (Int32.ofNat (own_P ++ own_enc (own_dr p1)).length)), .val (.ref o_65), .unset] [.null]
  refine Runs.nullY (t := 272) i0_267 (by decide) ?_
  refine Runs.aload i0_272 rfl rfl ?_
  refine Runs.callVW (argsL := []) (rest := []) (W := 0) i0_274 (w213 hw) (w214 hw) (fun s hZ => notFace_of_selects (args := #[]) (mvT hZ (w216 hw))) (w216 hw) (w215 hw) (w217 hw) (w30 hw) (by decide) O_71.1 pd_25 rfl rfl rfl rfl (by decide) (by decide) (by decide) (by decide) all0 (by decide) (own_g_output l Z a0 hw n0 o_65 (.ref b_66) rfl _ (O_71.fld (i := 3) rfl)) ?_
  intro v h1 D1 q hsz
  obtain ⟨rfl, rfl, rfl⟩ := q
  show Runs 1 l Z [("com/example/pacerd/pacerd/run/Outcome", 27), ("java/lang/String", 7)] n0 _ _ _ _ _ _ _ [b_30] h_73 15 358 277 #[.val (.int p0), .val (.int p1), .val (.int p2), .val (.int p3), .val (.int (1 : Int32)), .val (.int (own_dr p1)), .val (.int (own_dr p2)), .val (.int (own_dr p3)), .val (.ref b_2), .val (.ref b_14), .val (.ref b_30), .val (.int (Int32.ofNat (own_P ++ own_enc (own_dr p1)).length)), .val (.ref o_65), .unset] [(.ref b_66)]
  refine Runs.astore (ls' := #[.val (.int p0), .val (.int p1), .val (.int p2), .val (.int p3), .val (.int (1 : Int32)), .val (.int (own_dr p1)), .val (.int (own_dr p2)), .val (.int (own_dr p3)), .val (.ref b_2), .val (.ref b_14), .val (.ref b_30), .val (.int (Int32.ofNat (own_P ++ own_enc (own_dr p1)).length)), .val (.ref o_65), .val (.ref b_66)]) i0_277 rfl rfl ?_
  refine Runs.aload i0_279 rfl rfl ?_
  refine Runs.nullN i0_281 ?_
  refine Runs.aload i0_284 rfl rfl ?_
  refine Runs.arrlen i0_286 A_72 ?_
  refine Runs.iload i0_287 rfl ?_
  refine Runs.icY (t := 294) i0_289 (by decide) (teq (rfl : (Int32.ofNat (own_P ++ own_enc (own_dr p1)).length) = (Int32.ofNat (own_P ++ own_enc (own_dr p1)).length))).1 ?_
  refine Runs.aload i0_294 rfl rfl ?_
  refine Runs.aload i0_296 rfl rfl ?_
  refine Runs.iload i0_298 rfl ?_
  refine Runs.iconst (v := (0 : Int32)) i0_300 (by decide) ?_
  have A_74 := (A_63.keep K_70 nin0)
  refine Runs.callSW (argsL := [(.ref b_66), (.ref b_30), (.int (Int32.ofNat (own_P ++ own_enc (own_dr p1)).length)), (.int (0 : Int32))]) (rest := []) (W := 0) i0_301 (w218 hw) (w219 hw) (w2 hw) (w220 hw) (by decide) pd_43 rfl rfl rfl rfl (by decide) (by decide) (by decide) (by decide) all0 (by decide) (own_eqc l Z a0 hw n0 b_66 b_30 k_67 k_31 (own_P ++ own_enc (own_dr p1)) (by have := own_lL1 p1 p2 p3; omega) 0 (by decide) _ A_72 A_74) ?_
  intro v h1 D1 q hsz
  obtain ⟨rfl, rfl, rfl⟩ := q
  show Runs 1 l Z [("com/example/pacerd/pacerd/run/Outcome", 27), ("java/lang/String", 7)] n0 _ _ _ _ _ _ _ [b_30] h_73 15 358 304 #[.val (.int p0), .val (.int p1), .val (.int p2), .val (.int p3), .val (.int (1 : Int32)), .val (.int (own_dr p1)), .val (.int (own_dr p2)), .val (.int (own_dr p3)), .val (.ref b_2), .val (.ref b_14), .val (.ref b_30), .val (.int (Int32.ofNat (own_P ++ own_enc (own_dr p1)).length)), .val (.ref o_65), .val (.ref b_66)] [(.int (1 : Int32))]
  refine Runs.ifN i0_304 (feq (by decide : ¬ ((1 : Int32) = (0 : Int32)))).1 ?_
  refine Runs.aload i0_307 rfl rfl ?_
  refine Runs.aload i0_309 rfl rfl ?_
  refine Runs.iload i0_311 rfl ?_
  refine Runs.iconst (v := (1 : Int32)) i0_313 (by decide) ?_
  refine Runs.callSW (argsL := [(.ref b_66), (.ref b_30), (.int (Int32.ofNat (own_P ++ own_enc (own_dr p1)).length)), (.int (1 : Int32))]) (rest := []) (W := 0) i0_314 (w218 hw) (w219 hw) (w2 hw) (w220 hw) (by decide) pd_43 rfl rfl rfl rfl (by decide) (by decide) (by decide) (by decide) all0 (by decide) (own_eqc l Z a0 hw n0 b_66 b_30 k_67 k_31 (own_P ++ own_enc (own_dr p1)) (by have := own_lL1 p1 p2 p3; omega) 1 (by decide) _ A_72 A_74) ?_
  intro v h1 D1 q hsz
  obtain ⟨rfl, rfl, rfl⟩ := q
  show Runs 1 l Z [("com/example/pacerd/pacerd/run/Outcome", 27), ("java/lang/String", 7)] n0 _ _ _ _ _ _ _ [b_30] h_73 15 358 317 #[.val (.int p0), .val (.int p1), .val (.int p2), .val (.int p3), .val (.int (1 : Int32)), .val (.int (own_dr p1)), .val (.int (own_dr p2)), .val (.int (own_dr p3)), .val (.ref b_2), .val (.ref b_14), .val (.ref b_30), .val (.int (Int32.ofNat (own_P ++ own_enc (own_dr p1)).length)), .val (.ref o_65), .val (.ref b_66)] [(.int (1 : Int32))]
  refine Runs.ifN i0_317 (feq (by decide : ¬ ((1 : Int32) = (0 : Int32)))).1 ?_
  refine Runs.aload i0_320 rfl rfl ?_
  refine Runs.aload i0_322 rfl rfl ?_
  refine Runs.iload i0_324 rfl ?_
  refine Runs.iconst (v := (2 : Int32)) i0_326 (by decide) ?_
  refine Runs.callSW (argsL := [(.ref b_66), (.ref b_30), (.int (Int32.ofNat (own_P ++ own_enc (own_dr p1)).length)), (.int (2 : Int32))]) (rest := []) (W := 0) i0_327 (w218 hw) (w219 hw) (w2 hw) (w220 hw) (by decide) pd_43 rfl rfl rfl rfl (by decide) (by decide) (by decide) (by decide) all0 (by decide) (own_eqc l Z a0 hw n0 b_66 b_30 k_67 k_31 (own_P ++ own_enc (own_dr p1)) (by have := own_lL1 p1 p2 p3; omega) 2 (by decide) _ A_72 A_74) ?_
  intro v h1 D1 q hsz
  obtain ⟨rfl, rfl, rfl⟩ := q
  show Runs 1 l Z [("com/example/pacerd/pacerd/run/Outcome", 27), ("java/lang/String", 7)] n0 _ _ _ _ _ _ _ [b_30] h_73 15 358 330 #[.val (.int p0), .val (.int p1), .val (.int p2), .val (.int p3), .val (.int (1 : Int32)), .val (.int (own_dr p1)), .val (.int (own_dr p2)), .val (.int (own_dr p3)), .val (.ref b_2), .val (.ref b_14), .val (.ref b_30), .val (.int (Int32.ofNat (own_P ++ own_enc (own_dr p1)).length)), .val (.ref o_65), .val (.ref b_66)] [(.int (1 : Int32))]
  refine Runs.ifN i0_330 (feq (by decide : ¬ ((1 : Int32) = (0 : Int32)))).1 ?_
  refine Runs.aload i0_333 rfl rfl ?_
  refine Runs.aload i0_335 rfl rfl ?_
  refine Runs.iload i0_337 rfl ?_
  refine Runs.iconst (v := (3 : Int32)) i0_339 (by decide) ?_
  refine Runs.callSW (argsL := [(.ref b_66), (.ref b_30), (.int (Int32.ofNat (own_P ++ own_enc (own_dr p1)).length)), (.int (3 : Int32))]) (rest := []) (W := 0) i0_340 (w218 hw) (w219 hw) (w2 hw) (w220 hw) (by decide) pd_43 rfl rfl rfl rfl (by decide) (by decide) (by decide) (by decide) all0 (by decide) (own_eqc l Z a0 hw n0 b_66 b_30 k_67 k_31 (own_P ++ own_enc (own_dr p1)) (by have := own_lL1 p1 p2 p3; omega) 3 (by decide) _ A_72 A_74) ?_
  intro v h1 D1 q hsz
  obtain ⟨rfl, rfl, rfl⟩ := q
  show Runs 1 l Z [("com/example/pacerd/pacerd/run/Outcome", 27), ("java/lang/String", 7)] n0 _ _ _ _ _ _ _ [b_30] h_73 15 358 343 #[.val (.int p0), .val (.int p1), .val (.int p2), .val (.int p3), .val (.int (1 : Int32)), .val (.int (own_dr p1)), .val (.int (own_dr p2)), .val (.int (own_dr p3)), .val (.ref b_2), .val (.ref b_14), .val (.ref b_30), .val (.int (Int32.ofNat (own_P ++ own_enc (own_dr p1)).length)), .val (.ref o_65), .val (.ref b_66)] [(.int (1 : Int32))]
  refine Runs.ifN i0_343 (feq (by decide : ¬ ((1 : Int32) = (0 : Int32)))).1 ?_
  refine Runs.aload i0_346 rfl rfl ?_
  refine Runs.aload i0_348 rfl rfl ?_
  refine Runs.iload i0_350 rfl ?_
  refine Runs.iconst (v := (4 : Int32)) i0_352 (by decide) ?_
  refine Runs.callSW (argsL := [(.ref b_66), (.ref b_30), (.int (Int32.ofNat (own_P ++ own_enc (own_dr p1)).length)), (.int (4 : Int32))]) (rest := []) (W := 0) i0_353 (w218 hw) (w219 hw) (w2 hw) (w220 hw) (by decide) pd_43 rfl rfl rfl rfl (by decide) (by decide) (by decide) (by decide) all0 (by decide) (own_eqc l Z a0 hw n0 b_66 b_30 k_67 k_31 (own_P ++ own_enc (own_dr p1)) (by have := own_lL1 p1 p2 p3; omega) 4 (by decide) _ A_72 A_74) ?_
  intro v h1 D1 q hsz
  obtain ⟨rfl, rfl, rfl⟩ := q
  show Runs 1 l Z [("com/example/pacerd/pacerd/run/Outcome", 27), ("java/lang/String", 7)] n0 _ _ _ _ _ _ _ [b_30] h_73 15 358 356 #[.val (.int p0), .val (.int p1), .val (.int p2), .val (.int p3), .val (.int (1 : Int32)), .val (.int (own_dr p1)), .val (.int (own_dr p2)), .val (.int (own_dr p3)), .val (.ref b_2), .val (.ref b_14), .val (.ref b_30), .val (.int (Int32.ofNat (own_P ++ own_enc (own_dr p1)).length)), .val (.ref o_65), .val (.ref b_66)] [(.int (1 : Int32))]
  refine Runs.ifN i0_356 (feq (by decide : ¬ ((1 : Int32) = (0 : Int32)))).1 ?_
  refine Runs.aload i0_359 rfl rfl ?_
  refine Runs.aload i0_361 rfl rfl ?_
  refine Runs.iload i0_363 rfl ?_
  refine Runs.iconst (v := (5 : Int32)) i0_365 (by decide) ?_
  refine Runs.callSW (argsL := [(.ref b_66), (.ref b_30), (.int (Int32.ofNat (own_P ++ own_enc (own_dr p1)).length)), (.int (5 : Int32))]) (rest := []) (W := 0) i0_366 (w218 hw) (w219 hw) (w2 hw) (w220 hw) (by decide) pd_43 rfl rfl rfl rfl (by decide) (by decide) (by decide) (by decide) all0 (by decide) (own_eqc l Z a0 hw n0 b_66 b_30 k_67 k_31 (own_P ++ own_enc (own_dr p1)) (by have := own_lL1 p1 p2 p3; omega) 5 (by decide) _ A_72 A_74) ?_
  intro v h1 D1 q hsz
  obtain ⟨rfl, rfl, rfl⟩ := q
  show Runs 1 l Z [("com/example/pacerd/pacerd/run/Outcome", 27), ("java/lang/String", 7)] n0 _ _ _ _ _ _ _ [b_30] h_73 15 358 369 #[.val (.int p0), .val (.int p1), .val (.int p2), .val (.int p3), .val (.int (1 : Int32)), .val (.int (own_dr p1)), .val (.int (own_dr p2)), .val (.int (own_dr p3)), .val (.ref b_2), .val (.ref b_14), .val (.ref b_30), .val (.int (Int32.ofNat (own_P ++ own_enc (own_dr p1)).length)), .val (.ref o_65), .val (.ref b_66)] [(.int (1 : Int32))]
  refine Runs.ifN i0_369 (feq (by decide : ¬ ((1 : Int32) = (0 : Int32)))).1 ?_
  refine Runs.aload i0_372 rfl rfl ?_
  refine Runs.aload i0_374 rfl rfl ?_
  refine Runs.iload i0_376 rfl ?_
  refine Runs.bipush (v := (6 : Int32)) i0_378 (by decide) ?_
  refine Runs.callSW (argsL := [(.ref b_66), (.ref b_30), (.int (Int32.ofNat (own_P ++ own_enc (own_dr p1)).length)), (.int (6 : Int32))]) (rest := []) (W := 0) i0_380 (w218 hw) (w219 hw) (w2 hw) (w220 hw) (by decide) pd_43 rfl rfl rfl rfl (by decide) (by decide) (by decide) (by decide) all0 (by decide) (own_eqc l Z a0 hw n0 b_66 b_30 k_67 k_31 (own_P ++ own_enc (own_dr p1)) (by have := own_lL1 p1 p2 p3; omega) 6 (by decide) _ A_72 A_74) ?_
  intro v h1 D1 q hsz
  obtain ⟨rfl, rfl, rfl⟩ := q
  show Runs 1 l Z [("com/example/pacerd/pacerd/run/Outcome", 27), ("java/lang/String", 7)] n0 _ _ _ _ _ _ _ [b_30] h_73 15 358 383 #[.val (.int p0), .val (.int p1), .val (.int p2), .val (.int p3), .val (.int (1 : Int32)), .val (.int (own_dr p1)), .val (.int (own_dr p2)), .val (.int (own_dr p3)), .val (.ref b_2), .val (.ref b_14), .val (.ref b_30), .val (.int (Int32.ofNat (own_P ++ own_enc (own_dr p1)).length)), .val (.ref o_65), .val (.ref b_66)] [(.int (1 : Int32))]
  refine Runs.ifN i0_383 (feq (by decide : ¬ ((1 : Int32) = (0 : Int32)))).1 ?_
  refine Runs.aload i0_386 rfl rfl ?_
  refine Runs.aload i0_388 rfl rfl ?_
  refine Runs.iload i0_390 rfl ?_
  refine Runs.bipush (v := (7 : Int32)) i0_392 (by decide) ?_
  refine Runs.callSW (argsL := [(.ref b_66), (.ref b_30), (.int (Int32.ofNat (own_P ++ own_enc (own_dr p1)).length)), (.int (7 : Int32))]) (rest := []) (W := 0) i0_394 (w218 hw) (w219 hw) (w2 hw) (w220 hw) (by decide) pd_43 rfl rfl rfl rfl (by decide) (by decide) (by decide) (by decide) all0 (by decide) (own_eqc l Z a0 hw n0 b_66 b_30 k_67 k_31 (own_P ++ own_enc (own_dr p1)) (by have := own_lL1 p1 p2 p3; omega) 7 (by decide) _ A_72 A_74) ?_
  intro v h1 D1 q hsz
  obtain ⟨rfl, rfl, rfl⟩ := q
  show Runs 1 l Z [("com/example/pacerd/pacerd/run/Outcome", 27), ("java/lang/String", 7)] n0 _ _ _ _ _ _ _ [b_30] h_73 15 358 397 #[.val (.int p0), .val (.int p1), .val (.int p2), .val (.int p3), .val (.int (1 : Int32)), .val (.int (own_dr p1)), .val (.int (own_dr p2)), .val (.int (own_dr p3)), .val (.ref b_2), .val (.ref b_14), .val (.ref b_30), .val (.int (Int32.ofNat (own_P ++ own_enc (own_dr p1)).length)), .val (.ref o_65), .val (.ref b_66)] [(.int (1 : Int32))]
  refine Runs.ifN i0_397 (feq (by decide : ¬ ((1 : Int32) = (0 : Int32)))).1 ?_
  refine Runs.aload i0_400 rfl rfl ?_
  refine Runs.aload i0_402 rfl rfl ?_
  refine Runs.iload i0_404 rfl ?_
  refine Runs.bipush (v := (8 : Int32)) i0_406 (by decide) ?_
  refine Runs.callSW (argsL := [(.ref b_66), (.ref b_30), (.int (Int32.ofNat (own_P ++ own_enc (own_dr p1)).length)), (.int (8 : Int32))]) (rest := []) (W := 0) i0_408 (w218 hw) (w219 hw) (w2 hw) (w220 hw) (by decide) pd_43 rfl rfl rfl rfl (by decide) (by decide) (by decide) (by decide) all0 (by decide) (own_eqc l Z a0 hw n0 b_66 b_30 k_67 k_31 (own_P ++ own_enc (own_dr p1)) (by have := own_lL1 p1 p2 p3; omega) 8 (by decide) _ A_72 A_74) ?_
  intro v h1 D1 q hsz
  obtain ⟨rfl, rfl, rfl⟩ := q
  show Runs 1 l Z [("com/example/pacerd/pacerd/run/Outcome", 27), ("java/lang/String", 7)] n0 _ _ _ _ _ _ _ [b_30] h_73 15 358 411 #[.val (.int p0), .val (.int p1), .val (.int p2), .val (.int p3), .val (.int (1 : Int32)), .val (.int (own_dr p1)), .val (.int (own_dr p2)), .val (.int (own_dr p3)), .val (.ref b_2), .val (.ref b_14), .val (.ref b_30), .val (.int (Int32.ofNat (own_P ++ own_enc (own_dr p1)).length)), .val (.ref o_65), .val (.ref b_66)] [(.int (1 : Int32))]
  refine Runs.ifN i0_411 (feq (by decide : ¬ ((1 : Int32) = (0 : Int32)))).1 ?_
  refine Runs.aload i0_414 rfl rfl ?_
  refine Runs.aload i0_416 rfl rfl ?_
  refine Runs.iload i0_418 rfl ?_
  refine Runs.bipush (v := (9 : Int32)) i0_420 (by decide) ?_
  refine Runs.callSW (argsL := [(.ref b_66), (.ref b_30), (.int (Int32.ofNat (own_P ++ own_enc (own_dr p1)).length)), (.int (9 : Int32))]) (rest := []) (W := 0) i0_422 (w218 hw) (w219 hw) (w2 hw) (w220 hw) (by decide) pd_43 rfl rfl rfl rfl (by decide) (by decide) (by decide) (by decide) all0 (by decide) (own_eqc l Z a0 hw n0 b_66 b_30 k_67 k_31 (own_P ++ own_enc (own_dr p1)) (by have := own_lL1 p1 p2 p3; omega) 9 (by decide) _ A_72 A_74) ?_
  intro v h1 D1 q hsz
  obtain ⟨rfl, rfl, rfl⟩ := q
  show Runs 1 l Z [("com/example/pacerd/pacerd/run/Outcome", 27), ("java/lang/String", 7)] n0 _ _ _ _ _ _ _ [b_30] h_73 15 358 425 #[.val (.int p0), .val (.int p1), .val (.int p2), .val (.int p3), .val (.int (1 : Int32)), .val (.int (own_dr p1)), .val (.int (own_dr p2)), .val (.int (own_dr p3)), .val (.ref b_2), .val (.ref b_14), .val (.ref b_30), .val (.int (Int32.ofNat (own_P ++ own_enc (own_dr p1)).length)), .val (.ref o_65), .val (.ref b_66)] [(.int (1 : Int32))]
  refine Runs.ifN i0_425 (feq (by decide : ¬ ((1 : Int32) = (0 : Int32)))).1 ?_
  refine Runs.aload i0_428 rfl rfl ?_
  refine Runs.aload i0_430 rfl rfl ?_
  refine Runs.iload i0_432 rfl ?_
  refine Runs.bipush (v := (10 : Int32)) i0_434 (by decide) ?_
  refine Runs.callSW (argsL := [(.ref b_66), (.ref b_30), (.int (Int32.ofNat (own_P ++ own_enc (own_dr p1)).length)), (.int (10 : Int32))]) (rest := []) (W := 0) i0_436 (w218 hw) (w219 hw) (w2 hw) (w220 hw) (by decide) pd_43 rfl rfl rfl rfl (by decide) (by decide) (by decide) (by decide) all0 (by decide) (own_eqc l Z a0 hw n0 b_66 b_30 k_67 k_31 (own_P ++ own_enc (own_dr p1)) (by have := own_lL1 p1 p2 p3; omega) 10 (by decide) _ A_72 A_74) ?_
  intro v h1 D1 q hsz
  obtain ⟨rfl, rfl, rfl⟩ := q
  show Runs 1 l Z [("com/example/pacerd/pacerd/run/Outcome", 27), ("java/lang/String", 7)] n0 _ _ _ _ _ _ _ [b_30] h_73 15 358 439 #[.val (.int p0), .val (.int p1), .val (.int p2), .val (.int p3), .val (.int (1 : Int32)), .val (.int (own_dr p1)), .val (.int (own_dr p2)), .val (.int (own_dr p3)), .val (.ref b_2), .val (.ref b_14), .val (.ref b_30), .val (.int (Int32.ofNat (own_P ++ own_enc (own_dr p1)).length)), .val (.ref o_65), .val (.ref b_66)] [(.int (1 : Int32))]
  refine Runs.ifN i0_439 (feq (by decide : ¬ ((1 : Int32) = (0 : Int32)))).1 ?_
  refine Runs.aload i0_442 rfl rfl ?_
  refine Runs.aload i0_444 rfl rfl ?_
  refine Runs.iload i0_446 rfl ?_
  refine Runs.bipush (v := (11 : Int32)) i0_448 (by decide) ?_
  refine Runs.callSW (argsL := [(.ref b_66), (.ref b_30), (.int (Int32.ofNat (own_P ++ own_enc (own_dr p1)).length)), (.int (11 : Int32))]) (rest := []) (W := 0) i0_450 (w218 hw) (w219 hw) (w2 hw) (w220 hw) (by decide) pd_43 rfl rfl rfl rfl (by decide) (by decide) (by decide) (by decide) all0 (by decide) (own_eqc l Z a0 hw n0 b_66 b_30 k_67 k_31 (own_P ++ own_enc (own_dr p1)) (by have := own_lL1 p1 p2 p3; omega) 11 (by decide) _ A_72 A_74) ?_
  intro v h1 D1 q hsz
  obtain ⟨rfl, rfl, rfl⟩ := q
  show Runs 1 l Z [("com/example/pacerd/pacerd/run/Outcome", 27), ("java/lang/String", 7)] n0 _ _ _ _ _ _ _ [b_30] h_73 15 358 453 #[.val (.int p0), .val (.int p1), .val (.int p2), .val (.int p3), .val (.int (1 : Int32)), .val (.int (own_dr p1)), .val (.int (own_dr p2)), .val (.int (own_dr p3)), .val (.ref b_2), .val (.ref b_14), .val (.ref b_30), .val (.int (Int32.ofNat (own_P ++ own_enc (own_dr p1)).length)), .val (.ref o_65), .val (.ref b_66)] [(.int (1 : Int32))]
  refine Runs.ifN i0_453 (feq (by decide : ¬ ((1 : Int32) = (0 : Int32)))).1 ?_
  refine Runs.aload i0_456 rfl rfl ?_
  refine Runs.aload i0_458 rfl rfl ?_
  refine Runs.iload i0_460 rfl ?_
  refine Runs.bipush (v := (12 : Int32)) i0_462 (by decide) ?_
  refine Runs.callSW (argsL := [(.ref b_66), (.ref b_30), (.int (Int32.ofNat (own_P ++ own_enc (own_dr p1)).length)), (.int (12 : Int32))]) (rest := []) (W := 0) i0_464 (w218 hw) (w219 hw) (w2 hw) (w220 hw) (by decide) pd_43 rfl rfl rfl rfl (by decide) (by decide) (by decide) (by decide) all0 (by decide) (own_eqc l Z a0 hw n0 b_66 b_30 k_67 k_31 (own_P ++ own_enc (own_dr p1)) (by have := own_lL1 p1 p2 p3; omega) 12 (by decide) _ A_72 A_74) ?_
  intro v h1 D1 q hsz
  obtain ⟨rfl, rfl, rfl⟩ := q
  show Runs 1 l Z [("com/example/pacerd/pacerd/run/Outcome", 27), ("java/lang/String", 7)] n0 _ _ _ _ _ _ _ [b_30] h_73 15 358 467 #[.val (.int p0), .val (.int p1), .val (.int p2), .val (.int p3), .val (.int (1 : Int32)), .val (.int (own_dr p1)), .val (.int (own_dr p2)), .val (.int (own_dr p3)), .val (.ref b_2), .val (.ref b_14), .val (.ref b_30), .val (.int (Int32.ofNat (own_P ++ own_enc (own_dr p1)).length)), .val (.ref o_65), .val (.ref b_66)] [(.int (1 : Int32))]
  refine Runs.ifN i0_467 (feq (by decide : ¬ ((1 : Int32) = (0 : Int32)))).1 ?_
  refine Runs.aload i0_470 rfl rfl ?_
  refine Runs.aload i0_472 rfl rfl ?_
  refine Runs.iload i0_474 rfl ?_
  refine Runs.bipush (v := (13 : Int32)) i0_476 (by decide) ?_
  refine Runs.callSW (argsL := [(.ref b_66), (.ref b_30), (.int (Int32.ofNat (own_P ++ own_enc (own_dr p1)).length)), (.int (13 : Int32))]) (rest := []) (W := 0) i0_478 (w218 hw) (w219 hw) (w2 hw) (w220 hw) (by decide) pd_43 rfl rfl rfl rfl (by decide) (by decide) (by decide) (by decide) all0 (by decide) (own_eqc l Z a0 hw n0 b_66 b_30 k_67 k_31 (own_P ++ own_enc (own_dr p1)) (by have := own_lL1 p1 p2 p3; omega) 13 (by decide) _ A_72 A_74) ?_
  intro v h1 D1 q hsz
  obtain ⟨rfl, rfl, rfl⟩ := q
  show Runs 1 l Z [("com/example/pacerd/pacerd/run/Outcome", 27), ("java/lang/String", 7)] n0 _ _ _ _ _ _ _ [b_30] h_73 15 358 481 #[.val (.int p0), .val (.int p1), .val (.int p2), .val (.int p3), .val (.int (1 : Int32)), .val (.int (own_dr p1)), .val (.int (own_dr p2)), .val (.int (own_dr p3)), .val (.ref b_2), .val (.ref b_14), .val (.ref b_30), .val (.int (Int32.ofNat (own_P ++ own_enc (own_dr p1)).length)), .val (.ref o_65), .val (.ref b_66)] [(.int (1 : Int32))]
  refine Runs.ifN i0_481 (feq (by decide : ¬ ((1 : Int32) = (0 : Int32)))).1 ?_
  refine Runs.aload i0_484 rfl rfl ?_
  refine Runs.aload i0_486 rfl rfl ?_
  refine Runs.iload i0_488 rfl ?_
  refine Runs.bipush (v := (14 : Int32)) i0_490 (by decide) ?_
  refine Runs.callSW (argsL := [(.ref b_66), (.ref b_30), (.int (Int32.ofNat (own_P ++ own_enc (own_dr p1)).length)), (.int (14 : Int32))]) (rest := []) (W := 0) i0_492 (w218 hw) (w219 hw) (w2 hw) (w220 hw) (by decide) pd_43 rfl rfl rfl rfl (by decide) (by decide) (by decide) (by decide) all0 (by decide) (own_eqc l Z a0 hw n0 b_66 b_30 k_67 k_31 (own_P ++ own_enc (own_dr p1)) (by have := own_lL1 p1 p2 p3; omega) 14 (by decide) _ A_72 A_74) ?_
  intro v h1 D1 q hsz
  obtain ⟨rfl, rfl, rfl⟩ := q
  show Runs 1 l Z [("com/example/pacerd/pacerd/run/Outcome", 27), ("java/lang/String", 7)] n0 _ _ _ _ _ _ _ [b_30] h_73 15 358 495 #[.val (.int p0), .val (.int p1), .val (.int p2), .val (.int p3), .val (.int (1 : Int32)), .val (.int (own_dr p1)), .val (.int (own_dr p2)), .val (.int (own_dr p3)), .val (.ref b_2), .val (.ref b_14), .val (.ref b_30), .val (.int (Int32.ofNat (own_P ++ own_enc (own_dr p1)).length)), .val (.ref o_65), .val (.ref b_66)] [(.int (1 : Int32))]
  refine Runs.ifN i0_495 (feq (by decide : ¬ ((1 : Int32) = (0 : Int32)))).1 ?_
  refine Runs.aload i0_498 rfl rfl ?_
  refine Runs.aload i0_500 rfl rfl ?_
  refine Runs.iload i0_502 rfl ?_
  refine Runs.bipush (v := (15 : Int32)) i0_504 (by decide) ?_
  refine Runs.callSW (argsL := [(.ref b_66), (.ref b_30), (.int (Int32.ofNat (own_P ++ own_enc (own_dr p1)).length)), (.int (15 : Int32))]) (rest := []) (W := 0) i0_506 (w218 hw) (w219 hw) (w2 hw) (w220 hw) (by decide) pd_43 rfl rfl rfl rfl (by decide) (by decide) (by decide) (by decide) all0 (by decide) (own_eqc l Z a0 hw n0 b_66 b_30 k_67 k_31 (own_P ++ own_enc (own_dr p1)) (by have := own_lL1 p1 p2 p3; omega) 15 (by decide) _ A_72 A_74) ?_
  intro v h1 D1 q hsz
  obtain ⟨rfl, rfl, rfl⟩ := q
  show Runs 1 l Z [("com/example/pacerd/pacerd/run/Outcome", 27), ("java/lang/String", 7)] n0 _ _ _ _ _ _ _ [b_30] h_73 15 358 509 #[.val (.int p0), .val (.int p1), .val (.int p2), .val (.int p3), .val (.int (1 : Int32)), .val (.int (own_dr p1)), .val (.int (own_dr p2)), .val (.int (own_dr p3)), .val (.ref b_2), .val (.ref b_14), .val (.ref b_30), .val (.int (Int32.ofNat (own_P ++ own_enc (own_dr p1)).length)), .val (.ref o_65), .val (.ref b_66)] [(.int (1 : Int32))]
  refine Runs.ifN i0_509 (feq (by decide : ¬ ((1 : Int32) = (0 : Int32)))).1 ?_
  refine Runs.aload i0_512 rfl rfl ?_
  refine Runs.aload i0_514 rfl rfl ?_
  refine Runs.iload i0_516 rfl ?_
  refine Runs.bipush (v := (16 : Int32)) i0_518 (by decide) ?_
  refine Runs.callSW (argsL := [(.ref b_66), (.ref b_30), (.int (Int32.ofNat (own_P ++ own_enc (own_dr p1)).length)), (.int (16 : Int32))]) (rest := []) (W := 0) i0_520 (w218 hw) (w219 hw) (w2 hw) (w220 hw) (by decide) pd_43 rfl rfl rfl rfl (by decide) (by decide) (by decide) (by decide) all0 (by decide) (own_eqc l Z a0 hw n0 b_66 b_30 k_67 k_31 (own_P ++ own_enc (own_dr p1)) (by have := own_lL1 p1 p2 p3; omega) 16 (by decide) _ A_72 A_74) ?_
  intro v h1 D1 q hsz
  obtain ⟨rfl, rfl, rfl⟩ := q
  show Runs 1 l Z [("com/example/pacerd/pacerd/run/Outcome", 27), ("java/lang/String", 7)] n0 _ _ _ _ _ _ _ [b_30] h_73 15 358 523 #[.val (.int p0), .val (.int p1), .val (.int p2), .val (.int p3), .val (.int (1 : Int32)), .val (.int (own_dr p1)), .val (.int (own_dr p2)), .val (.int (own_dr p3)), .val (.ref b_2), .val (.ref b_14), .val (.ref b_30), .val (.int (Int32.ofNat (own_P ++ own_enc (own_dr p1)).length)), .val (.ref o_65), .val (.ref b_66)] [(.int (1 : Int32))]
  refine Runs.ifN i0_523 (feq (by decide : ¬ ((1 : Int32) = (0 : Int32)))).1 ?_
  refine Runs.iconst (v := (1 : Int32)) i0_526 (by decide) ?_
  refine Runs.goto (t := 531) i0_527 (by decide) ?_
  exact Runs.retI (z := (1 : Int32)) i0_531 rfl (Or.inr (Or.inl rfl)) (by decide) (by decide) (by decide) rfl
set_option maxRecDepth 65536 in
set_option maxHeartbeats 4000000 in
theorem own_law2 (l : Launch) (Z : State) (a0 : Array Value) (hw : Wds Z a0) (n0 : Nat) (p0 p1 p2 p3 : Int32) (cpt : Int32) (S_C : Sta Z Z.heap "java/lang/String" "COMPACT_STRINGS" "Z" (.int cpt)) (hcpt : ¬ cpt = 0) (S_A : Sta Z Z.heap "java/lang/StringUTF16" "$assertionsDisabled" "Z" (.int 1)) (S_H : Sta Z Z.heap "java/lang/StringUTF16" "HI_BYTE_SHIFT" "I" (.int 0)) (S_L : Sta Z Z.heap "java/lang/StringUTF16" "LO_BYTE_SHIFT" "I" (.int 8)) (fm : Value) (hfm : fm.isRef = true) (S_F : Sta Z Z.heap "jdk/internal/util/Preconditions" "SIOOBE_FORMATTER" "Ljava/util/function/BiFunction;" fm) (u8 : Addr) (S_I : Sta Z Z.heap "sun/nio/cs/UTF_8" "INSTANCE" "Lsun/nio/cs/UTF_8;" (.ref u8)) (S_8 : Sta Z Z.heap "java/nio/charset/StandardCharsets" "UTF_8" "Ljava/nio/charset/Charset;" (.ref u8)) (sF : Addr) (S_FAILED : Sta Z Z.heap "com/example/pacerd/pacerd/run/RunStatus" "FAILED" "Lcom/example/pacerd/pacerd/run/RunStatus;" (.ref sF)) : Runs 1 l Z [("com/example/pacerd/pacerd/run/Outcome", 27), ("java/lang/String", 7)] n0 x.cls x.name code maxLocals ret room_1 (fun v h D' => v = some (.int 1)) [] Z.heap 0 0 23 #[.val (.int p0), .val (.int p1), .val (.int p2), .val (.int p3), .val (.int (2 : Int32)), .val (.int (own_dr p1)), .val (.int (own_dr p2)), .val (.int (own_dr p3)), .unset, .unset, .unset, .unset, .unset, .unset] [] := by
  refine Runs.iload i0_23 rfl ?_
  refine Runs.ifY (t := 36) i0_25 (by decide) (feq (by decide : ¬ ((2 : Int32) = (0 : Int32)))).2 ?_
  refine Runs.iload i0_36 rfl ?_
  refine Runs.iconst (v := (1 : Int32)) i0_38 (by decide) ?_
  refine Runs.icY (t := 56) i0_39 (by decide) (feq (by decide : ¬ ((2 : Int32) = (1 : Int32)))).2 ?_
  refine Runs.iload i0_56 rfl ?_
  refine Runs.iconst (v := (2 : Int32)) i0_58 (by decide) ?_
  refine Runs.icN i0_59 (teq (by decide : (2 : Int32) = (2 : Int32))).2 ?_
  refine Runs.iconst (v := (2 : Int32)) i0_62 (by decide) ?_
  refine Runs.newP (cap := 2) (ad := "[C") i0_63 (w6 hw) (by decide) (by decide) (by decide) (by decide) (by decide) rfl ?_
  intro h_1 b_2 k_3 g_6 ge_7 K_4 (A_5 : Arv Z h_1 b_2 k_3 .char (2 : Int32) [] (.int (0 : Int32))) E_8
  have A_9 : Arv Z h_1 b_2 k_3 .char (2 : Int32) [(.int (0 : Int32)), (.int (0 : Int32))] (.int (0 : Int32)) := A_5.pad (pad_rep [] (.int (0 : Int32)) 2)
  refine Runs.dup i0_65 rfl ?_
  refine Runs.iconst (v := (0 : Int32)) i0_66 (by decide) ?_
  refine Runs.iload i0_67 rfl ?_
  refine Runs.i2c (z := (own_dr p1)) i0_69 (own_cc (own_drc p1).1) ?_
  refine Runs.castore (i := 0) (y := (own_dr p1)) i0_70 A_9 ⟨by decide, by decide⟩ (by decide) (Nat.le_of_ble_eq_true rfl) (own_cc (own_drc p1).1) ge_7 (Or.inr (by decide)) ?_
  intro h_10 K_11 (A_12 : Arv Z h_10 b_2 k_3 .char (2 : Int32) [(.int (own_dr p1)), (.int (0 : Int32))] (.int (0 : Int32)))
  refine Runs.dup i0_71 rfl ?_
  refine Runs.iconst (v := (1 : Int32)) i0_72 (by decide) ?_
  refine Runs.iload i0_73 rfl ?_
  refine Runs.i2c (z := (own_dr p2)) i0_75 (own_cc (own_drc p2).1) ?_
  refine Runs.castore (i := 1) (y := (own_dr p2)) i0_76 A_12 ⟨by decide, by decide⟩ (by decide) (Nat.le_of_ble_eq_true rfl) (own_cc (own_drc p2).1) ge_7 (Or.inr (by decide)) ?_
  intro h_13 K_14 (A_15 : Arv Z h_13 b_2 k_3 .char (2 : Int32) [(.int (own_dr p1)), (.int (own_dr p2))] (.int (0 : Int32)))
  refine Runs.astore (ls' := #[.val (.int p0), .val (.int p1), .val (.int p2), .val (.int p3), .val (.int (2 : Int32)), .val (.int (own_dr p1)), .val (.int (own_dr p2)), .val (.int (own_dr p3)), .val (.ref b_2), .unset, .unset, .unset, .unset, .unset]) i0_77 rfl rfl ?_
  refine Runs.goto (t := 105) i0_79 (by decide) ?_
  refine Runs.newO i0_105 (w7 hw) (w8 hw) (w9 hw) (lay_0 hw) (by decide) (by decide) ?_
  intro h_16 b_17 g_20 ge_21 K_18 (O_19 : Obj Z h_16 b_17 "java/lang/String" [("java/lang/String", "value", "[B", .null), ("java/lang/String", "coder", "B", (.int (0 : Int32)))]) U_22
  refine Runs.dup i0_108 rfl ?_
  refine Runs.aload i0_109 rfl rfl ?_
  have A_23 := (A_15.keep K_18 nin0)
  have U_24 : Arv Z h_16 b_2 k_3 .char (Int32.ofNat [(own_dr p1), (own_dr p2)].length) (([(own_dr p1), (own_dr p2)] : List Int32).map Value.int) (.int 0) := A_23
  refine Runs.callCW (argsL := [(.ref b_2)]) (rest := [(.ref b_17)]) (W := 1) i0_111 rfl (w10 hw) (w11 hw) (w12 hw) (w9 hw) (by decide) pd_39 rfl rfl rfl rfl (by decide) (by decide) (by decide) (by decide) (allS (List.mem_of_getElem? (i := 0) rfl) all0) (by decide) (own_sw l Z a0 hw n0 b_17 b_2 k_3 (Nat.ne_of_lt (Nat.lt_of_lt_of_le (Nat.lt_of_lt_of_le A_9.lt (Nat.le_trans K_11.1 K_14.1)) g_20)) [(own_dr p1), (own_dr p2)] 8 (by simp) (by simp) (own_aS (own_drc p1).1 (own_aS (own_drc p2).1 own_a0)) cpt _ ge_21 O_19 U_24 (Nat.le_trans ge_21 (Nat.le_of_lt O_19.lt)) S_C hcpt S_A S_H S_L) ?_
  intro v h_31 D1 q hsz
  obtain ⟨rfl, t_25, k_26, g_27, K_28, S_29, E_30, rfl⟩ := q
  show Runs 1 l Z [("com/example/pacerd/pacerd/run/Outcome", 27), ("java/lang/String", 7)] n0 _ _ _ _ _ _ _ [b_17, b_2] h_31 4 22 114 #[.val (.int p0), .val (.int p1), .val (.int p2), .val (.int p3), .val (.int (2 : Int32)), .val (.int (own_dr p1)), .val (.int (own_dr p2)), .val (.int (own_dr p3)), .val (.ref b_2), .unset, .unset, .unset, .unset, .unset] [(.ref b_17)]
  refine Runs.weak (D1 := []) (fun _ q => nomatch q) ?_
  have hn0_1 : n0 ≤ Array.size h_31 := Nat.le_trans ge_21 (Nat.le_trans (Nat.le_of_lt O_19.lt) K_28.1)
  have ls_b_17 := own_sxl S_29
  refine Runs.astore (ls' := #[.val (.int p0), .val (.int p1), .val (.int p2), .val (.int p3), .val (.int (2 : Int32)), .val (.int (own_dr p1)), .val (.int (own_dr p2)), .val (.int (own_dr p3)), .val (.ref b_2), .val (.ref b_17), .unset, .unset, .unset, .unset]) i0_114 rfl rfl ?_
  refine Runs.bipush (v := (17 : Int32)) i0_116 (by decide) ?_
  refine Runs.newP (cap := 17) (ad := "[B") i0_118 (w21 hw) (by decide) (by decide) (by decide) (by decide) (by decide) rfl ?_
  intro h_32 b_33 k_34 g_37 ge_38 K_35 (A_36 : Arv Z h_32 b_33 k_34 .byte (Int32.ofNat 17) (([] : List Int32).map Value.int) (.int 0)) E_39
  refine Runs.astore (ls' := #[.val (.int p0), .val (.int p1), .val (.int p2), .val (.int p3), .val (.int (2 : Int32)), .val (.int (own_dr p1)), .val (.int (own_dr p2)), .val (.int (own_dr p3)), .val (.ref b_2), .val (.ref b_17), .val (.ref b_33), .unset, .unset, .unset]) i0_120 rfl rfl ?_
  refine Runs.aload i0_122 rfl rfl ?_
  refine Runs.iconst (v := (0 : Int32)) i0_124 (by decide) ?_
  refine Runs.bipush (v := (112 : Int32)) i0_125 (by decide) ?_
  refine own_bapp (y := (112 : Int32)) (L := ([] : List Int32)) (c := 17) (j := 0) i0_127 A_36 (by first | rfl | (simp only [List.length_append, List.length_cons, List.length_nil, Nat.zero_add]; first | done | omega)) (by (try simp only [List.length_append, List.length_cons, List.length_nil, Nat.zero_add]); first | done | omega) (by omega) (by decide) ge_38 (List.mem_of_getElem? (i := 0) rfl) ?_
  intro h_40 K_41 (A_42 : Arv Z h_40 b_33 k_34 .byte (Int32.ofNat 17) ((([] : List Int32) ++ [(112 : Int32)]).map Value.int) (.int 0))
  refine Runs.aload i0_128 rfl rfl ?_
  refine Runs.iconst (v := (1 : Int32)) i0_130 (by decide) ?_
  refine Runs.bipush (v := (97 : Int32)) i0_131 (by decide) ?_
  refine own_bapp (y := (97 : Int32)) (L := (([] : List Int32) ++ [(112 : Int32)])) (c := 17) (j := 1) i0_133 A_42 (by first | rfl | (simp only [List.length_append, List.length_cons, List.length_nil, Nat.zero_add]; first | done | omega)) (by (try simp only [List.length_append, List.length_cons, List.length_nil, Nat.zero_add]); first | done | omega) (by omega) (by decide) ge_38 (List.mem_of_getElem? (i := 0) rfl) ?_
  intro h_43 K_44 (A_45 : Arv Z h_43 b_33 k_34 .byte (Int32.ofNat 17) (((([] : List Int32) ++ [(112 : Int32)]) ++ [(97 : Int32)]).map Value.int) (.int 0))
  refine Runs.aload i0_134 rfl rfl ?_
  refine Runs.iconst (v := (2 : Int32)) i0_136 (by decide) ?_
  refine Runs.bipush (v := (99 : Int32)) i0_137 (by decide) ?_
  refine own_bapp (y := (99 : Int32)) (L := ((([] : List Int32) ++ [(112 : Int32)]) ++ [(97 : Int32)])) (c := 17) (j := 2) i0_139 A_45 (by first | rfl | (simp only [List.length_append, List.length_cons, List.length_nil, Nat.zero_add]; first | done | omega)) (by (try simp only [List.length_append, List.length_cons, List.length_nil, Nat.zero_add]); first | done | omega) (by omega) (by decide) ge_38 (List.mem_of_getElem? (i := 0) rfl) ?_
  intro h_46 K_47 (A_48 : Arv Z h_46 b_33 k_34 .byte (Int32.ofNat 17) ((((([] : List Int32) ++ [(112 : Int32)]) ++ [(97 : Int32)]) ++ [(99 : Int32)]).map Value.int) (.int 0))
  refine Runs.aload i0_140 rfl rfl ?_
  refine Runs.iconst (v := (3 : Int32)) i0_142 (by decide) ?_
  refine Runs.bipush (v := (101 : Int32)) i0_143 (by decide) ?_
  refine own_bapp (y := (101 : Int32)) (L := (((([] : List Int32) ++ [(112 : Int32)]) ++ [(97 : Int32)]) ++ [(99 : Int32)])) (c := 17) (j := 3) i0_145 A_48 (by first | rfl | (simp only [List.length_append, List.length_cons, List.length_nil, Nat.zero_add]; first | done | omega)) (by (try simp only [List.length_append, List.length_cons, List.length_nil, Nat.zero_add]); first | done | omega) (by omega) (by decide) ge_38 (List.mem_of_getElem? (i := 0) rfl) ?_
  intro h_49 K_50 (A_51 : Arv Z h_49 b_33 k_34 .byte (Int32.ofNat 17) (((((([] : List Int32) ++ [(112 : Int32)]) ++ [(97 : Int32)]) ++ [(99 : Int32)]) ++ [(101 : Int32)]).map Value.int) (.int 0))
  refine Runs.aload i0_146 rfl rfl ?_
  refine Runs.iconst (v := (4 : Int32)) i0_148 (by decide) ?_
  refine Runs.bipush (v := (114 : Int32)) i0_149 (by decide) ?_
  refine own_bapp (y := (114 : Int32)) (L := ((((([] : List Int32) ++ [(112 : Int32)]) ++ [(97 : Int32)]) ++ [(99 : Int32)]) ++ [(101 : Int32)])) (c := 17) (j := 4) i0_151 A_51 (by first | rfl | (simp only [List.length_append, List.length_cons, List.length_nil, Nat.zero_add]; first | done | omega)) (by (try simp only [List.length_append, List.length_cons, List.length_nil, Nat.zero_add]); first | done | omega) (by omega) (by decide) ge_38 (List.mem_of_getElem? (i := 0) rfl) ?_
  intro h_52 K_53 (A_54 : Arv Z h_52 b_33 k_34 .byte (Int32.ofNat 17) ((((((([] : List Int32) ++ [(112 : Int32)]) ++ [(97 : Int32)]) ++ [(99 : Int32)]) ++ [(101 : Int32)]) ++ [(114 : Int32)]).map Value.int) (.int 0))
  refine Runs.aload i0_152 rfl rfl ?_
  refine Runs.iconst (v := (5 : Int32)) i0_154 (by decide) ?_
  refine Runs.bipush (v := (100 : Int32)) i0_155 (by decide) ?_
  refine own_bapp (y := (100 : Int32)) (L := (((((([] : List Int32) ++ [(112 : Int32)]) ++ [(97 : Int32)]) ++ [(99 : Int32)]) ++ [(101 : Int32)]) ++ [(114 : Int32)])) (c := 17) (j := 5) i0_157 A_54 (by first | rfl | (simp only [List.length_append, List.length_cons, List.length_nil, Nat.zero_add]; first | done | omega)) (by (try simp only [List.length_append, List.length_cons, List.length_nil, Nat.zero_add]); first | done | omega) (by omega) (by decide) ge_38 (List.mem_of_getElem? (i := 0) rfl) ?_
  intro h_55 K_56 (A_57 : Arv Z h_55 b_33 k_34 .byte (Int32.ofNat 17) (((((((([] : List Int32) ++ [(112 : Int32)]) ++ [(97 : Int32)]) ++ [(99 : Int32)]) ++ [(101 : Int32)]) ++ [(114 : Int32)]) ++ [(100 : Int32)]).map Value.int) (.int 0))
  refine Runs.aload i0_158 rfl rfl ?_
  refine Runs.bipush (v := (6 : Int32)) i0_160 (by decide) ?_
  refine Runs.bipush (v := (58 : Int32)) i0_162 (by decide) ?_
  refine own_bapp (y := (58 : Int32)) (L := ((((((([] : List Int32) ++ [(112 : Int32)]) ++ [(97 : Int32)]) ++ [(99 : Int32)]) ++ [(101 : Int32)]) ++ [(114 : Int32)]) ++ [(100 : Int32)])) (c := 17) (j := 6) i0_164 A_57 (by first | rfl | (simp only [List.length_append, List.length_cons, List.length_nil, Nat.zero_add]; first | done | omega)) (by (try simp only [List.length_append, List.length_cons, List.length_nil, Nat.zero_add]); first | done | omega) (by omega) (by decide) ge_38 (List.mem_of_getElem? (i := 0) rfl) ?_
  intro h_58 K_59 (A_60 : Arv Z h_58 b_33 k_34 .byte (Int32.ofNat 17) ((((((((([] : List Int32) ++ [(112 : Int32)]) ++ [(97 : Int32)]) ++ [(99 : Int32)]) ++ [(101 : Int32)]) ++ [(114 : Int32)]) ++ [(100 : Int32)]) ++ [(58 : Int32)]).map Value.int) (.int 0))
  refine Runs.aload i0_165 rfl rfl ?_
  refine Runs.bipush (v := (7 : Int32)) i0_167 (by decide) ?_
  refine Runs.bipush (v := (32 : Int32)) i0_169 (by decide) ?_
  refine own_bapp (y := (32 : Int32)) (L := (((((((([] : List Int32) ++ [(112 : Int32)]) ++ [(97 : Int32)]) ++ [(99 : Int32)]) ++ [(101 : Int32)]) ++ [(114 : Int32)]) ++ [(100 : Int32)]) ++ [(58 : Int32)])) (c := 17) (j := 7) i0_171 A_60 (by first | rfl | (simp only [List.length_append, List.length_cons, List.length_nil, Nat.zero_add]; first | done | omega)) (by (try simp only [List.length_append, List.length_cons, List.length_nil, Nat.zero_add]); first | done | omega) (by omega) (by decide) ge_38 (List.mem_of_getElem? (i := 0) rfl) ?_
  intro h_61 K_62 (A_63 : Arv Z h_61 b_33 k_34 .byte (Int32.ofNat 17) (((((((((([] : List Int32) ++ [(112 : Int32)]) ++ [(97 : Int32)]) ++ [(99 : Int32)]) ++ [(101 : Int32)]) ++ [(114 : Int32)]) ++ [(100 : Int32)]) ++ [(58 : Int32)]) ++ [(32 : Int32)]).map Value.int) (.int 0))
  refine Runs.bipush (v := (8 : Int32)) i0_172 (by decide) ?_
  refine Runs.istore (ls' := #[.val (.int p0), .val (.int p1), .val (.int p2), .val (.int p3), .val (.int (2 : Int32)), .val (.int (own_dr p1)), .val (.int (own_dr p2)), .val (.int (own_dr p3)), .val (.ref b_2), .val (.ref b_17), .val (.ref b_33), .val (.int (8 : Int32)), .unset, .unset]) i0_174 rfl ?_
  refine Runs.iload i0_176 rfl ?_
  refine Runs.iconst (v := (1 : Int32)) i0_178 (by decide) ?_
  refine Runs.icN i0_179 (flt (by decide : ¬ ((2 : Int32) < (1 : Int32)))).1 ?_
  refine Runs.aload i0_182 rfl rfl ?_
  refine Runs.iload i0_184 rfl ?_
  refine Runs.iload i0_186 rfl ?_
  have A_64 : Arv Z h_61 b_33 k_34 .byte (Int32.ofNat 17) (own_P.map Value.int) (.int 0) := A_63
  refine Runs.callSW (argsL := [(.ref b_33), (.int (8 : Int32)), (.int (own_dr p1))]) (rest := []) (W := 0) i0_188 (w231 hw) (w232 hw) (w2 hw) (w233 hw) (by decide) pd_28 rfl rfl rfl rfl (by decide) (by decide) (by decide) (by decide) (allS (List.mem_of_getElem? (i := 0) rfl) all0) (by decide) (own_putc l Z a0 hw n0 b_33 k_34 own_P (own_dr p1) (by have := own_lL0 p1 p2 p3; omega) ge_38 _ A_64) ?_
  intro v h_67 D1 q hsz
  obtain ⟨rfl, K_65, A_66, rfl⟩ := q
  show Runs 1 l Z [("com/example/pacerd/pacerd/run/Outcome", 27), ("java/lang/String", 7)] n0 _ _ _ _ _ _ _ [b_33] h_67 5 39 191 #[.val (.int p0), .val (.int p1), .val (.int p2), .val (.int p3), .val (.int (2 : Int32)), .val (.int (own_dr p1)), .val (.int (own_dr p2)), .val (.int (own_dr p3)), .val (.ref b_2), .val (.ref b_17), .val (.ref b_33), .val (.int (8 : Int32)), .unset, .unset] [(.int (Int32.ofNat (own_P ++ own_enc (own_dr p1)).length))]
  refine Runs.istore (ls' := #[.val (.int p0), .val (.int p1), .val (.int p2), .val (.int p3), .val (.int (2 : Int32)), .val (.int (own_dr p1)), .val (.int (own_dr p2)), .val (.int (own_dr p3)), .val (.ref b_2), .val (.ref b_17), .val (.ref b_33), .val (.int (Int32.ofNat (own_P ++ own_enc (own_dr p1)).length)), .unset, .unset]) i0_191 rfl ?_
  refine Runs.iload i0_193 rfl ?_
  refine Runs.iconst (v := (2 : Int32)) i0_195 (by decide) ?_
  refine Runs.icN i0_196 (flt (by decide : ¬ ((2 : Int32) < (2 : Int32)))).1 ?_
  refine Runs.aload i0_199 rfl rfl ?_
  refine Runs.iload i0_201 rfl ?_
  refine Runs.iload i0_203 rfl ?_
  refine Runs.callSW (argsL := [(.ref b_33), (.int (Int32.ofNat (own_P ++ own_enc (own_dr p1)).length)), (.int (own_dr p2))]) (rest := []) (W := 0) i0_205 (w231 hw) (w232 hw) (w2 hw) (w233 hw) (by decide) pd_28 rfl rfl rfl rfl (by decide) (by decide) (by decide) (by decide) (allS (List.mem_of_getElem? (i := 0) rfl) all0) (by decide) (own_putc l Z a0 hw n0 b_33 k_34 (own_P ++ own_enc (own_dr p1)) (own_dr p2) (by have := own_lL1 p1 p2 p3; omega) ge_38 _ A_66) ?_
  intro v h_70 D1 q hsz
  obtain ⟨rfl, K_68, A_69, rfl⟩ := q
  show Runs 1 l Z [("com/example/pacerd/pacerd/run/Outcome", 27), ("java/lang/String", 7)] n0 _ _ _ _ _ _ _ [b_33] h_70 5 39 208 #[.val (.int p0), .val (.int p1), .val (.int p2), .val (.int p3), .val (.int (2 : Int32)), .val (.int (own_dr p1)), .val (.int (own_dr p2)), .val (.int (own_dr p3)), .val (.ref b_2), .val (.ref b_17), .val (.ref b_33), .val (.int (Int32.ofNat (own_P ++ own_enc (own_dr p1)).length)), .unset, .unset] [(.int (Int32.ofNat ((own_P ++ own_enc (own_dr p1)) ++ own_enc (own_dr p2)).length))]
  refine Runs.istore (ls' := #[.val (.int p0), .val (.int p1), .val (.int p2), .val (.int p3), .val (.int (2 : Int32)), .val (.int (own_dr p1)), .val (.int (own_dr p2)), .val (.int (own_dr p3)), .val (.ref b_2), .val (.ref b_17), .val (.ref b_33), .val (.int (Int32.ofNat ((own_P ++ own_enc (own_dr p1)) ++ own_enc (own_dr p2)).length)), .unset, .unset]) i0_208 rfl ?_
  refine Runs.iload i0_210 rfl ?_
  refine Runs.iconst (v := (3 : Int32)) i0_212 (by decide) ?_
  refine Runs.icY (t := 227) i0_213 (by decide) (tlt (by decide : (2 : Int32) < (3 : Int32))).1 ?_
  refine Runs.aload i0_227 rfl rfl ?_
  refine Runs.callSW (argsL := [(.ref b_17)]) (rest := []) (W := 0) i0_229 (w28 hw) (w29 hw) (w30 hw) (w31 hw) (by decide) pd_40 rfl rfl rfl rfl (by decide) (by decide) (by decide) (by decide) all0 (by decide) (own_fail l Z a0 hw n0 b_17 t_25 k_26 [(own_dr p1), (own_dr p2)] (by simp) (own_aS (own_drc p1).2 (own_aS (own_drc p2).2 own_a0)) _ (((((((((((S_29.keep K_35 nin0 nin0).keep K_41 (ninS (Nat.ne_of_lt (Nat.lt_of_lt_of_le (Nat.lt_of_lt_of_le ls_b_17.1 (Nat.le_refl _)) g_37)) nin0) (ninS (Nat.ne_of_lt (Nat.lt_of_lt_of_le (Nat.lt_of_lt_of_le ls_b_17.2 (Nat.le_refl _)) g_37)) nin0)).keep K_44 (ninS (Nat.ne_of_lt (Nat.lt_of_lt_of_le (Nat.lt_of_lt_of_le ls_b_17.1 (Nat.le_refl _)) g_37)) nin0) (ninS (Nat.ne_of_lt (Nat.lt_of_lt_of_le (Nat.lt_of_lt_of_le ls_b_17.2 (Nat.le_refl _)) g_37)) nin0)).keep K_47 (ninS (Nat.ne_of_lt (Nat.lt_of_lt_of_le (Nat.lt_of_lt_of_le ls_b_17.1 (Nat.le_refl _)) g_37)) nin0) (ninS (Nat.ne_of_lt (Nat.lt_of_lt_of_le (Nat.lt_of_lt_of_le ls_b_17.2 (Nat.le_refl _)) g_37)) nin0)).keep K_50 (ninS (Nat.ne_of_lt (Nat.lt_of_lt_of_le (Nat.lt_of_lt_of_le ls_b_17.1 (Nat.le_refl _)) g_37)) nin0) (ninS (Nat.ne_of_lt (Nat.lt_of_lt_of_le (Nat.lt_of_lt_of_le ls_b_17.2 (Nat.le_refl _)) g_37)) nin0)).keep K_53 (ninS (Nat.ne_of_lt (Nat.lt_of_lt_of_le (Nat.lt_of_lt_of_le ls_b_17.1 (Nat.le_refl _)) g_37)) nin0) (ninS (Nat.ne_of_lt (Nat.lt_of_lt_of_le (Nat.lt_of_lt_of_le ls_b_17.2 (Nat.le_refl _)) g_37)) nin0)).keep K_56 (ninS (Nat.ne_of_lt (Nat.lt_of_lt_of_le (Nat.lt_of_lt_of_le ls_b_17.1 (Nat.le_refl _)) g_37)) nin0) (ninS (Nat.ne_of_lt (Nat.lt_of_lt_of_le (Nat.lt_of_lt_of_le ls_b_17.2 (Nat.le_refl _)) g_37)) nin0)).keep K_59 (ninS (Nat.ne_of_lt (Nat.lt_of_lt_of_le (Nat.lt_of_lt_of_le ls_b_17.1 (Nat.le_refl _)) g_37)) nin0) (ninS (Nat.ne_of_lt (Nat.lt_of_lt_of_le (Nat.lt_of_lt_of_le ls_b_17.2 (Nat.le_refl _)) g_37)) nin0)).keep K_62 (ninS (Nat.ne_of_lt (Nat.lt_of_lt_of_le (Nat.lt_of_lt_of_le ls_b_17.1 (Nat.le_refl _)) g_37)) nin0) (ninS (Nat.ne_of_lt (Nat.lt_of_lt_of_le (Nat.lt_of_lt_of_le ls_b_17.2 (Nat.le_refl _)) g_37)) nin0)).keep K_65 (ninS (Nat.ne_of_lt (Nat.lt_of_lt_of_le (Nat.lt_of_lt_of_le ls_b_17.1 (Nat.le_refl _)) g_37)) nin0) (ninS (Nat.ne_of_lt (Nat.lt_of_lt_of_le (Nat.lt_of_lt_of_le ls_b_17.2 (Nat.le_refl _)) g_37)) nin0)).keep K_68 (ninS (Nat.ne_of_lt (Nat.lt_of_lt_of_le (Nat.lt_of_lt_of_le ls_b_17.1 (Nat.le_refl _)) g_37)) nin0) (ninS (Nat.ne_of_lt (Nat.lt_of_lt_of_le (Nat.lt_of_lt_of_le ls_b_17.2 (Nat.le_refl _)) g_37)) nin0)) (Nat.le_trans hn0_1 (Nat.le_trans (Nat.le_trans (Nat.le_trans (Nat.le_trans (Nat.le_trans (Nat.le_trans (Nat.le_trans (Nat.le_trans (Nat.le_trans (Nat.le_trans K_35.1 K_41.1) K_44.1) K_47.1) K_50.1) K_53.1) K_56.1) K_59.1) K_62.1) K_65.1) K_68.1)) cpt S_C hcpt S_A S_H S_L fm hfm S_F u8 S_I S_8 sF S_FAILED) ?_
  intro v h_79 D1 q hsz
  obtain ⟨o_71, b_72, k_73, rfl, g_74, g_75, K_76, O_77, A_78, rfl⟩ := q
  show Runs 1 l Z [("com/example/pacerd/pacerd/run/Outcome", 27), ("java/lang/String", 7)] n0 _ _ _ _ _ _ _ [b_33] h_79 15 359 232 #[.val (.int p0), .val (.int p1), .val (.int p2), .val (.int p3), .val (.int (2 : Int32)), .val (.int (own_dr p1)), .val (.int (own_dr p2)), .val (.int (own_dr p3)), .val (.ref b_2), .val (.ref b_17), .val (.ref b_33), .val (.int (Int32.ofNat ((own_P ++ own_enc (own_dr p1)) ++ own_enc (own_dr p2)).length)), .unset, .unset] [(.ref o_71)]
  rw [own_eL2 p1 p2 p3] at A_78
  refine Runs.astore (ls' := #[.val (.int p0), .val (.int p1), .val (.int p2), .val (.int p3), .val (.int (2 : Int32)), .val (.int (own_dr p1)), .val (.int (own_dr p2)), .val (.int (own_dr p3)), .val (.ref b_2), .val (.ref b_17), .val (.ref b_33), .val (.int (Int32.ofNat ((own_P ++ own_enc (own_dr p1)) ++ own_enc (own_dr p2)).length)), .val (.ref o_71), .unset]) i0_232 rfl rfl ?_
  refine Runs.aload i0_234 rfl rfl ?_
  refine Runs.nnullY (t := 241) i0_236 (by decide) ?_
  refine Runs.aload i0_241 rfl rfl ?_
  refine Runs.callVW (argsL := []) (rest := []) (W := 0) i0_243 (w197 hw) (w198 hw) (fun s hZ => notFace_of_selects (args := #[]) (mvT hZ (w200 hw))) (w200 hw) (w199 hw) (w201 hw) (w30 hw) (by decide) O_77.1 pd_41 rfl rfl rfl rfl (by decide) (by decide) (by decide) (by decide) all0 (by decide) (own_g_status l Z a0 hw n0 o_71 (.ref sF) rfl _ (O_77.fld (i := 0) rfl)) ?_
  intro v h1 D1 q hsz
  obtain ⟨rfl, rfl, rfl⟩ := q
  show Runs 1 l Z [("com/example/pacerd/pacerd/run/Outcome", 27), ("java/lang/String", 7)] n0 _ _ _ _ _ _ _ [b_33] h_79 15 359 246 #[.val (.int p0), .val (.int p1), .val (.int p2), .val (.int p3), .val (.int (2 : Int32)), .val (.int (own_dr p1)), .val (.int (own_dr p2)), .val (.int (own_dr p3)), .val (.ref b_2), .val (.ref b_17), .val (.ref b_33), .val (.int (Int32.ofNat ((own_P ++ own_enc (own_dr p1)) ++ own_enc (own_dr p2)).length)), .val (.ref o_71), .unset] [(.ref sF)]
  refine Runs.getS i0_246 (w202 hw) Via.refl S_FAILED ?_
  refine Runs.acY (t := 254) i0_249 (by decide) rfl rfl (Jvm.Free.XT.aa_eq_t (congrArg Value.ref rfl)) ?_
  refine Runs.aload i0_254 rfl rfl ?_
  refine Runs.callVW (argsL := []) (rest := []) (W := 0) i0_256 (w203 hw) (w204 hw) (fun s hZ => notFace_of_selects (args := #[]) (mvT hZ (w206 hw))) (w206 hw) (w205 hw) (w207 hw) (w30 hw) (by decide) O_77.1 pd_42 rfl rfl rfl rfl (by decide) (by decide) (by decide) (by decide) all0 (by decide) (own_g_exitCode l Z a0 hw n0 o_71 .null rfl _ (O_77.fld (i := 1) rfl)) ?_
  intro v h1 D1 q hsz
  obtain ⟨rfl, rfl, rfl⟩ := q
  show Runs 1 l Z [("com/example/pacerd/pacerd/run/Outcome", 27), ("java/lang/String", 7)] n0 _ _ _ _ _ _ _ [b_33] h_79 15 359 259 #[.val (.int p0), .val (.int p1), .val (.int p2), .val (.int p3), .val (.int (2 : Int32)), .val (.int (own_dr p1)), .val (.int (own_dr p2)), .val (.int (own_dr p3)), .val (.ref b_2), .val (.ref b_17), .val (.ref b_33), .val (.int (Int32.ofNat ((own_P ++ own_enc (own_dr p1)) ++ own_enc (own_dr p2)).length)), .val (.ref o_71), .unset] [.null]
  refine Runs.nnullN i0_259 ?_
  refine Runs.aload i0_262 rfl rfl ?_
  refine Runs.callVW (argsL := []) (rest := []) (W := 0) i0_264 (w208 hw) (w209 hw) (fun s hZ => notFace_of_selects (args := #[]) (mvT hZ (w211 hw))) (w211 hw) (w210 hw) (w212 hw) (w30 hw) (by decide) O_77.1 pd_42 rfl rfl rfl rfl (by decide) (by decide) (by decide) (by decide) all0 (by decide) (own_g_httpStatus l Z a0 hw n0 o_71 .null rfl _ (O_77.fld (i := 2) rfl)) ?_
  intro v h1 D1 q hsz
  obtain ⟨rfl, rfl, rfl⟩ := q
  show Runs 1 l Z [("com/example/pacerd/pacerd/run/Outcome", 27), ("java/lang/String", 7)] n0 _ _ _ _ _ _ _ [b_33] h_79 15 359 267 #[.val (.int p0), .val (.int p1), .val (.int p2), .val (.int p3), .val (.int (2 : Int32)), .val (.int (own_dr p1)), .val (.int (own_dr p2)), .val (.int (own_dr p3)), .val (.ref b_2), .val (.ref b_17), .val (.ref b_33), .val (.int (Int32.ofNat ((own_P ++ own_enc (own_dr p1)) ++ own_enc (own_dr p2)).length)), .val (.ref o_71), .unset] [.null]
  refine Runs.nullY (t := 272) i0_267 (by decide) ?_
  refine Runs.aload i0_272 rfl rfl ?_
  refine Runs.callVW (argsL := []) (rest := []) (W := 0) i0_274 (w213 hw) (w214 hw) (fun s hZ => notFace_of_selects (args := #[]) (mvT hZ (w216 hw))) (w216 hw) (w215 hw) (w217 hw) (w30 hw) (by decide) O_77.1 pd_25 rfl rfl rfl rfl (by decide) (by decide) (by decide) (by decide) all0 (by decide) (own_g_output l Z a0 hw n0 o_71 (.ref b_72) rfl _ (O_77.fld (i := 3) rfl)) ?_
  intro v h1 D1 q hsz
  obtain ⟨rfl, rfl, rfl⟩ := q
  show Runs 1 l Z [("com/example/pacerd/pacerd/run/Outcome", 27), ("java/lang/String", 7)] n0 _ _ _ _ _ _ _ [b_33] h_79 15 359 277 #[.val (.int p0), .val (.int p1), .val (.int p2), .val (.int p3), .val (.int (2 : Int32)), .val (.int (own_dr p1)), .val (.int (own_dr p2)), .val (.int (own_dr p3)), .val (.ref b_2), .val (.ref b_17), .val (.ref b_33), .val (.int (Int32.ofNat ((own_P ++ own_enc (own_dr p1)) ++ own_enc (own_dr p2)).length)), .val (.ref o_71), .unset] [(.ref b_72)]
  refine Runs.astore (ls' := #[.val (.int p0), .val (.int p1), .val (.int p2), .val (.int p3), .val (.int (2 : Int32)), .val (.int (own_dr p1)), .val (.int (own_dr p2)), .val (.int (own_dr p3)), .val (.ref b_2), .val (.ref b_17), .val (.ref b_33), .val (.int (Int32.ofNat ((own_P ++ own_enc (own_dr p1)) ++ own_enc (own_dr p2)).length)), .val (.ref o_71), .val (.ref b_72)]) i0_277 rfl rfl ?_
  refine Runs.aload i0_279 rfl rfl ?_
  refine Runs.nullN i0_281 ?_
  refine Runs.aload i0_284 rfl rfl ?_
  refine Runs.arrlen i0_286 A_78 ?_
  refine Runs.iload i0_287 rfl ?_
  refine Runs.icY (t := 294) i0_289 (by decide) (teq (rfl : (Int32.ofNat ((own_P ++ own_enc (own_dr p1)) ++ own_enc (own_dr p2)).length) = (Int32.ofNat ((own_P ++ own_enc (own_dr p1)) ++ own_enc (own_dr p2)).length))).1 ?_
  refine Runs.aload i0_294 rfl rfl ?_
  refine Runs.aload i0_296 rfl rfl ?_
  refine Runs.iload i0_298 rfl ?_
  refine Runs.iconst (v := (0 : Int32)) i0_300 (by decide) ?_
  have A_80 := (A_69.keep K_76 nin0)
  refine Runs.callSW (argsL := [(.ref b_72), (.ref b_33), (.int (Int32.ofNat ((own_P ++ own_enc (own_dr p1)) ++ own_enc (own_dr p2)).length)), (.int (0 : Int32))]) (rest := []) (W := 0) i0_301 (w218 hw) (w219 hw) (w2 hw) (w220 hw) (by decide) pd_43 rfl rfl rfl rfl (by decide) (by decide) (by decide) (by decide) all0 (by decide) (own_eqc l Z a0 hw n0 b_72 b_33 k_73 k_34 ((own_P ++ own_enc (own_dr p1)) ++ own_enc (own_dr p2)) (by have := own_lL2 p1 p2 p3; omega) 0 (by decide) _ A_78 A_80) ?_
  intro v h1 D1 q hsz
  obtain ⟨rfl, rfl, rfl⟩ := q
  show Runs 1 l Z [("com/example/pacerd/pacerd/run/Outcome", 27), ("java/lang/String", 7)] n0 _ _ _ _ _ _ _ [b_33] h_79 15 359 304 #[.val (.int p0), .val (.int p1), .val (.int p2), .val (.int p3), .val (.int (2 : Int32)), .val (.int (own_dr p1)), .val (.int (own_dr p2)), .val (.int (own_dr p3)), .val (.ref b_2), .val (.ref b_17), .val (.ref b_33), .val (.int (Int32.ofNat ((own_P ++ own_enc (own_dr p1)) ++ own_enc (own_dr p2)).length)), .val (.ref o_71), .val (.ref b_72)] [(.int (1 : Int32))]
  refine Runs.ifN i0_304 (feq (by decide : ¬ ((1 : Int32) = (0 : Int32)))).1 ?_
  refine Runs.aload i0_307 rfl rfl ?_
  refine Runs.aload i0_309 rfl rfl ?_
  refine Runs.iload i0_311 rfl ?_
  refine Runs.iconst (v := (1 : Int32)) i0_313 (by decide) ?_
  refine Runs.callSW (argsL := [(.ref b_72), (.ref b_33), (.int (Int32.ofNat ((own_P ++ own_enc (own_dr p1)) ++ own_enc (own_dr p2)).length)), (.int (1 : Int32))]) (rest := []) (W := 0) i0_314 (w218 hw) (w219 hw) (w2 hw) (w220 hw) (by decide) pd_43 rfl rfl rfl rfl (by decide) (by decide) (by decide) (by decide) all0 (by decide) (own_eqc l Z a0 hw n0 b_72 b_33 k_73 k_34 ((own_P ++ own_enc (own_dr p1)) ++ own_enc (own_dr p2)) (by have := own_lL2 p1 p2 p3; omega) 1 (by decide) _ A_78 A_80) ?_
  intro v h1 D1 q hsz
  obtain ⟨rfl, rfl, rfl⟩ := q
  show Runs 1 l Z [("com/example/pacerd/pacerd/run/Outcome", 27), ("java/lang/String", 7)] n0 _ _ _ _ _ _ _ [b_33] h_79 15 359 317 #[.val (.int p0), .val (.int p1), .val (.int p2), .val (.int p3), .val (.int (2 : Int32)), .val (.int (own_dr p1)), .val (.int (own_dr p2)), .val (.int (own_dr p3)), .val (.ref b_2), .val (.ref b_17), .val (.ref b_33), .val (.int (Int32.ofNat ((own_P ++ own_enc (own_dr p1)) ++ own_enc (own_dr p2)).length)), .val (.ref o_71), .val (.ref b_72)] [(.int (1 : Int32))]
  refine Runs.ifN i0_317 (feq (by decide : ¬ ((1 : Int32) = (0 : Int32)))).1 ?_
  refine Runs.aload i0_320 rfl rfl ?_
  refine Runs.aload i0_322 rfl rfl ?_
  refine Runs.iload i0_324 rfl ?_
  refine Runs.iconst (v := (2 : Int32)) i0_326 (by decide) ?_
  refine Runs.callSW (argsL := [(.ref b_72), (.ref b_33), (.int (Int32.ofNat ((own_P ++ own_enc (own_dr p1)) ++ own_enc (own_dr p2)).length)), (.int (2 : Int32))]) (rest := []) (W := 0) i0_327 (w218 hw) (w219 hw) (w2 hw) (w220 hw) (by decide) pd_43 rfl rfl rfl rfl (by decide) (by decide) (by decide) (by decide) all0 (by decide) (own_eqc l Z a0 hw n0 b_72 b_33 k_73 k_34 ((own_P ++ own_enc (own_dr p1)) ++ own_enc (own_dr p2)) (by have := own_lL2 p1 p2 p3; omega) 2 (by decide) _ A_78 A_80) ?_
  intro v h1 D1 q hsz
  obtain ⟨rfl, rfl, rfl⟩ := q
  show Runs 1 l Z [("com/example/pacerd/pacerd/run/Outcome", 27), ("java/lang/String", 7)] n0 _ _ _ _ _ _ _ [b_33] h_79 15 359 330 #[.val (.int p0), .val (.int p1), .val (.int p2), .val (.int p3), .val (.int (2 : Int32)), .val (.int (own_dr p1)), .val (.int (own_dr p2)), .val (.int (own_dr p3)), .val (.ref b_2), .val (.ref b_17), .val (.ref b_33), .val (.int (Int32.ofNat ((own_P ++ own_enc (own_dr p1)) ++ own_enc (own_dr p2)).length)), .val (.ref o_71), .val (.ref b_72)] [(.int (1 : Int32))]
  refine Runs.ifN i0_330 (feq (by decide : ¬ ((1 : Int32) = (0 : Int32)))).1 ?_
  refine Runs.aload i0_333 rfl rfl ?_
  refine Runs.aload i0_335 rfl rfl ?_
  refine Runs.iload i0_337 rfl ?_
  refine Runs.iconst (v := (3 : Int32)) i0_339 (by decide) ?_
  refine Runs.callSW (argsL := [(.ref b_72), (.ref b_33), (.int (Int32.ofNat ((own_P ++ own_enc (own_dr p1)) ++ own_enc (own_dr p2)).length)), (.int (3 : Int32))]) (rest := []) (W := 0) i0_340 (w218 hw) (w219 hw) (w2 hw) (w220 hw) (by decide) pd_43 rfl rfl rfl rfl (by decide) (by decide) (by decide) (by decide) all0 (by decide) (own_eqc l Z a0 hw n0 b_72 b_33 k_73 k_34 ((own_P ++ own_enc (own_dr p1)) ++ own_enc (own_dr p2)) (by have := own_lL2 p1 p2 p3; omega) 3 (by decide) _ A_78 A_80) ?_
  intro v h1 D1 q hsz
  obtain ⟨rfl, rfl, rfl⟩ := q
  show Runs 1 l Z [("com/example/pacerd/pacerd/run/Outcome", 27), ("java/lang/String", 7)] n0 _ _ _ _ _ _ _ [b_33] h_79 15 359 343 #[.val (.int p0), .val (.int p1), .val (.int p2), .val (.int p3), .val (.int (2 : Int32)), .val (.int (own_dr p1)), .val (.int (own_dr p2)), .val (.int (own_dr p3)), .val (.ref b_2), .val (.ref b_17), .val (.ref b_33), .val (.int (Int32.ofNat ((own_P ++ own_enc (own_dr p1)) ++ own_enc (own_dr p2)).length)), .val (.ref o_71), .val (.ref b_72)] [(.int (1 : Int32))]
  refine Runs.ifN i0_343 (feq (by decide : ¬ ((1 : Int32) = (0 : Int32)))).1 ?_
  refine Runs.aload i0_346 rfl rfl ?_
  refine Runs.aload i0_348 rfl rfl ?_
  refine Runs.iload i0_350 rfl ?_
  refine Runs.iconst (v := (4 : Int32)) i0_352 (by decide) ?_
  refine Runs.callSW (argsL := [(.ref b_72), (.ref b_33), (.int (Int32.ofNat ((own_P ++ own_enc (own_dr p1)) ++ own_enc (own_dr p2)).length)), (.int (4 : Int32))]) (rest := []) (W := 0) i0_353 (w218 hw) (w219 hw) (w2 hw) (w220 hw) (by decide) pd_43 rfl rfl rfl rfl (by decide) (by decide) (by decide) (by decide) all0 (by decide) (own_eqc l Z a0 hw n0 b_72 b_33 k_73 k_34 ((own_P ++ own_enc (own_dr p1)) ++ own_enc (own_dr p2)) (by have := own_lL2 p1 p2 p3; omega) 4 (by decide) _ A_78 A_80) ?_
  intro v h1 D1 q hsz
  obtain ⟨rfl, rfl, rfl⟩ := q
  show Runs 1 l Z [("com/example/pacerd/pacerd/run/Outcome", 27), ("java/lang/String", 7)] n0 _ _ _ _ _ _ _ [b_33] h_79 15 359 356 #[.val (.int p0), .val (.int p1), .val (.int p2), .val (.int p3), .val (.int (2 : Int32)), .val (.int (own_dr p1)), .val (.int (own_dr p2)), .val (.int (own_dr p3)), .val (.ref b_2), .val (.ref b_17), .val (.ref b_33), .val (.int (Int32.ofNat ((own_P ++ own_enc (own_dr p1)) ++ own_enc (own_dr p2)).length)), .val (.ref o_71), .val (.ref b_72)] [(.int (1 : Int32))]
  refine Runs.ifN i0_356 (feq (by decide : ¬ ((1 : Int32) = (0 : Int32)))).1 ?_
  refine Runs.aload i0_359 rfl rfl ?_
  refine Runs.aload i0_361 rfl rfl ?_
  refine Runs.iload i0_363 rfl ?_
  refine Runs.iconst (v := (5 : Int32)) i0_365 (by decide) ?_
  refine Runs.callSW (argsL := [(.ref b_72), (.ref b_33), (.int (Int32.ofNat ((own_P ++ own_enc (own_dr p1)) ++ own_enc (own_dr p2)).length)), (.int (5 : Int32))]) (rest := []) (W := 0) i0_366 (w218 hw) (w219 hw) (w2 hw) (w220 hw) (by decide) pd_43 rfl rfl rfl rfl (by decide) (by decide) (by decide) (by decide) all0 (by decide) (own_eqc l Z a0 hw n0 b_72 b_33 k_73 k_34 ((own_P ++ own_enc (own_dr p1)) ++ own_enc (own_dr p2)) (by have := own_lL2 p1 p2 p3; omega) 5 (by decide) _ A_78 A_80) ?_
  intro v h1 D1 q hsz
  obtain ⟨rfl, rfl, rfl⟩ := q
  show Runs 1 l Z [("com/example/pacerd/pacerd/run/Outcome", 27), ("java/lang/String", 7)] n0 _ _ _ _ _ _ _ [b_33] h_79 15 359 369 #[.val (.int p0), .val (.int p1), .val (.int p2), .val (.int p3), .val (.int (2 : Int32)), .val (.int (own_dr p1)), .val (.int (own_dr p2)), .val (.int (own_dr p3)), .val (.ref b_2), .val (.ref b_17), .val (.ref b_33), .val (.int (Int32.ofNat ((own_P ++ own_enc (own_dr p1)) ++ own_enc (own_dr p2)).length)), .val (.ref o_71), .val (.ref b_72)] [(.int (1 : Int32))]
  refine Runs.ifN i0_369 (feq (by decide : ¬ ((1 : Int32) = (0 : Int32)))).1 ?_
  refine Runs.aload i0_372 rfl rfl ?_
  refine Runs.aload i0_374 rfl rfl ?_
  refine Runs.iload i0_376 rfl ?_
  refine Runs.bipush (v := (6 : Int32)) i0_378 (by decide) ?_
  refine Runs.callSW (argsL := [(.ref b_72), (.ref b_33), (.int (Int32.ofNat ((own_P ++ own_enc (own_dr p1)) ++ own_enc (own_dr p2)).length)), (.int (6 : Int32))]) (rest := []) (W := 0) i0_380 (w218 hw) (w219 hw) (w2 hw) (w220 hw) (by decide) pd_43 rfl rfl rfl rfl (by decide) (by decide) (by decide) (by decide) all0 (by decide) (own_eqc l Z a0 hw n0 b_72 b_33 k_73 k_34 ((own_P ++ own_enc (own_dr p1)) ++ own_enc (own_dr p2)) (by have := own_lL2 p1 p2 p3; omega) 6 (by decide) _ A_78 A_80) ?_
  intro v h1 D1 q hsz
  obtain ⟨rfl, rfl, rfl⟩ := q
  show Runs 1 l Z [("com/example/pacerd/pacerd/run/Outcome", 27), ("java/lang/String", 7)] n0 _ _ _ _ _ _ _ [b_33] h_79 15 359 383 #[.val (.int p0), .val (.int p1), .val (.int p2), .val (.int p3), .val (.int (2 : Int32)), .val (.int (own_dr p1)), .val (.int (own_dr p2)), .val (.int (own_dr p3)), .val (.ref b_2), .val (.ref b_17), .val (.ref b_33), .val (.int (Int32.ofNat ((own_P ++ own_enc (own_dr p1)) ++ own_enc (own_dr p2)).length)), .val (.ref o_71), .val (.ref b_72)] [(.int (1 : Int32))]
  refine Runs.ifN i0_383 (feq (by decide : ¬ ((1 : Int32) = (0 : Int32)))).1 ?_
  refine Runs.aload i0_386 rfl rfl ?_
  refine Runs.aload i0_388 rfl rfl ?_
  refine Runs.iload i0_390 rfl ?_
  refine Runs.bipush (v := (7 : Int32)) i0_392 (by decide) ?_
  refine Runs.callSW (argsL := [(.ref b_72), (.ref b_33), (.int (Int32.ofNat ((own_P ++ own_enc (own_dr p1)) ++ own_enc (own_dr p2)).length)), (.int (7 : Int32))]) (rest := []) (W := 0) i0_394 (w218 hw) (w219 hw) (w2 hw) (w220 hw) (by decide) pd_43 rfl rfl rfl rfl (by decide) (by decide) (by decide) (by decide) all0 (by decide) (own_eqc l Z a0 hw n0 b_72 b_33 k_73 k_34 ((own_P ++ own_enc (own_dr p1)) ++ own_enc (own_dr p2)) (by have := own_lL2 p1 p2 p3; omega) 7 (by decide) _ A_78 A_80) ?_
  intro v h1 D1 q hsz
  obtain ⟨rfl, rfl, rfl⟩ := q
  show Runs 1 l Z [("com/example/pacerd/pacerd/run/Outcome", 27), ("java/lang/String", 7)] n0 _ _ _ _ _ _ _ [b_33] h_79 15 359 397 #[.val (.int p0), .val (.int p1), .val (.int p2), .val (.int p3), .val (.int (2 : Int32)), .val (.int (own_dr p1)), .val (.int (own_dr p2)), .val (.int (own_dr p3)), .val (.ref b_2), .val (.ref b_17), .val (.ref b_33), .val (.int (Int32.ofNat ((own_P ++ own_enc (own_dr p1)) ++ own_enc (own_dr p2)).length)), .val (.ref o_71), .val (.ref b_72)] [(.int (1 : Int32))]
  refine Runs.ifN i0_397 (feq (by decide : ¬ ((1 : Int32) = (0 : Int32)))).1 ?_
  refine Runs.aload i0_400 rfl rfl ?_
  refine Runs.aload i0_402 rfl rfl ?_
  refine Runs.iload i0_404 rfl ?_
  refine Runs.bipush (v := (8 : Int32)) i0_406 (by decide) ?_
  refine Runs.callSW (argsL := [(.ref b_72), (.ref b_33), (.int (Int32.ofNat ((own_P ++ own_enc (own_dr p1)) ++ own_enc (own_dr p2)).length)), (.int (8 : Int32))]) (rest := []) (W := 0) i0_408 (w218 hw) (w219 hw) (w2 hw) (w220 hw) (by decide) pd_43 rfl rfl rfl rfl (by decide) (by decide) (by decide) (by decide) all0 (by decide) (own_eqc l Z a0 hw n0 b_72 b_33 k_73 k_34 ((own_P ++ own_enc (own_dr p1)) ++ own_enc (own_dr p2)) (by have := own_lL2 p1 p2 p3; omega) 8 (by decide) _ A_78 A_80) ?_
  intro v h1 D1 q hsz
  obtain ⟨rfl, rfl, rfl⟩ := q
  show Runs 1 l Z [("com/example/pacerd/pacerd/run/Outcome", 27), ("java/lang/String", 7)] n0 _ _ _ _ _ _ _ [b_33] h_79 15 359 411 #[.val (.int p0), .val (.int p1), .val (.int p2), .val (.int p3), .val (.int (2 : Int32)), .val (.int (own_dr p1)), .val (.int (own_dr p2)), .val (.int (own_dr p3)), .val (.ref b_2), .val (.ref b_17), .val (.ref b_33), .val (.int (Int32.ofNat ((own_P ++ own_enc (own_dr p1)) ++ own_enc (own_dr p2)).length)), .val (.ref o_71), .val (.ref b_72)] [(.int (1 : Int32))]
  refine Runs.ifN i0_411 (feq (by decide : ¬ ((1 : Int32) = (0 : Int32)))).1 ?_
  refine Runs.aload i0_414 rfl rfl ?_
  refine Runs.aload i0_416 rfl rfl ?_
  refine Runs.iload i0_418 rfl ?_
  refine Runs.bipush (v := (9 : Int32)) i0_420 (by decide) ?_
  refine Runs.callSW (argsL := [(.ref b_72), (.ref b_33), (.int (Int32.ofNat ((own_P ++ own_enc (own_dr p1)) ++ own_enc (own_dr p2)).length)), (.int (9 : Int32))]) (rest := []) (W := 0) i0_422 (w218 hw) (w219 hw) (w2 hw) (w220 hw) (by decide) pd_43 rfl rfl rfl rfl (by decide) (by decide) (by decide) (by decide) all0 (by decide) (own_eqc l Z a0 hw n0 b_72 b_33 k_73 k_34 ((own_P ++ own_enc (own_dr p1)) ++ own_enc (own_dr p2)) (by have := own_lL2 p1 p2 p3; omega) 9 (by decide) _ A_78 A_80) ?_
  intro v h1 D1 q hsz
  obtain ⟨rfl, rfl, rfl⟩ := q
  show Runs 1 l Z [("com/example/pacerd/pacerd/run/Outcome", 27), ("java/lang/String", 7)] n0 _ _ _ _ _ _ _ [b_33] h_79 15 359 425 #[.val (.int p0), .val (.int p1), .val (.int p2), .val (.int p3), .val (.int (2 : Int32)), .val (.int (own_dr p1)), .val (.int (own_dr p2)), .val (.int (own_dr p3)), .val (.ref b_2), .val (.ref b_17), .val (.ref b_33), .val (.int (Int32.ofNat ((own_P ++ own_enc (own_dr p1)) ++ own_enc (own_dr p2)).length)), .val (.ref o_71), .val (.ref b_72)] [(.int (1 : Int32))]
  refine Runs.ifN i0_425 (feq (by decide : ¬ ((1 : Int32) = (0 : Int32)))).1 ?_
  refine Runs.aload i0_428 rfl rfl ?_
  refine Runs.aload i0_430 rfl rfl ?_
  refine Runs.iload i0_432 rfl ?_
  refine Runs.bipush (v := (10 : Int32)) i0_434 (by decide) ?_
  refine Runs.callSW (argsL := [(.ref b_72), (.ref b_33), (.int (Int32.ofNat ((own_P ++ own_enc (own_dr p1)) ++ own_enc (own_dr p2)).length)), (.int (10 : Int32))]) (rest := []) (W := 0) i0_436 (w218 hw) (w219 hw) (w2 hw) (w220 hw) (by decide) pd_43 rfl rfl rfl rfl (by decide) (by decide) (by decide) (by decide) all0 (by decide) (own_eqc l Z a0 hw n0 b_72 b_33 k_73 k_34 ((own_P ++ own_enc (own_dr p1)) ++ own_enc (own_dr p2)) (by have := own_lL2 p1 p2 p3; omega) 10 (by decide) _ A_78 A_80) ?_
  intro v h1 D1 q hsz
  obtain ⟨rfl, rfl, rfl⟩ := q
  show Runs 1 l Z [("com/example/pacerd/pacerd/run/Outcome", 27), ("java/lang/String", 7)] n0 _ _ _ _ _ _ _ [b_33] h_79 15 359 439 #[.val (.int p0), .val (.int p1), .val (.int p2), .val (.int p3), .val (.int (2 : Int32)), .val (.int (own_dr p1)), .val (.int (own_dr p2)), .val (.int (own_dr p3)), .val (.ref b_2), .val (.ref b_17), .val (.ref b_33), .val (.int (Int32.ofNat ((own_P ++ own_enc (own_dr p1)) ++ own_enc (own_dr p2)).length)), .val (.ref o_71), .val (.ref b_72)] [(.int (1 : Int32))]
  refine Runs.ifN i0_439 (feq (by decide : ¬ ((1 : Int32) = (0 : Int32)))).1 ?_
  refine Runs.aload i0_442 rfl rfl ?_
  refine Runs.aload i0_444 rfl rfl ?_
  refine Runs.iload i0_446 rfl ?_
  refine Runs.bipush (v := (11 : Int32)) i0_448 (by decide) ?_
  refine Runs.callSW (argsL := [(.ref b_72), (.ref b_33), (.int (Int32.ofNat ((own_P ++ own_enc (own_dr p1)) ++ own_enc (own_dr p2)).length)), (.int (11 : Int32))]) (rest := []) (W := 0) i0_450 (w218 hw) (w219 hw) (w2 hw) (w220 hw) (by decide) pd_43 rfl rfl rfl rfl (by decide) (by decide) (by decide) (by decide) all0 (by decide) (own_eqc l Z a0 hw n0 b_72 b_33 k_73 k_34 ((own_P ++ own_enc (own_dr p1)) ++ own_enc (own_dr p2)) (by have := own_lL2 p1 p2 p3; omega) 11 (by decide) _ A_78 A_80) ?_
  intro v h1 D1 q hsz
  obtain ⟨rfl, rfl, rfl⟩ := q
  show Runs 1 l Z [("com/example/pacerd/pacerd/run/Outcome", 27), ("java/lang/String", 7)] n0 _ _ _ _ _ _ _ [b_33] h_79 15 359 453 #[.val (.int p0), .val (.int p1), .val (.int p2), .val (.int p3), .val (.int (2 : Int32)), .val (.int (own_dr p1)), .val (.int (own_dr p2)), .val (.int (own_dr p3)), .val (.ref b_2), .val (.ref b_17), .val (.ref b_33), .val (.int (Int32.ofNat ((own_P ++ own_enc (own_dr p1)) ++ own_enc (own_dr p2)).length)), .val (.ref o_71), .val (.ref b_72)] [(.int (1 : Int32))]
  refine Runs.ifN i0_453 (feq (by decide : ¬ ((1 : Int32) = (0 : Int32)))).1 ?_
  refine Runs.aload i0_456 rfl rfl ?_
  refine Runs.aload i0_458 rfl rfl ?_
  refine Runs.iload i0_460 rfl ?_
  refine Runs.bipush (v := (12 : Int32)) i0_462 (by decide) ?_
  refine Runs.callSW (argsL := [(.ref b_72), (.ref b_33), (.int (Int32.ofNat ((own_P ++ own_enc (own_dr p1)) ++ own_enc (own_dr p2)).length)), (.int (12 : Int32))]) (rest := []) (W := 0) i0_464 (w218 hw) (w219 hw) (w2 hw) (w220 hw) (by decide) pd_43 rfl rfl rfl rfl (by decide) (by decide) (by decide) (by decide) all0 (by decide) (own_eqc l Z a0 hw n0 b_72 b_33 k_73 k_34 ((own_P ++ own_enc (own_dr p1)) ++ own_enc (own_dr p2)) (by have := own_lL2 p1 p2 p3; omega) 12 (by decide) _ A_78 A_80) ?_
  intro v h1 D1 q hsz
  obtain ⟨rfl, rfl, rfl⟩ := q
  show Runs 1 l Z [("com/example/pacerd/pacerd/run/Outcome", 27), ("java/lang/String", 7)] n0 _ _ _ _ _ _ _ [b_33] h_79 15 359 467 #[.val (.int p0), .val (.int p1), .val (.int p2), .val (.int p3), .val (.int (2 : Int32)), .val (.int (own_dr p1)), .val (.int (own_dr p2)), .val (.int (own_dr p3)), .val (.ref b_2), .val (.ref b_17), .val (.ref b_33), .val (.int (Int32.ofNat ((own_P ++ own_enc (own_dr p1)) ++ own_enc (own_dr p2)).length)), .val (.ref o_71), .val (.ref b_72)] [(.int (1 : Int32))]
  refine Runs.ifN i0_467 (feq (by decide : ¬ ((1 : Int32) = (0 : Int32)))).1 ?_
  refine Runs.aload i0_470 rfl rfl ?_
  refine Runs.aload i0_472 rfl rfl ?_
  refine Runs.iload i0_474 rfl ?_
  refine Runs.bipush (v := (13 : Int32)) i0_476 (by decide) ?_
  refine Runs.callSW (argsL := [(.ref b_72), (.ref b_33), (.int (Int32.ofNat ((own_P ++ own_enc (own_dr p1)) ++ own_enc (own_dr p2)).length)), (.int (13 : Int32))]) (rest := []) (W := 0) i0_478 (w218 hw) (w219 hw) (w2 hw) (w220 hw) (by decide) pd_43 rfl rfl rfl rfl (by decide) (by decide) (by decide) (by decide) all0 (by decide) (own_eqc l Z a0 hw n0 b_72 b_33 k_73 k_34 ((own_P ++ own_enc (own_dr p1)) ++ own_enc (own_dr p2)) (by have := own_lL2 p1 p2 p3; omega) 13 (by decide) _ A_78 A_80) ?_
  intro v h1 D1 q hsz
  obtain ⟨rfl, rfl, rfl⟩ := q
  show Runs 1 l Z [("com/example/pacerd/pacerd/run/Outcome", 27), ("java/lang/String", 7)] n0 _ _ _ _ _ _ _ [b_33] h_79 15 359 481 #[.val (.int p0), .val (.int p1), .val (.int p2), .val (.int p3), .val (.int (2 : Int32)), .val (.int (own_dr p1)), .val (.int (own_dr p2)), .val (.int (own_dr p3)), .val (.ref b_2), .val (.ref b_17), .val (.ref b_33), .val (.int (Int32.ofNat ((own_P ++ own_enc (own_dr p1)) ++ own_enc (own_dr p2)).length)), .val (.ref o_71), .val (.ref b_72)] [(.int (1 : Int32))]
  refine Runs.ifN i0_481 (feq (by decide : ¬ ((1 : Int32) = (0 : Int32)))).1 ?_
  refine Runs.aload i0_484 rfl rfl ?_
  refine Runs.aload i0_486 rfl rfl ?_
  refine Runs.iload i0_488 rfl ?_
  refine Runs.bipush (v := (14 : Int32)) i0_490 (by decide) ?_
  refine Runs.callSW (argsL := [(.ref b_72), (.ref b_33), (.int (Int32.ofNat ((own_P ++ own_enc (own_dr p1)) ++ own_enc (own_dr p2)).length)), (.int (14 : Int32))]) (rest := []) (W := 0) i0_492 (w218 hw) (w219 hw) (w2 hw) (w220 hw) (by decide) pd_43 rfl rfl rfl rfl (by decide) (by decide) (by decide) (by decide) all0 (by decide) (own_eqc l Z a0 hw n0 b_72 b_33 k_73 k_34 ((own_P ++ own_enc (own_dr p1)) ++ own_enc (own_dr p2)) (by have := own_lL2 p1 p2 p3; omega) 14 (by decide) _ A_78 A_80) ?_
  intro v h1 D1 q hsz
  obtain ⟨rfl, rfl, rfl⟩ := q
  show Runs 1 l Z [("com/example/pacerd/pacerd/run/Outcome", 27), ("java/lang/String", 7)] n0 _ _ _ _ _ _ _ [b_33] h_79 15 359 495 #[.val (.int p0), .val (.int p1), .val (.int p2), .val (.int p3), .val (.int (2 : Int32)), .val (.int (own_dr p1)), .val (.int (own_dr p2)), .val (.int (own_dr p3)), .val (.ref b_2), .val (.ref b_17), .val (.ref b_33), .val (.int (Int32.ofNat ((own_P ++ own_enc (own_dr p1)) ++ own_enc (own_dr p2)).length)), .val (.ref o_71), .val (.ref b_72)] [(.int (1 : Int32))]
  refine Runs.ifN i0_495 (feq (by decide : ¬ ((1 : Int32) = (0 : Int32)))).1 ?_
  refine Runs.aload i0_498 rfl rfl ?_
  refine Runs.aload i0_500 rfl rfl ?_
  refine Runs.iload i0_502 rfl ?_
  refine Runs.bipush (v := (15 : Int32)) i0_504 (by decide) ?_
  refine Runs.callSW (argsL := [(.ref b_72), (.ref b_33), (.int (Int32.ofNat ((own_P ++ own_enc (own_dr p1)) ++ own_enc (own_dr p2)).length)), (.int (15 : Int32))]) (rest := []) (W := 0) i0_506 (w218 hw) (w219 hw) (w2 hw) (w220 hw) (by decide) pd_43 rfl rfl rfl rfl (by decide) (by decide) (by decide) (by decide) all0 (by decide) (own_eqc l Z a0 hw n0 b_72 b_33 k_73 k_34 ((own_P ++ own_enc (own_dr p1)) ++ own_enc (own_dr p2)) (by have := own_lL2 p1 p2 p3; omega) 15 (by decide) _ A_78 A_80) ?_
  intro v h1 D1 q hsz
  obtain ⟨rfl, rfl, rfl⟩ := q
  show Runs 1 l Z [("com/example/pacerd/pacerd/run/Outcome", 27), ("java/lang/String", 7)] n0 _ _ _ _ _ _ _ [b_33] h_79 15 359 509 #[.val (.int p0), .val (.int p1), .val (.int p2), .val (.int p3), .val (.int (2 : Int32)), .val (.int (own_dr p1)), .val (.int (own_dr p2)), .val (.int (own_dr p3)), .val (.ref b_2), .val (.ref b_17), .val (.ref b_33), .val (.int (Int32.ofNat ((own_P ++ own_enc (own_dr p1)) ++ own_enc (own_dr p2)).length)), .val (.ref o_71), .val (.ref b_72)] [(.int (1 : Int32))]
  refine Runs.ifN i0_509 (feq (by decide : ¬ ((1 : Int32) = (0 : Int32)))).1 ?_
  refine Runs.aload i0_512 rfl rfl ?_
  refine Runs.aload i0_514 rfl rfl ?_
  refine Runs.iload i0_516 rfl ?_
  refine Runs.bipush (v := (16 : Int32)) i0_518 (by decide) ?_
  refine Runs.callSW (argsL := [(.ref b_72), (.ref b_33), (.int (Int32.ofNat ((own_P ++ own_enc (own_dr p1)) ++ own_enc (own_dr p2)).length)), (.int (16 : Int32))]) (rest := []) (W := 0) i0_520 (w218 hw) (w219 hw) (w2 hw) (w220 hw) (by decide) pd_43 rfl rfl rfl rfl (by decide) (by decide) (by decide) (by decide) all0 (by decide) (own_eqc l Z a0 hw n0 b_72 b_33 k_73 k_34 ((own_P ++ own_enc (own_dr p1)) ++ own_enc (own_dr p2)) (by have := own_lL2 p1 p2 p3; omega) 16 (by decide) _ A_78 A_80) ?_
  intro v h1 D1 q hsz
  obtain ⟨rfl, rfl, rfl⟩ := q
  show Runs 1 l Z [("com/example/pacerd/pacerd/run/Outcome", 27), ("java/lang/String", 7)] n0 _ _ _ _ _ _ _ [b_33] h_79 15 359 523 #[.val (.int p0), .val (.int p1), .val (.int p2), .val (.int p3), .val (.int (2 : Int32)), .val (.int (own_dr p1)), .val (.int (own_dr p2)), .val (.int (own_dr p3)), .val (.ref b_2), .val (.ref b_17), .val (.ref b_33), .val (.int (Int32.ofNat ((own_P ++ own_enc (own_dr p1)) ++ own_enc (own_dr p2)).length)), .val (.ref o_71), .val (.ref b_72)] [(.int (1 : Int32))]
  refine Runs.ifN i0_523 (feq (by decide : ¬ ((1 : Int32) = (0 : Int32)))).1 ?_
  refine Runs.iconst (v := (1 : Int32)) i0_526 (by decide) ?_
  refine Runs.goto (t := 531) i0_527 (by decide) ?_
  exact Runs.retI (z := (1 : Int32)) i0_531 rfl (Or.inr (Or.inl rfl)) (by decide) (by decide) (by decide) rfl
set_option maxRecDepth 65536 in
set_option maxHeartbeats 4000000 in
theorem own_law3 (l : Launch) (Z : State) (a0 : Array Value) (hw : Wds Z a0) (n0 : Nat) (p0 p1 p2 p3 : Int32) (cpt : Int32) (S_C : Sta Z Z.heap "java/lang/String" "COMPACT_STRINGS" "Z" (.int cpt)) (hcpt : ¬ cpt = 0) (S_A : Sta Z Z.heap "java/lang/StringUTF16" "$assertionsDisabled" "Z" (.int 1)) (S_H : Sta Z Z.heap "java/lang/StringUTF16" "HI_BYTE_SHIFT" "I" (.int 0)) (S_L : Sta Z Z.heap "java/lang/StringUTF16" "LO_BYTE_SHIFT" "I" (.int 8)) (fm : Value) (hfm : fm.isRef = true) (S_F : Sta Z Z.heap "jdk/internal/util/Preconditions" "SIOOBE_FORMATTER" "Ljava/util/function/BiFunction;" fm) (u8 : Addr) (S_I : Sta Z Z.heap "sun/nio/cs/UTF_8" "INSTANCE" "Lsun/nio/cs/UTF_8;" (.ref u8)) (S_8 : Sta Z Z.heap "java/nio/charset/StandardCharsets" "UTF_8" "Ljava/nio/charset/Charset;" (.ref u8)) (sF : Addr) (S_FAILED : Sta Z Z.heap "com/example/pacerd/pacerd/run/RunStatus" "FAILED" "Lcom/example/pacerd/pacerd/run/RunStatus;" (.ref sF)) : Runs 1 l Z [("com/example/pacerd/pacerd/run/Outcome", 27), ("java/lang/String", 7)] n0 x.cls x.name code maxLocals ret room_1 (fun v h D' => v = some (.int 1)) [] Z.heap 0 0 23 #[.val (.int p0), .val (.int p1), .val (.int p2), .val (.int p3), .val (.int (3 : Int32)), .val (.int (own_dr p1)), .val (.int (own_dr p2)), .val (.int (own_dr p3)), .unset, .unset, .unset, .unset, .unset, .unset] [] := by
  refine Runs.iload i0_23 rfl ?_
  refine Runs.ifY (t := 36) i0_25 (by decide) (feq (by decide : ¬ ((3 : Int32) = (0 : Int32)))).2 ?_
  refine Runs.iload i0_36 rfl ?_
  refine Runs.iconst (v := (1 : Int32)) i0_38 (by decide) ?_
  refine Runs.icY (t := 56) i0_39 (by decide) (feq (by decide : ¬ ((3 : Int32) = (1 : Int32)))).2 ?_
  refine Runs.iload i0_56 rfl ?_
  refine Runs.iconst (v := (2 : Int32)) i0_58 (by decide) ?_
  refine Runs.icY (t := 82) i0_59 (by decide) (feq (by decide : ¬ ((3 : Int32) = (2 : Int32)))).2 ?_
  refine Runs.iconst (v := (3 : Int32)) i0_82 (by decide) ?_
  refine Runs.newP (cap := 3) (ad := "[C") i0_83 (w6 hw) (by decide) (by decide) (by decide) (by decide) (by decide) rfl ?_
  intro h_1 b_2 k_3 g_6 ge_7 K_4 (A_5 : Arv Z h_1 b_2 k_3 .char (3 : Int32) [] (.int (0 : Int32))) E_8
  have A_9 : Arv Z h_1 b_2 k_3 .char (3 : Int32) [(.int (0 : Int32)), (.int (0 : Int32)), (.int (0 : Int32))] (.int (0 : Int32)) := A_5.pad (pad_rep [] (.int (0 : Int32)) 3)
  refine Runs.dup i0_85 rfl ?_
  refine Runs.iconst (v := (0 : Int32)) i0_86 (by decide) ?_
  refine Runs.iload i0_87 rfl ?_
  refine Runs.i2c (z := (own_dr p1)) i0_89 (own_cc (own_drc p1).1) ?_
  refine Runs.castore (i := 0) (y := (own_dr p1)) i0_90 A_9 ⟨by decide, by decide⟩ (by decide) (Nat.le_of_ble_eq_true rfl) (own_cc (own_drc p1).1) ge_7 (Or.inr (by decide)) ?_
  intro h_10 K_11 (A_12 : Arv Z h_10 b_2 k_3 .char (3 : Int32) [(.int (own_dr p1)), (.int (0 : Int32)), (.int (0 : Int32))] (.int (0 : Int32)))
  refine Runs.dup i0_91 rfl ?_
  refine Runs.iconst (v := (1 : Int32)) i0_92 (by decide) ?_
  refine Runs.iload i0_93 rfl ?_
  refine Runs.i2c (z := (own_dr p2)) i0_95 (own_cc (own_drc p2).1) ?_
  refine Runs.castore (i := 1) (y := (own_dr p2)) i0_96 A_12 ⟨by decide, by decide⟩ (by decide) (Nat.le_of_ble_eq_true rfl) (own_cc (own_drc p2).1) ge_7 (Or.inr (by decide)) ?_
  intro h_13 K_14 (A_15 : Arv Z h_13 b_2 k_3 .char (3 : Int32) [(.int (own_dr p1)), (.int (own_dr p2)), (.int (0 : Int32))] (.int (0 : Int32)))
  refine Runs.dup i0_97 rfl ?_
  refine Runs.iconst (v := (2 : Int32)) i0_98 (by decide) ?_
  refine Runs.iload i0_99 rfl ?_
  refine Runs.i2c (z := (own_dr p3)) i0_101 (own_cc (own_drc p3).1) ?_
  refine Runs.castore (i := 2) (y := (own_dr p3)) i0_102 A_15 ⟨by decide, by decide⟩ (by decide) (Nat.le_of_ble_eq_true rfl) (own_cc (own_drc p3).1) ge_7 (Or.inr (by decide)) ?_
  intro h_16 K_17 (A_18 : Arv Z h_16 b_2 k_3 .char (3 : Int32) [(.int (own_dr p1)), (.int (own_dr p2)), (.int (own_dr p3))] (.int (0 : Int32)))
  refine Runs.astore (ls' := #[.val (.int p0), .val (.int p1), .val (.int p2), .val (.int p3), .val (.int (3 : Int32)), .val (.int (own_dr p1)), .val (.int (own_dr p2)), .val (.int (own_dr p3)), .val (.ref b_2), .unset, .unset, .unset, .unset, .unset]) i0_103 rfl rfl ?_
  refine Runs.newO i0_105 (w7 hw) (w8 hw) (w9 hw) (lay_0 hw) (by decide) (by decide) ?_
  intro h_19 b_20 g_23 ge_24 K_21 (O_22 : Obj Z h_19 b_20 "java/lang/String" [("java/lang/String", "value", "[B", .null), ("java/lang/String", "coder", "B", (.int (0 : Int32)))]) U_25
  refine Runs.dup i0_108 rfl ?_
  refine Runs.aload i0_109 rfl rfl ?_
  have A_26 := (A_18.keep K_21 nin0)
  have U_27 : Arv Z h_19 b_2 k_3 .char (Int32.ofNat [(own_dr p1), (own_dr p2), (own_dr p3)].length) (([(own_dr p1), (own_dr p2), (own_dr p3)] : List Int32).map Value.int) (.int 0) := A_26
  refine Runs.callCW (argsL := [(.ref b_2)]) (rest := [(.ref b_20)]) (W := 1) i0_111 rfl (w10 hw) (w11 hw) (w12 hw) (w9 hw) (by decide) pd_39 rfl rfl rfl rfl (by decide) (by decide) (by decide) (by decide) (allS (List.mem_of_getElem? (i := 0) rfl) all0) (by decide) (own_sw l Z a0 hw n0 b_20 b_2 k_3 (Nat.ne_of_lt (Nat.lt_of_lt_of_le (Nat.lt_of_lt_of_le A_9.lt (Nat.le_trans (Nat.le_trans K_11.1 K_14.1) K_17.1)) g_23)) [(own_dr p1), (own_dr p2), (own_dr p3)] 8 (by simp) (by simp) (own_aS (own_drc p1).1 (own_aS (own_drc p2).1 (own_aS (own_drc p3).1 own_a0))) cpt _ ge_24 O_22 U_27 (Nat.le_trans ge_24 (Nat.le_of_lt O_22.lt)) S_C hcpt S_A S_H S_L) ?_
  intro v h_34 D1 q hsz
  obtain ⟨rfl, t_28, k_29, g_30, K_31, S_32, E_33, rfl⟩ := q
  show Runs 1 l Z [("com/example/pacerd/pacerd/run/Outcome", 27), ("java/lang/String", 7)] n0 _ _ _ _ _ _ _ [b_20, b_2] h_34 4 23 114 #[.val (.int p0), .val (.int p1), .val (.int p2), .val (.int p3), .val (.int (3 : Int32)), .val (.int (own_dr p1)), .val (.int (own_dr p2)), .val (.int (own_dr p3)), .val (.ref b_2), .unset, .unset, .unset, .unset, .unset] [(.ref b_20)]
  refine Runs.weak (D1 := []) (fun _ q => nomatch q) ?_
  have hn0_1 : n0 ≤ Array.size h_34 := Nat.le_trans ge_24 (Nat.le_trans (Nat.le_of_lt O_22.lt) K_31.1)
  have ls_b_20 := own_sxl S_32
  refine Runs.astore (ls' := #[.val (.int p0), .val (.int p1), .val (.int p2), .val (.int p3), .val (.int (3 : Int32)), .val (.int (own_dr p1)), .val (.int (own_dr p2)), .val (.int (own_dr p3)), .val (.ref b_2), .val (.ref b_20), .unset, .unset, .unset, .unset]) i0_114 rfl rfl ?_
  refine Runs.bipush (v := (17 : Int32)) i0_116 (by decide) ?_
  refine Runs.newP (cap := 17) (ad := "[B") i0_118 (w21 hw) (by decide) (by decide) (by decide) (by decide) (by decide) rfl ?_
  intro h_35 b_36 k_37 g_40 ge_41 K_38 (A_39 : Arv Z h_35 b_36 k_37 .byte (Int32.ofNat 17) (([] : List Int32).map Value.int) (.int 0)) E_42
  refine Runs.astore (ls' := #[.val (.int p0), .val (.int p1), .val (.int p2), .val (.int p3), .val (.int (3 : Int32)), .val (.int (own_dr p1)), .val (.int (own_dr p2)), .val (.int (own_dr p3)), .val (.ref b_2), .val (.ref b_20), .val (.ref b_36), .unset, .unset, .unset]) i0_120 rfl rfl ?_
  refine Runs.aload i0_122 rfl rfl ?_
  refine Runs.iconst (v := (0 : Int32)) i0_124 (by decide) ?_
  refine Runs.bipush (v := (112 : Int32)) i0_125 (by decide) ?_
  refine own_bapp (y := (112 : Int32)) (L := ([] : List Int32)) (c := 17) (j := 0) i0_127 A_39 (by first | rfl | (simp only [List.length_append, List.length_cons, List.length_nil, Nat.zero_add]; first | done | omega)) (by (try simp only [List.length_append, List.length_cons, List.length_nil, Nat.zero_add]); first | done | omega) (by omega) (by decide) ge_41 (List.mem_of_getElem? (i := 0) rfl) ?_
  intro h_43 K_44 (A_45 : Arv Z h_43 b_36 k_37 .byte (Int32.ofNat 17) ((([] : List Int32) ++ [(112 : Int32)]).map Value.int) (.int 0))
  refine Runs.aload i0_128 rfl rfl ?_
  refine Runs.iconst (v := (1 : Int32)) i0_130 (by decide) ?_
  refine Runs.bipush (v := (97 : Int32)) i0_131 (by decide) ?_
  refine own_bapp (y := (97 : Int32)) (L := (([] : List Int32) ++ [(112 : Int32)])) (c := 17) (j := 1) i0_133 A_45 (by first | rfl | (simp only [List.length_append, List.length_cons, List.length_nil, Nat.zero_add]; first | done | omega)) (by (try simp only [List.length_append, List.length_cons, List.length_nil, Nat.zero_add]); first | done | omega) (by omega) (by decide) ge_41 (List.mem_of_getElem? (i := 0) rfl) ?_
  intro h_46 K_47 (A_48 : Arv Z h_46 b_36 k_37 .byte (Int32.ofNat 17) (((([] : List Int32) ++ [(112 : Int32)]) ++ [(97 : Int32)]).map Value.int) (.int 0))
  refine Runs.aload i0_134 rfl rfl ?_
  refine Runs.iconst (v := (2 : Int32)) i0_136 (by decide) ?_
  refine Runs.bipush (v := (99 : Int32)) i0_137 (by decide) ?_
  refine own_bapp (y := (99 : Int32)) (L := ((([] : List Int32) ++ [(112 : Int32)]) ++ [(97 : Int32)])) (c := 17) (j := 2) i0_139 A_48 (by first | rfl | (simp only [List.length_append, List.length_cons, List.length_nil, Nat.zero_add]; first | done | omega)) (by (try simp only [List.length_append, List.length_cons, List.length_nil, Nat.zero_add]); first | done | omega) (by omega) (by decide) ge_41 (List.mem_of_getElem? (i := 0) rfl) ?_
  intro h_49 K_50 (A_51 : Arv Z h_49 b_36 k_37 .byte (Int32.ofNat 17) ((((([] : List Int32) ++ [(112 : Int32)]) ++ [(97 : Int32)]) ++ [(99 : Int32)]).map Value.int) (.int 0))
  refine Runs.aload i0_140 rfl rfl ?_
  refine Runs.iconst (v := (3 : Int32)) i0_142 (by decide) ?_
  refine Runs.bipush (v := (101 : Int32)) i0_143 (by decide) ?_
  refine own_bapp (y := (101 : Int32)) (L := (((([] : List Int32) ++ [(112 : Int32)]) ++ [(97 : Int32)]) ++ [(99 : Int32)])) (c := 17) (j := 3) i0_145 A_51 (by first | rfl | (simp only [List.length_append, List.length_cons, List.length_nil, Nat.zero_add]; first | done | omega)) (by (try simp only [List.length_append, List.length_cons, List.length_nil, Nat.zero_add]); first | done | omega) (by omega) (by decide) ge_41 (List.mem_of_getElem? (i := 0) rfl) ?_
  intro h_52 K_53 (A_54 : Arv Z h_52 b_36 k_37 .byte (Int32.ofNat 17) (((((([] : List Int32) ++ [(112 : Int32)]) ++ [(97 : Int32)]) ++ [(99 : Int32)]) ++ [(101 : Int32)]).map Value.int) (.int 0))
  refine Runs.aload i0_146 rfl rfl ?_
  refine Runs.iconst (v := (4 : Int32)) i0_148 (by decide) ?_
  refine Runs.bipush (v := (114 : Int32)) i0_149 (by decide) ?_
  refine own_bapp (y := (114 : Int32)) (L := ((((([] : List Int32) ++ [(112 : Int32)]) ++ [(97 : Int32)]) ++ [(99 : Int32)]) ++ [(101 : Int32)])) (c := 17) (j := 4) i0_151 A_54 (by first | rfl | (simp only [List.length_append, List.length_cons, List.length_nil, Nat.zero_add]; first | done | omega)) (by (try simp only [List.length_append, List.length_cons, List.length_nil, Nat.zero_add]); first | done | omega) (by omega) (by decide) ge_41 (List.mem_of_getElem? (i := 0) rfl) ?_
  intro h_55 K_56 (A_57 : Arv Z h_55 b_36 k_37 .byte (Int32.ofNat 17) ((((((([] : List Int32) ++ [(112 : Int32)]) ++ [(97 : Int32)]) ++ [(99 : Int32)]) ++ [(101 : Int32)]) ++ [(114 : Int32)]).map Value.int) (.int 0))
  refine Runs.aload i0_152 rfl rfl ?_
  refine Runs.iconst (v := (5 : Int32)) i0_154 (by decide) ?_
  refine Runs.bipush (v := (100 : Int32)) i0_155 (by decide) ?_
  refine own_bapp (y := (100 : Int32)) (L := (((((([] : List Int32) ++ [(112 : Int32)]) ++ [(97 : Int32)]) ++ [(99 : Int32)]) ++ [(101 : Int32)]) ++ [(114 : Int32)])) (c := 17) (j := 5) i0_157 A_57 (by first | rfl | (simp only [List.length_append, List.length_cons, List.length_nil, Nat.zero_add]; first | done | omega)) (by (try simp only [List.length_append, List.length_cons, List.length_nil, Nat.zero_add]); first | done | omega) (by omega) (by decide) ge_41 (List.mem_of_getElem? (i := 0) rfl) ?_
  intro h_58 K_59 (A_60 : Arv Z h_58 b_36 k_37 .byte (Int32.ofNat 17) (((((((([] : List Int32) ++ [(112 : Int32)]) ++ [(97 : Int32)]) ++ [(99 : Int32)]) ++ [(101 : Int32)]) ++ [(114 : Int32)]) ++ [(100 : Int32)]).map Value.int) (.int 0))
  refine Runs.aload i0_158 rfl rfl ?_
  refine Runs.bipush (v := (6 : Int32)) i0_160 (by decide) ?_
  refine Runs.bipush (v := (58 : Int32)) i0_162 (by decide) ?_
  refine own_bapp (y := (58 : Int32)) (L := ((((((([] : List Int32) ++ [(112 : Int32)]) ++ [(97 : Int32)]) ++ [(99 : Int32)]) ++ [(101 : Int32)]) ++ [(114 : Int32)]) ++ [(100 : Int32)])) (c := 17) (j := 6) i0_164 A_60 (by first | rfl | (simp only [List.length_append, List.length_cons, List.length_nil, Nat.zero_add]; first | done | omega)) (by (try simp only [List.length_append, List.length_cons, List.length_nil, Nat.zero_add]); first | done | omega) (by omega) (by decide) ge_41 (List.mem_of_getElem? (i := 0) rfl) ?_
  intro h_61 K_62 (A_63 : Arv Z h_61 b_36 k_37 .byte (Int32.ofNat 17) ((((((((([] : List Int32) ++ [(112 : Int32)]) ++ [(97 : Int32)]) ++ [(99 : Int32)]) ++ [(101 : Int32)]) ++ [(114 : Int32)]) ++ [(100 : Int32)]) ++ [(58 : Int32)]).map Value.int) (.int 0))
  refine Runs.aload i0_165 rfl rfl ?_
  refine Runs.bipush (v := (7 : Int32)) i0_167 (by decide) ?_
  refine Runs.bipush (v := (32 : Int32)) i0_169 (by decide) ?_
  refine own_bapp (y := (32 : Int32)) (L := (((((((([] : List Int32) ++ [(112 : Int32)]) ++ [(97 : Int32)]) ++ [(99 : Int32)]) ++ [(101 : Int32)]) ++ [(114 : Int32)]) ++ [(100 : Int32)]) ++ [(58 : Int32)])) (c := 17) (j := 7) i0_171 A_63 (by first | rfl | (simp only [List.length_append, List.length_cons, List.length_nil, Nat.zero_add]; first | done | omega)) (by (try simp only [List.length_append, List.length_cons, List.length_nil, Nat.zero_add]); first | done | omega) (by omega) (by decide) ge_41 (List.mem_of_getElem? (i := 0) rfl) ?_
  intro h_64 K_65 (A_66 : Arv Z h_64 b_36 k_37 .byte (Int32.ofNat 17) (((((((((([] : List Int32) ++ [(112 : Int32)]) ++ [(97 : Int32)]) ++ [(99 : Int32)]) ++ [(101 : Int32)]) ++ [(114 : Int32)]) ++ [(100 : Int32)]) ++ [(58 : Int32)]) ++ [(32 : Int32)]).map Value.int) (.int 0))
  refine Runs.bipush (v := (8 : Int32)) i0_172 (by decide) ?_
  refine Runs.istore (ls' := #[.val (.int p0), .val (.int p1), .val (.int p2), .val (.int p3), .val (.int (3 : Int32)), .val (.int (own_dr p1)), .val (.int (own_dr p2)), .val (.int (own_dr p3)), .val (.ref b_2), .val (.ref b_20), .val (.ref b_36), .val (.int (8 : Int32)), .unset, .unset]) i0_174 rfl ?_
  refine Runs.iload i0_176 rfl ?_
  refine Runs.iconst (v := (1 : Int32)) i0_178 (by decide) ?_
  refine Runs.icN i0_179 (flt (by decide : ¬ ((3 : Int32) < (1 : Int32)))).1 ?_
  refine Runs.aload i0_182 rfl rfl ?_
  refine Runs.iload i0_184 rfl ?_
  refine Runs.iload i0_186 rfl ?_
  have A_67 : Arv Z h_64 b_36 k_37 .byte (Int32.ofNat 17) (own_P.map Value.int) (.int 0) := A_66
  refine Runs.callSW (argsL := [(.ref b_36), (.int (8 : Int32)), (.int (own_dr p1))]) (rest := []) (W := 0) i0_188 (w231 hw) (w232 hw) (w2 hw) (w233 hw) (by decide) pd_28 rfl rfl rfl rfl (by decide) (by decide) (by decide) (by decide) (allS (List.mem_of_getElem? (i := 0) rfl) all0) (by decide) (own_putc l Z a0 hw n0 b_36 k_37 own_P (own_dr p1) (by have := own_lL0 p1 p2 p3; omega) ge_41 _ A_67) ?_
  intro v h_70 D1 q hsz
  obtain ⟨rfl, K_68, A_69, rfl⟩ := q
  show Runs 1 l Z [("com/example/pacerd/pacerd/run/Outcome", 27), ("java/lang/String", 7)] n0 _ _ _ _ _ _ _ [b_36] h_70 5 40 191 #[.val (.int p0), .val (.int p1), .val (.int p2), .val (.int p3), .val (.int (3 : Int32)), .val (.int (own_dr p1)), .val (.int (own_dr p2)), .val (.int (own_dr p3)), .val (.ref b_2), .val (.ref b_20), .val (.ref b_36), .val (.int (8 : Int32)), .unset, .unset] [(.int (Int32.ofNat (own_P ++ own_enc (own_dr p1)).length))]
  refine Runs.istore (ls' := #[.val (.int p0), .val (.int p1), .val (.int p2), .val (.int p3), .val (.int (3 : Int32)), .val (.int (own_dr p1)), .val (.int (own_dr p2)), .val (.int (own_dr p3)), .val (.ref b_2), .val (.ref b_20), .val (.ref b_36), .val (.int (Int32.ofNat (own_P ++ own_enc (own_dr p1)).length)), .unset, .unset]) i0_191 rfl ?_
  refine Runs.iload i0_193 rfl ?_
  refine Runs.iconst (v := (2 : Int32)) i0_195 (by decide) ?_
  refine Runs.icN i0_196 (flt (by decide : ¬ ((3 : Int32) < (2 : Int32)))).1 ?_
  refine Runs.aload i0_199 rfl rfl ?_
  refine Runs.iload i0_201 rfl ?_
  refine Runs.iload i0_203 rfl ?_
  refine Runs.callSW (argsL := [(.ref b_36), (.int (Int32.ofNat (own_P ++ own_enc (own_dr p1)).length)), (.int (own_dr p2))]) (rest := []) (W := 0) i0_205 (w231 hw) (w232 hw) (w2 hw) (w233 hw) (by decide) pd_28 rfl rfl rfl rfl (by decide) (by decide) (by decide) (by decide) (allS (List.mem_of_getElem? (i := 0) rfl) all0) (by decide) (own_putc l Z a0 hw n0 b_36 k_37 (own_P ++ own_enc (own_dr p1)) (own_dr p2) (by have := own_lL1 p1 p2 p3; omega) ge_41 _ A_69) ?_
  intro v h_73 D1 q hsz
  obtain ⟨rfl, K_71, A_72, rfl⟩ := q
  show Runs 1 l Z [("com/example/pacerd/pacerd/run/Outcome", 27), ("java/lang/String", 7)] n0 _ _ _ _ _ _ _ [b_36] h_73 5 40 208 #[.val (.int p0), .val (.int p1), .val (.int p2), .val (.int p3), .val (.int (3 : Int32)), .val (.int (own_dr p1)), .val (.int (own_dr p2)), .val (.int (own_dr p3)), .val (.ref b_2), .val (.ref b_20), .val (.ref b_36), .val (.int (Int32.ofNat (own_P ++ own_enc (own_dr p1)).length)), .unset, .unset] [(.int (Int32.ofNat ((own_P ++ own_enc (own_dr p1)) ++ own_enc (own_dr p2)).length))]
  refine Runs.istore (ls' := #[.val (.int p0), .val (.int p1), .val (.int p2), .val (.int p3), .val (.int (3 : Int32)), .val (.int (own_dr p1)), .val (.int (own_dr p2)), .val (.int (own_dr p3)), .val (.ref b_2), .val (.ref b_20), .val (.ref b_36), .val (.int (Int32.ofNat ((own_P ++ own_enc (own_dr p1)) ++ own_enc (own_dr p2)).length)), .unset, .unset]) i0_208 rfl ?_
  refine Runs.iload i0_210 rfl ?_
  refine Runs.iconst (v := (3 : Int32)) i0_212 (by decide) ?_
  refine Runs.icN i0_213 (flt (by decide : ¬ ((3 : Int32) < (3 : Int32)))).1 ?_
  refine Runs.aload i0_216 rfl rfl ?_
  refine Runs.iload i0_218 rfl ?_
  refine Runs.iload i0_220 rfl ?_
  refine Runs.callSW (argsL := [(.ref b_36), (.int (Int32.ofNat ((own_P ++ own_enc (own_dr p1)) ++ own_enc (own_dr p2)).length)), (.int (own_dr p3))]) (rest := []) (W := 0) i0_222 (w231 hw) (w232 hw) (w2 hw) (w233 hw) (by decide) pd_28 rfl rfl rfl rfl (by decide) (by decide) (by decide) (by decide) (allS (List.mem_of_getElem? (i := 0) rfl) all0) (by decide) (own_putc l Z a0 hw n0 b_36 k_37 ((own_P ++ own_enc (own_dr p1)) ++ own_enc (own_dr p2)) (own_dr p3) (by have := own_lL2 p1 p2 p3; omega) ge_41 _ A_72) ?_
  intro v h_76 D1 q hsz
  obtain ⟨rfl, K_74, A_75, rfl⟩ := q
  show Runs 1 l Z [("com/example/pacerd/pacerd/run/Outcome", 27), ("java/lang/String", 7)] n0 _ _ _ _ _ _ _ [b_36] h_76 5 40 225 #[.val (.int p0), .val (.int p1), .val (.int p2), .val (.int p3), .val (.int (3 : Int32)), .val (.int (own_dr p1)), .val (.int (own_dr p2)), .val (.int (own_dr p3)), .val (.ref b_2), .val (.ref b_20), .val (.ref b_36), .val (.int (Int32.ofNat ((own_P ++ own_enc (own_dr p1)) ++ own_enc (own_dr p2)).length)), .unset, .unset] [(.int (Int32.ofNat (((own_P ++ own_enc (own_dr p1)) ++ own_enc (own_dr p2)) ++ own_enc (own_dr p3)).length))]
  refine Runs.istore (ls' := #[.val (.int p0), .val (.int p1), .val (.int p2), .val (.int p3), .val (.int (3 : Int32)), .val (.int (own_dr p1)), .val (.int (own_dr p2)), .val (.int (own_dr p3)), .val (.ref b_2), .val (.ref b_20), .val (.ref b_36), .val (.int (Int32.ofNat (((own_P ++ own_enc (own_dr p1)) ++ own_enc (own_dr p2)) ++ own_enc (own_dr p3)).length)), .unset, .unset]) i0_225 rfl ?_
  refine Runs.aload i0_227 rfl rfl ?_
  refine Runs.callSW (argsL := [(.ref b_20)]) (rest := []) (W := 0) i0_229 (w28 hw) (w29 hw) (w30 hw) (w31 hw) (by decide) pd_40 rfl rfl rfl rfl (by decide) (by decide) (by decide) (by decide) all0 (by decide) (own_fail l Z a0 hw n0 b_20 t_28 k_29 [(own_dr p1), (own_dr p2), (own_dr p3)] (by simp) (own_aS (own_drc p1).2 (own_aS (own_drc p2).2 (own_aS (own_drc p3).2 own_a0))) _ ((((((((((((S_32.keep K_38 nin0 nin0).keep K_44 (ninS (Nat.ne_of_lt (Nat.lt_of_lt_of_le (Nat.lt_of_lt_of_le ls_b_20.1 (Nat.le_refl _)) g_40)) nin0) (ninS (Nat.ne_of_lt (Nat.lt_of_lt_of_le (Nat.lt_of_lt_of_le ls_b_20.2 (Nat.le_refl _)) g_40)) nin0)).keep K_47 (ninS (Nat.ne_of_lt (Nat.lt_of_lt_of_le (Nat.lt_of_lt_of_le ls_b_20.1 (Nat.le_refl _)) g_40)) nin0) (ninS (Nat.ne_of_lt (Nat.lt_of_lt_of_le (Nat.lt_of_lt_of_le ls_b_20.2 (Nat.le_refl _)) g_40)) nin0)).keep K_50 (ninS (Nat.ne_of_lt (Nat.lt_of_lt_of_le (Nat.lt_of_lt_of_le ls_b_20.1 (Nat.le_refl _)) g_40)) nin0) (ninS (Nat.ne_of_lt (Nat.lt_of_lt_of_le (Nat.lt_of_lt_of_le ls_b_20.2 (Nat.le_refl _)) g_40)) nin0)).keep K_53 (ninS (Nat.ne_of_lt (Nat.lt_of_lt_of_le (Nat.lt_of_lt_of_le ls_b_20.1 (Nat.le_refl _)) g_40)) nin0) (ninS (Nat.ne_of_lt (Nat.lt_of_lt_of_le (Nat.lt_of_lt_of_le ls_b_20.2 (Nat.le_refl _)) g_40)) nin0)).keep K_56 (ninS (Nat.ne_of_lt (Nat.lt_of_lt_of_le (Nat.lt_of_lt_of_le ls_b_20.1 (Nat.le_refl _)) g_40)) nin0) (ninS (Nat.ne_of_lt (Nat.lt_of_lt_of_le (Nat.lt_of_lt_of_le ls_b_20.2 (Nat.le_refl _)) g_40)) nin0)).keep K_59 (ninS (Nat.ne_of_lt (Nat.lt_of_lt_of_le (Nat.lt_of_lt_of_le ls_b_20.1 (Nat.le_refl _)) g_40)) nin0) (ninS (Nat.ne_of_lt (Nat.lt_of_lt_of_le (Nat.lt_of_lt_of_le ls_b_20.2 (Nat.le_refl _)) g_40)) nin0)).keep K_62 (ninS (Nat.ne_of_lt (Nat.lt_of_lt_of_le (Nat.lt_of_lt_of_le ls_b_20.1 (Nat.le_refl _)) g_40)) nin0) (ninS (Nat.ne_of_lt (Nat.lt_of_lt_of_le (Nat.lt_of_lt_of_le ls_b_20.2 (Nat.le_refl _)) g_40)) nin0)).keep K_65 (ninS (Nat.ne_of_lt (Nat.lt_of_lt_of_le (Nat.lt_of_lt_of_le ls_b_20.1 (Nat.le_refl _)) g_40)) nin0) (ninS (Nat.ne_of_lt (Nat.lt_of_lt_of_le (Nat.lt_of_lt_of_le ls_b_20.2 (Nat.le_refl _)) g_40)) nin0)).keep K_68 (ninS (Nat.ne_of_lt (Nat.lt_of_lt_of_le (Nat.lt_of_lt_of_le ls_b_20.1 (Nat.le_refl _)) g_40)) nin0) (ninS (Nat.ne_of_lt (Nat.lt_of_lt_of_le (Nat.lt_of_lt_of_le ls_b_20.2 (Nat.le_refl _)) g_40)) nin0)).keep K_71 (ninS (Nat.ne_of_lt (Nat.lt_of_lt_of_le (Nat.lt_of_lt_of_le ls_b_20.1 (Nat.le_refl _)) g_40)) nin0) (ninS (Nat.ne_of_lt (Nat.lt_of_lt_of_le (Nat.lt_of_lt_of_le ls_b_20.2 (Nat.le_refl _)) g_40)) nin0)).keep K_74 (ninS (Nat.ne_of_lt (Nat.lt_of_lt_of_le (Nat.lt_of_lt_of_le ls_b_20.1 (Nat.le_refl _)) g_40)) nin0) (ninS (Nat.ne_of_lt (Nat.lt_of_lt_of_le (Nat.lt_of_lt_of_le ls_b_20.2 (Nat.le_refl _)) g_40)) nin0)) (Nat.le_trans hn0_1 (Nat.le_trans (Nat.le_trans (Nat.le_trans (Nat.le_trans (Nat.le_trans (Nat.le_trans (Nat.le_trans (Nat.le_trans (Nat.le_trans (Nat.le_trans (Nat.le_trans K_38.1 K_44.1) K_47.1) K_50.1) K_53.1) K_56.1) K_59.1) K_62.1) K_65.1) K_68.1) K_71.1) K_74.1)) cpt S_C hcpt S_A S_H S_L fm hfm S_F u8 S_I S_8 sF S_FAILED) ?_
  intro v h_85 D1 q hsz
  obtain ⟨o_77, b_78, k_79, rfl, g_80, g_81, K_82, O_83, A_84, rfl⟩ := q
  show Runs 1 l Z [("com/example/pacerd/pacerd/run/Outcome", 27), ("java/lang/String", 7)] n0 _ _ _ _ _ _ _ [b_36] h_85 15 360 232 #[.val (.int p0), .val (.int p1), .val (.int p2), .val (.int p3), .val (.int (3 : Int32)), .val (.int (own_dr p1)), .val (.int (own_dr p2)), .val (.int (own_dr p3)), .val (.ref b_2), .val (.ref b_20), .val (.ref b_36), .val (.int (Int32.ofNat (((own_P ++ own_enc (own_dr p1)) ++ own_enc (own_dr p2)) ++ own_enc (own_dr p3)).length)), .unset, .unset] [(.ref o_77)]
  rw [own_eL3 p1 p2 p3] at A_84
  refine Runs.astore (ls' := #[.val (.int p0), .val (.int p1), .val (.int p2), .val (.int p3), .val (.int (3 : Int32)), .val (.int (own_dr p1)), .val (.int (own_dr p2)), .val (.int (own_dr p3)), .val (.ref b_2), .val (.ref b_20), .val (.ref b_36), .val (.int (Int32.ofNat (((own_P ++ own_enc (own_dr p1)) ++ own_enc (own_dr p2)) ++ own_enc (own_dr p3)).length)), .val (.ref o_77), .unset]) i0_232 rfl rfl ?_
  refine Runs.aload i0_234 rfl rfl ?_
  refine Runs.nnullY (t := 241) i0_236 (by decide) ?_
  refine Runs.aload i0_241 rfl rfl ?_
  refine Runs.callVW (argsL := []) (rest := []) (W := 0) i0_243 (w197 hw) (w198 hw) (fun s hZ => notFace_of_selects (args := #[]) (mvT hZ (w200 hw))) (w200 hw) (w199 hw) (w201 hw) (w30 hw) (by decide) O_83.1 pd_41 rfl rfl rfl rfl (by decide) (by decide) (by decide) (by decide) all0 (by decide) (own_g_status l Z a0 hw n0 o_77 (.ref sF) rfl _ (O_83.fld (i := 0) rfl)) ?_
  intro v h1 D1 q hsz
  obtain ⟨rfl, rfl, rfl⟩ := q
  show Runs 1 l Z [("com/example/pacerd/pacerd/run/Outcome", 27), ("java/lang/String", 7)] n0 _ _ _ _ _ _ _ [b_36] h_85 15 360 246 #[.val (.int p0), .val (.int p1), .val (.int p2), .val (.int p3), .val (.int (3 : Int32)), .val (.int (own_dr p1)), .val (.int (own_dr p2)), .val (.int (own_dr p3)), .val (.ref b_2), .val (.ref b_20), .val (.ref b_36), .val (.int (Int32.ofNat (((own_P ++ own_enc (own_dr p1)) ++ own_enc (own_dr p2)) ++ own_enc (own_dr p3)).length)), .val (.ref o_77), .unset] [(.ref sF)]
  refine Runs.getS i0_246 (w202 hw) Via.refl S_FAILED ?_
  refine Runs.acY (t := 254) i0_249 (by decide) rfl rfl (Jvm.Free.XT.aa_eq_t (congrArg Value.ref rfl)) ?_
  refine Runs.aload i0_254 rfl rfl ?_
  refine Runs.callVW (argsL := []) (rest := []) (W := 0) i0_256 (w203 hw) (w204 hw) (fun s hZ => notFace_of_selects (args := #[]) (mvT hZ (w206 hw))) (w206 hw) (w205 hw) (w207 hw) (w30 hw) (by decide) O_83.1 pd_42 rfl rfl rfl rfl (by decide) (by decide) (by decide) (by decide) all0 (by decide) (own_g_exitCode l Z a0 hw n0 o_77 .null rfl _ (O_83.fld (i := 1) rfl)) ?_
  intro v h1 D1 q hsz
  obtain ⟨rfl, rfl, rfl⟩ := q
  show Runs 1 l Z [("com/example/pacerd/pacerd/run/Outcome", 27), ("java/lang/String", 7)] n0 _ _ _ _ _ _ _ [b_36] h_85 15 360 259 #[.val (.int p0), .val (.int p1), .val (.int p2), .val (.int p3), .val (.int (3 : Int32)), .val (.int (own_dr p1)), .val (.int (own_dr p2)), .val (.int (own_dr p3)), .val (.ref b_2), .val (.ref b_20), .val (.ref b_36), .val (.int (Int32.ofNat (((own_P ++ own_enc (own_dr p1)) ++ own_enc (own_dr p2)) ++ own_enc (own_dr p3)).length)), .val (.ref o_77), .unset] [.null]
  refine Runs.nnullN i0_259 ?_
  refine Runs.aload i0_262 rfl rfl ?_
  refine Runs.callVW (argsL := []) (rest := []) (W := 0) i0_264 (w208 hw) (w209 hw) (fun s hZ => notFace_of_selects (args := #[]) (mvT hZ (w211 hw))) (w211 hw) (w210 hw) (w212 hw) (w30 hw) (by decide) O_83.1 pd_42 rfl rfl rfl rfl (by decide) (by decide) (by decide) (by decide) all0 (by decide) (own_g_httpStatus l Z a0 hw n0 o_77 .null rfl _ (O_83.fld (i := 2) rfl)) ?_
  intro v h1 D1 q hsz
  obtain ⟨rfl, rfl, rfl⟩ := q
  show Runs 1 l Z [("com/example/pacerd/pacerd/run/Outcome", 27), ("java/lang/String", 7)] n0 _ _ _ _ _ _ _ [b_36] h_85 15 360 267 #[.val (.int p0), .val (.int p1), .val (.int p2), .val (.int p3), .val (.int (3 : Int32)), .val (.int (own_dr p1)), .val (.int (own_dr p2)), .val (.int (own_dr p3)), .val (.ref b_2), .val (.ref b_20), .val (.ref b_36), .val (.int (Int32.ofNat (((own_P ++ own_enc (own_dr p1)) ++ own_enc (own_dr p2)) ++ own_enc (own_dr p3)).length)), .val (.ref o_77), .unset] [.null]
  refine Runs.nullY (t := 272) i0_267 (by decide) ?_
  refine Runs.aload i0_272 rfl rfl ?_
  refine Runs.callVW (argsL := []) (rest := []) (W := 0) i0_274 (w213 hw) (w214 hw) (fun s hZ => notFace_of_selects (args := #[]) (mvT hZ (w216 hw))) (w216 hw) (w215 hw) (w217 hw) (w30 hw) (by decide) O_83.1 pd_25 rfl rfl rfl rfl (by decide) (by decide) (by decide) (by decide) all0 (by decide) (own_g_output l Z a0 hw n0 o_77 (.ref b_78) rfl _ (O_83.fld (i := 3) rfl)) ?_
  intro v h1 D1 q hsz
  obtain ⟨rfl, rfl, rfl⟩ := q
  show Runs 1 l Z [("com/example/pacerd/pacerd/run/Outcome", 27), ("java/lang/String", 7)] n0 _ _ _ _ _ _ _ [b_36] h_85 15 360 277 #[.val (.int p0), .val (.int p1), .val (.int p2), .val (.int p3), .val (.int (3 : Int32)), .val (.int (own_dr p1)), .val (.int (own_dr p2)), .val (.int (own_dr p3)), .val (.ref b_2), .val (.ref b_20), .val (.ref b_36), .val (.int (Int32.ofNat (((own_P ++ own_enc (own_dr p1)) ++ own_enc (own_dr p2)) ++ own_enc (own_dr p3)).length)), .val (.ref o_77), .unset] [(.ref b_78)]
  refine Runs.astore (ls' := #[.val (.int p0), .val (.int p1), .val (.int p2), .val (.int p3), .val (.int (3 : Int32)), .val (.int (own_dr p1)), .val (.int (own_dr p2)), .val (.int (own_dr p3)), .val (.ref b_2), .val (.ref b_20), .val (.ref b_36), .val (.int (Int32.ofNat (((own_P ++ own_enc (own_dr p1)) ++ own_enc (own_dr p2)) ++ own_enc (own_dr p3)).length)), .val (.ref o_77), .val (.ref b_78)]) i0_277 rfl rfl ?_
  refine Runs.aload i0_279 rfl rfl ?_
  refine Runs.nullN i0_281 ?_
  refine Runs.aload i0_284 rfl rfl ?_
  refine Runs.arrlen i0_286 A_84 ?_
  refine Runs.iload i0_287 rfl ?_
  refine Runs.icY (t := 294) i0_289 (by decide) (teq (rfl : (Int32.ofNat (((own_P ++ own_enc (own_dr p1)) ++ own_enc (own_dr p2)) ++ own_enc (own_dr p3)).length) = (Int32.ofNat (((own_P ++ own_enc (own_dr p1)) ++ own_enc (own_dr p2)) ++ own_enc (own_dr p3)).length))).1 ?_
  refine Runs.aload i0_294 rfl rfl ?_
  refine Runs.aload i0_296 rfl rfl ?_
  refine Runs.iload i0_298 rfl ?_
  refine Runs.iconst (v := (0 : Int32)) i0_300 (by decide) ?_
  have A_86 := (A_75.keep K_82 nin0)
  refine Runs.callSW (argsL := [(.ref b_78), (.ref b_36), (.int (Int32.ofNat (((own_P ++ own_enc (own_dr p1)) ++ own_enc (own_dr p2)) ++ own_enc (own_dr p3)).length)), (.int (0 : Int32))]) (rest := []) (W := 0) i0_301 (w218 hw) (w219 hw) (w2 hw) (w220 hw) (by decide) pd_43 rfl rfl rfl rfl (by decide) (by decide) (by decide) (by decide) all0 (by decide) (own_eqc l Z a0 hw n0 b_78 b_36 k_79 k_37 (((own_P ++ own_enc (own_dr p1)) ++ own_enc (own_dr p2)) ++ own_enc (own_dr p3)) (by have := own_lL3 p1 p2 p3; omega) 0 (by decide) _ A_84 A_86) ?_
  intro v h1 D1 q hsz
  obtain ⟨rfl, rfl, rfl⟩ := q
  show Runs 1 l Z [("com/example/pacerd/pacerd/run/Outcome", 27), ("java/lang/String", 7)] n0 _ _ _ _ _ _ _ [b_36] h_85 15 360 304 #[.val (.int p0), .val (.int p1), .val (.int p2), .val (.int p3), .val (.int (3 : Int32)), .val (.int (own_dr p1)), .val (.int (own_dr p2)), .val (.int (own_dr p3)), .val (.ref b_2), .val (.ref b_20), .val (.ref b_36), .val (.int (Int32.ofNat (((own_P ++ own_enc (own_dr p1)) ++ own_enc (own_dr p2)) ++ own_enc (own_dr p3)).length)), .val (.ref o_77), .val (.ref b_78)] [(.int (1 : Int32))]
  refine Runs.ifN i0_304 (feq (by decide : ¬ ((1 : Int32) = (0 : Int32)))).1 ?_
  refine Runs.aload i0_307 rfl rfl ?_
  refine Runs.aload i0_309 rfl rfl ?_
  refine Runs.iload i0_311 rfl ?_
  refine Runs.iconst (v := (1 : Int32)) i0_313 (by decide) ?_
  refine Runs.callSW (argsL := [(.ref b_78), (.ref b_36), (.int (Int32.ofNat (((own_P ++ own_enc (own_dr p1)) ++ own_enc (own_dr p2)) ++ own_enc (own_dr p3)).length)), (.int (1 : Int32))]) (rest := []) (W := 0) i0_314 (w218 hw) (w219 hw) (w2 hw) (w220 hw) (by decide) pd_43 rfl rfl rfl rfl (by decide) (by decide) (by decide) (by decide) all0 (by decide) (own_eqc l Z a0 hw n0 b_78 b_36 k_79 k_37 (((own_P ++ own_enc (own_dr p1)) ++ own_enc (own_dr p2)) ++ own_enc (own_dr p3)) (by have := own_lL3 p1 p2 p3; omega) 1 (by decide) _ A_84 A_86) ?_
  intro v h1 D1 q hsz
  obtain ⟨rfl, rfl, rfl⟩ := q
  show Runs 1 l Z [("com/example/pacerd/pacerd/run/Outcome", 27), ("java/lang/String", 7)] n0 _ _ _ _ _ _ _ [b_36] h_85 15 360 317 #[.val (.int p0), .val (.int p1), .val (.int p2), .val (.int p3), .val (.int (3 : Int32)), .val (.int (own_dr p1)), .val (.int (own_dr p2)), .val (.int (own_dr p3)), .val (.ref b_2), .val (.ref b_20), .val (.ref b_36), .val (.int (Int32.ofNat (((own_P ++ own_enc (own_dr p1)) ++ own_enc (own_dr p2)) ++ own_enc (own_dr p3)).length)), .val (.ref o_77), .val (.ref b_78)] [(.int (1 : Int32))]
  refine Runs.ifN i0_317 (feq (by decide : ¬ ((1 : Int32) = (0 : Int32)))).1 ?_
  refine Runs.aload i0_320 rfl rfl ?_
  refine Runs.aload i0_322 rfl rfl ?_
  refine Runs.iload i0_324 rfl ?_
  refine Runs.iconst (v := (2 : Int32)) i0_326 (by decide) ?_
  refine Runs.callSW (argsL := [(.ref b_78), (.ref b_36), (.int (Int32.ofNat (((own_P ++ own_enc (own_dr p1)) ++ own_enc (own_dr p2)) ++ own_enc (own_dr p3)).length)), (.int (2 : Int32))]) (rest := []) (W := 0) i0_327 (w218 hw) (w219 hw) (w2 hw) (w220 hw) (by decide) pd_43 rfl rfl rfl rfl (by decide) (by decide) (by decide) (by decide) all0 (by decide) (own_eqc l Z a0 hw n0 b_78 b_36 k_79 k_37 (((own_P ++ own_enc (own_dr p1)) ++ own_enc (own_dr p2)) ++ own_enc (own_dr p3)) (by have := own_lL3 p1 p2 p3; omega) 2 (by decide) _ A_84 A_86) ?_
  intro v h1 D1 q hsz
  obtain ⟨rfl, rfl, rfl⟩ := q
  show Runs 1 l Z [("com/example/pacerd/pacerd/run/Outcome", 27), ("java/lang/String", 7)] n0 _ _ _ _ _ _ _ [b_36] h_85 15 360 330 #[.val (.int p0), .val (.int p1), .val (.int p2), .val (.int p3), .val (.int (3 : Int32)), .val (.int (own_dr p1)), .val (.int (own_dr p2)), .val (.int (own_dr p3)), .val (.ref b_2), .val (.ref b_20), .val (.ref b_36), .val (.int (Int32.ofNat (((own_P ++ own_enc (own_dr p1)) ++ own_enc (own_dr p2)) ++ own_enc (own_dr p3)).length)), .val (.ref o_77), .val (.ref b_78)] [(.int (1 : Int32))]
  refine Runs.ifN i0_330 (feq (by decide : ¬ ((1 : Int32) = (0 : Int32)))).1 ?_
  refine Runs.aload i0_333 rfl rfl ?_
  refine Runs.aload i0_335 rfl rfl ?_
  refine Runs.iload i0_337 rfl ?_
  refine Runs.iconst (v := (3 : Int32)) i0_339 (by decide) ?_
  refine Runs.callSW (argsL := [(.ref b_78), (.ref b_36), (.int (Int32.ofNat (((own_P ++ own_enc (own_dr p1)) ++ own_enc (own_dr p2)) ++ own_enc (own_dr p3)).length)), (.int (3 : Int32))]) (rest := []) (W := 0) i0_340 (w218 hw) (w219 hw) (w2 hw) (w220 hw) (by decide) pd_43 rfl rfl rfl rfl (by decide) (by decide) (by decide) (by decide) all0 (by decide) (own_eqc l Z a0 hw n0 b_78 b_36 k_79 k_37 (((own_P ++ own_enc (own_dr p1)) ++ own_enc (own_dr p2)) ++ own_enc (own_dr p3)) (by have := own_lL3 p1 p2 p3; omega) 3 (by decide) _ A_84 A_86) ?_
  intro v h1 D1 q hsz
  obtain ⟨rfl, rfl, rfl⟩ := q
  show Runs 1 l Z [("com/example/pacerd/pacerd/run/Outcome", 27), ("java/lang/String", 7)] n0 _ _ _ _ _ _ _ [b_36] h_85 15 360 343 #[.val (.int p0), .val (.int p1), .val (.int p2), .val (.int p3), .val (.int (3 : Int32)), .val (.int (own_dr p1)), .val (.int (own_dr p2)), .val (.int (own_dr p3)), .val (.ref b_2), .val (.ref b_20), .val (.ref b_36), .val (.int (Int32.ofNat (((own_P ++ own_enc (own_dr p1)) ++ own_enc (own_dr p2)) ++ own_enc (own_dr p3)).length)), .val (.ref o_77), .val (.ref b_78)] [(.int (1 : Int32))]
  refine Runs.ifN i0_343 (feq (by decide : ¬ ((1 : Int32) = (0 : Int32)))).1 ?_
  refine Runs.aload i0_346 rfl rfl ?_
  refine Runs.aload i0_348 rfl rfl ?_
  refine Runs.iload i0_350 rfl ?_
  refine Runs.iconst (v := (4 : Int32)) i0_352 (by decide) ?_
  refine Runs.callSW (argsL := [(.ref b_78), (.ref b_36), (.int (Int32.ofNat (((own_P ++ own_enc (own_dr p1)) ++ own_enc (own_dr p2)) ++ own_enc (own_dr p3)).length)), (.int (4 : Int32))]) (rest := []) (W := 0) i0_353 (w218 hw) (w219 hw) (w2 hw) (w220 hw) (by decide) pd_43 rfl rfl rfl rfl (by decide) (by decide) (by decide) (by decide) all0 (by decide) (own_eqc l Z a0 hw n0 b_78 b_36 k_79 k_37 (((own_P ++ own_enc (own_dr p1)) ++ own_enc (own_dr p2)) ++ own_enc (own_dr p3)) (by have := own_lL3 p1 p2 p3; omega) 4 (by decide) _ A_84 A_86) ?_
  intro v h1 D1 q hsz
  obtain ⟨rfl, rfl, rfl⟩ := q
  show Runs 1 l Z [("com/example/pacerd/pacerd/run/Outcome", 27), ("java/lang/String", 7)] n0 _ _ _ _ _ _ _ [b_36] h_85 15 360 356 #[.val (.int p0), .val (.int p1), .val (.int p2), .val (.int p3), .val (.int (3 : Int32)), .val (.int (own_dr p1)), .val (.int (own_dr p2)), .val (.int (own_dr p3)), .val (.ref b_2), .val (.ref b_20), .val (.ref b_36), .val (.int (Int32.ofNat (((own_P ++ own_enc (own_dr p1)) ++ own_enc (own_dr p2)) ++ own_enc (own_dr p3)).length)), .val (.ref o_77), .val (.ref b_78)] [(.int (1 : Int32))]
  refine Runs.ifN i0_356 (feq (by decide : ¬ ((1 : Int32) = (0 : Int32)))).1 ?_
  refine Runs.aload i0_359 rfl rfl ?_
  refine Runs.aload i0_361 rfl rfl ?_
  refine Runs.iload i0_363 rfl ?_
  refine Runs.iconst (v := (5 : Int32)) i0_365 (by decide) ?_
  refine Runs.callSW (argsL := [(.ref b_78), (.ref b_36), (.int (Int32.ofNat (((own_P ++ own_enc (own_dr p1)) ++ own_enc (own_dr p2)) ++ own_enc (own_dr p3)).length)), (.int (5 : Int32))]) (rest := []) (W := 0) i0_366 (w218 hw) (w219 hw) (w2 hw) (w220 hw) (by decide) pd_43 rfl rfl rfl rfl (by decide) (by decide) (by decide) (by decide) all0 (by decide) (own_eqc l Z a0 hw n0 b_78 b_36 k_79 k_37 (((own_P ++ own_enc (own_dr p1)) ++ own_enc (own_dr p2)) ++ own_enc (own_dr p3)) (by have := own_lL3 p1 p2 p3; omega) 5 (by decide) _ A_84 A_86) ?_
  intro v h1 D1 q hsz
  obtain ⟨rfl, rfl, rfl⟩ := q
  show Runs 1 l Z [("com/example/pacerd/pacerd/run/Outcome", 27), ("java/lang/String", 7)] n0 _ _ _ _ _ _ _ [b_36] h_85 15 360 369 #[.val (.int p0), .val (.int p1), .val (.int p2), .val (.int p3), .val (.int (3 : Int32)), .val (.int (own_dr p1)), .val (.int (own_dr p2)), .val (.int (own_dr p3)), .val (.ref b_2), .val (.ref b_20), .val (.ref b_36), .val (.int (Int32.ofNat (((own_P ++ own_enc (own_dr p1)) ++ own_enc (own_dr p2)) ++ own_enc (own_dr p3)).length)), .val (.ref o_77), .val (.ref b_78)] [(.int (1 : Int32))]
  refine Runs.ifN i0_369 (feq (by decide : ¬ ((1 : Int32) = (0 : Int32)))).1 ?_
  refine Runs.aload i0_372 rfl rfl ?_
  refine Runs.aload i0_374 rfl rfl ?_
  refine Runs.iload i0_376 rfl ?_
  refine Runs.bipush (v := (6 : Int32)) i0_378 (by decide) ?_
  refine Runs.callSW (argsL := [(.ref b_78), (.ref b_36), (.int (Int32.ofNat (((own_P ++ own_enc (own_dr p1)) ++ own_enc (own_dr p2)) ++ own_enc (own_dr p3)).length)), (.int (6 : Int32))]) (rest := []) (W := 0) i0_380 (w218 hw) (w219 hw) (w2 hw) (w220 hw) (by decide) pd_43 rfl rfl rfl rfl (by decide) (by decide) (by decide) (by decide) all0 (by decide) (own_eqc l Z a0 hw n0 b_78 b_36 k_79 k_37 (((own_P ++ own_enc (own_dr p1)) ++ own_enc (own_dr p2)) ++ own_enc (own_dr p3)) (by have := own_lL3 p1 p2 p3; omega) 6 (by decide) _ A_84 A_86) ?_
  intro v h1 D1 q hsz
  obtain ⟨rfl, rfl, rfl⟩ := q
  show Runs 1 l Z [("com/example/pacerd/pacerd/run/Outcome", 27), ("java/lang/String", 7)] n0 _ _ _ _ _ _ _ [b_36] h_85 15 360 383 #[.val (.int p0), .val (.int p1), .val (.int p2), .val (.int p3), .val (.int (3 : Int32)), .val (.int (own_dr p1)), .val (.int (own_dr p2)), .val (.int (own_dr p3)), .val (.ref b_2), .val (.ref b_20), .val (.ref b_36), .val (.int (Int32.ofNat (((own_P ++ own_enc (own_dr p1)) ++ own_enc (own_dr p2)) ++ own_enc (own_dr p3)).length)), .val (.ref o_77), .val (.ref b_78)] [(.int (1 : Int32))]
  refine Runs.ifN i0_383 (feq (by decide : ¬ ((1 : Int32) = (0 : Int32)))).1 ?_
  refine Runs.aload i0_386 rfl rfl ?_
  refine Runs.aload i0_388 rfl rfl ?_
  refine Runs.iload i0_390 rfl ?_
  refine Runs.bipush (v := (7 : Int32)) i0_392 (by decide) ?_
  refine Runs.callSW (argsL := [(.ref b_78), (.ref b_36), (.int (Int32.ofNat (((own_P ++ own_enc (own_dr p1)) ++ own_enc (own_dr p2)) ++ own_enc (own_dr p3)).length)), (.int (7 : Int32))]) (rest := []) (W := 0) i0_394 (w218 hw) (w219 hw) (w2 hw) (w220 hw) (by decide) pd_43 rfl rfl rfl rfl (by decide) (by decide) (by decide) (by decide) all0 (by decide) (own_eqc l Z a0 hw n0 b_78 b_36 k_79 k_37 (((own_P ++ own_enc (own_dr p1)) ++ own_enc (own_dr p2)) ++ own_enc (own_dr p3)) (by have := own_lL3 p1 p2 p3; omega) 7 (by decide) _ A_84 A_86) ?_
  intro v h1 D1 q hsz
  obtain ⟨rfl, rfl, rfl⟩ := q
  show Runs 1 l Z [("com/example/pacerd/pacerd/run/Outcome", 27), ("java/lang/String", 7)] n0 _ _ _ _ _ _ _ [b_36] h_85 15 360 397 #[.val (.int p0), .val (.int p1), .val (.int p2), .val (.int p3), .val (.int (3 : Int32)), .val (.int (own_dr p1)), .val (.int (own_dr p2)), .val (.int (own_dr p3)), .val (.ref b_2), .val (.ref b_20), .val (.ref b_36), .val (.int (Int32.ofNat (((own_P ++ own_enc (own_dr p1)) ++ own_enc (own_dr p2)) ++ own_enc (own_dr p3)).length)), .val (.ref o_77), .val (.ref b_78)] [(.int (1 : Int32))]
  refine Runs.ifN i0_397 (feq (by decide : ¬ ((1 : Int32) = (0 : Int32)))).1 ?_
  refine Runs.aload i0_400 rfl rfl ?_
  refine Runs.aload i0_402 rfl rfl ?_
  refine Runs.iload i0_404 rfl ?_
  refine Runs.bipush (v := (8 : Int32)) i0_406 (by decide) ?_
  refine Runs.callSW (argsL := [(.ref b_78), (.ref b_36), (.int (Int32.ofNat (((own_P ++ own_enc (own_dr p1)) ++ own_enc (own_dr p2)) ++ own_enc (own_dr p3)).length)), (.int (8 : Int32))]) (rest := []) (W := 0) i0_408 (w218 hw) (w219 hw) (w2 hw) (w220 hw) (by decide) pd_43 rfl rfl rfl rfl (by decide) (by decide) (by decide) (by decide) all0 (by decide) (own_eqc l Z a0 hw n0 b_78 b_36 k_79 k_37 (((own_P ++ own_enc (own_dr p1)) ++ own_enc (own_dr p2)) ++ own_enc (own_dr p3)) (by have := own_lL3 p1 p2 p3; omega) 8 (by decide) _ A_84 A_86) ?_
  intro v h1 D1 q hsz
  obtain ⟨rfl, rfl, rfl⟩ := q
  show Runs 1 l Z [("com/example/pacerd/pacerd/run/Outcome", 27), ("java/lang/String", 7)] n0 _ _ _ _ _ _ _ [b_36] h_85 15 360 411 #[.val (.int p0), .val (.int p1), .val (.int p2), .val (.int p3), .val (.int (3 : Int32)), .val (.int (own_dr p1)), .val (.int (own_dr p2)), .val (.int (own_dr p3)), .val (.ref b_2), .val (.ref b_20), .val (.ref b_36), .val (.int (Int32.ofNat (((own_P ++ own_enc (own_dr p1)) ++ own_enc (own_dr p2)) ++ own_enc (own_dr p3)).length)), .val (.ref o_77), .val (.ref b_78)] [(.int (1 : Int32))]
  refine Runs.ifN i0_411 (feq (by decide : ¬ ((1 : Int32) = (0 : Int32)))).1 ?_
  refine Runs.aload i0_414 rfl rfl ?_
  refine Runs.aload i0_416 rfl rfl ?_
  refine Runs.iload i0_418 rfl ?_
  refine Runs.bipush (v := (9 : Int32)) i0_420 (by decide) ?_
  refine Runs.callSW (argsL := [(.ref b_78), (.ref b_36), (.int (Int32.ofNat (((own_P ++ own_enc (own_dr p1)) ++ own_enc (own_dr p2)) ++ own_enc (own_dr p3)).length)), (.int (9 : Int32))]) (rest := []) (W := 0) i0_422 (w218 hw) (w219 hw) (w2 hw) (w220 hw) (by decide) pd_43 rfl rfl rfl rfl (by decide) (by decide) (by decide) (by decide) all0 (by decide) (own_eqc l Z a0 hw n0 b_78 b_36 k_79 k_37 (((own_P ++ own_enc (own_dr p1)) ++ own_enc (own_dr p2)) ++ own_enc (own_dr p3)) (by have := own_lL3 p1 p2 p3; omega) 9 (by decide) _ A_84 A_86) ?_
  intro v h1 D1 q hsz
  obtain ⟨rfl, rfl, rfl⟩ := q
  show Runs 1 l Z [("com/example/pacerd/pacerd/run/Outcome", 27), ("java/lang/String", 7)] n0 _ _ _ _ _ _ _ [b_36] h_85 15 360 425 #[.val (.int p0), .val (.int p1), .val (.int p2), .val (.int p3), .val (.int (3 : Int32)), .val (.int (own_dr p1)), .val (.int (own_dr p2)), .val (.int (own_dr p3)), .val (.ref b_2), .val (.ref b_20), .val (.ref b_36), .val (.int (Int32.ofNat (((own_P ++ own_enc (own_dr p1)) ++ own_enc (own_dr p2)) ++ own_enc (own_dr p3)).length)), .val (.ref o_77), .val (.ref b_78)] [(.int (1 : Int32))]
  refine Runs.ifN i0_425 (feq (by decide : ¬ ((1 : Int32) = (0 : Int32)))).1 ?_
  refine Runs.aload i0_428 rfl rfl ?_
  refine Runs.aload i0_430 rfl rfl ?_
  refine Runs.iload i0_432 rfl ?_
  refine Runs.bipush (v := (10 : Int32)) i0_434 (by decide) ?_
  refine Runs.callSW (argsL := [(.ref b_78), (.ref b_36), (.int (Int32.ofNat (((own_P ++ own_enc (own_dr p1)) ++ own_enc (own_dr p2)) ++ own_enc (own_dr p3)).length)), (.int (10 : Int32))]) (rest := []) (W := 0) i0_436 (w218 hw) (w219 hw) (w2 hw) (w220 hw) (by decide) pd_43 rfl rfl rfl rfl (by decide) (by decide) (by decide) (by decide) all0 (by decide) (own_eqc l Z a0 hw n0 b_78 b_36 k_79 k_37 (((own_P ++ own_enc (own_dr p1)) ++ own_enc (own_dr p2)) ++ own_enc (own_dr p3)) (by have := own_lL3 p1 p2 p3; omega) 10 (by decide) _ A_84 A_86) ?_
  intro v h1 D1 q hsz
  obtain ⟨rfl, rfl, rfl⟩ := q
  show Runs 1 l Z [("com/example/pacerd/pacerd/run/Outcome", 27), ("java/lang/String", 7)] n0 _ _ _ _ _ _ _ [b_36] h_85 15 360 439 #[.val (.int p0), .val (.int p1), .val (.int p2), .val (.int p3), .val (.int (3 : Int32)), .val (.int (own_dr p1)), .val (.int (own_dr p2)), .val (.int (own_dr p3)), .val (.ref b_2), .val (.ref b_20), .val (.ref b_36), .val (.int (Int32.ofNat (((own_P ++ own_enc (own_dr p1)) ++ own_enc (own_dr p2)) ++ own_enc (own_dr p3)).length)), .val (.ref o_77), .val (.ref b_78)] [(.int (1 : Int32))]
  refine Runs.ifN i0_439 (feq (by decide : ¬ ((1 : Int32) = (0 : Int32)))).1 ?_
  refine Runs.aload i0_442 rfl rfl ?_
  refine Runs.aload i0_444 rfl rfl ?_
  refine Runs.iload i0_446 rfl ?_
  refine Runs.bipush (v := (11 : Int32)) i0_448 (by decide) ?_
  refine Runs.callSW (argsL := [(.ref b_78), (.ref b_36), (.int (Int32.ofNat (((own_P ++ own_enc (own_dr p1)) ++ own_enc (own_dr p2)) ++ own_enc (own_dr p3)).length)), (.int (11 : Int32))]) (rest := []) (W := 0) i0_450 (w218 hw) (w219 hw) (w2 hw) (w220 hw) (by decide) pd_43 rfl rfl rfl rfl (by decide) (by decide) (by decide) (by decide) all0 (by decide) (own_eqc l Z a0 hw n0 b_78 b_36 k_79 k_37 (((own_P ++ own_enc (own_dr p1)) ++ own_enc (own_dr p2)) ++ own_enc (own_dr p3)) (by have := own_lL3 p1 p2 p3; omega) 11 (by decide) _ A_84 A_86) ?_
  intro v h1 D1 q hsz
  obtain ⟨rfl, rfl, rfl⟩ := q
  show Runs 1 l Z [("com/example/pacerd/pacerd/run/Outcome", 27), ("java/lang/String", 7)] n0 _ _ _ _ _ _ _ [b_36] h_85 15 360 453 #[.val (.int p0), .val (.int p1), .val (.int p2), .val (.int p3), .val (.int (3 : Int32)), .val (.int (own_dr p1)), .val (.int (own_dr p2)), .val (.int (own_dr p3)), .val (.ref b_2), .val (.ref b_20), .val (.ref b_36), .val (.int (Int32.ofNat (((own_P ++ own_enc (own_dr p1)) ++ own_enc (own_dr p2)) ++ own_enc (own_dr p3)).length)), .val (.ref o_77), .val (.ref b_78)] [(.int (1 : Int32))]
  refine Runs.ifN i0_453 (feq (by decide : ¬ ((1 : Int32) = (0 : Int32)))).1 ?_
  refine Runs.aload i0_456 rfl rfl ?_
  refine Runs.aload i0_458 rfl rfl ?_
  refine Runs.iload i0_460 rfl ?_
  refine Runs.bipush (v := (12 : Int32)) i0_462 (by decide) ?_
  refine Runs.callSW (argsL := [(.ref b_78), (.ref b_36), (.int (Int32.ofNat (((own_P ++ own_enc (own_dr p1)) ++ own_enc (own_dr p2)) ++ own_enc (own_dr p3)).length)), (.int (12 : Int32))]) (rest := []) (W := 0) i0_464 (w218 hw) (w219 hw) (w2 hw) (w220 hw) (by decide) pd_43 rfl rfl rfl rfl (by decide) (by decide) (by decide) (by decide) all0 (by decide) (own_eqc l Z a0 hw n0 b_78 b_36 k_79 k_37 (((own_P ++ own_enc (own_dr p1)) ++ own_enc (own_dr p2)) ++ own_enc (own_dr p3)) (by have := own_lL3 p1 p2 p3; omega) 12 (by decide) _ A_84 A_86) ?_
  intro v h1 D1 q hsz
  obtain ⟨rfl, rfl, rfl⟩ := q
  show Runs 1 l Z [("com/example/pacerd/pacerd/run/Outcome", 27), ("java/lang/String", 7)] n0 _ _ _ _ _ _ _ [b_36] h_85 15 360 467 #[.val (.int p0), .val (.int p1), .val (.int p2), .val (.int p3), .val (.int (3 : Int32)), .val (.int (own_dr p1)), .val (.int (own_dr p2)), .val (.int (own_dr p3)), .val (.ref b_2), .val (.ref b_20), .val (.ref b_36), .val (.int (Int32.ofNat (((own_P ++ own_enc (own_dr p1)) ++ own_enc (own_dr p2)) ++ own_enc (own_dr p3)).length)), .val (.ref o_77), .val (.ref b_78)] [(.int (1 : Int32))]
  refine Runs.ifN i0_467 (feq (by decide : ¬ ((1 : Int32) = (0 : Int32)))).1 ?_
  refine Runs.aload i0_470 rfl rfl ?_
  refine Runs.aload i0_472 rfl rfl ?_
  refine Runs.iload i0_474 rfl ?_
  refine Runs.bipush (v := (13 : Int32)) i0_476 (by decide) ?_
  refine Runs.callSW (argsL := [(.ref b_78), (.ref b_36), (.int (Int32.ofNat (((own_P ++ own_enc (own_dr p1)) ++ own_enc (own_dr p2)) ++ own_enc (own_dr p3)).length)), (.int (13 : Int32))]) (rest := []) (W := 0) i0_478 (w218 hw) (w219 hw) (w2 hw) (w220 hw) (by decide) pd_43 rfl rfl rfl rfl (by decide) (by decide) (by decide) (by decide) all0 (by decide) (own_eqc l Z a0 hw n0 b_78 b_36 k_79 k_37 (((own_P ++ own_enc (own_dr p1)) ++ own_enc (own_dr p2)) ++ own_enc (own_dr p3)) (by have := own_lL3 p1 p2 p3; omega) 13 (by decide) _ A_84 A_86) ?_
  intro v h1 D1 q hsz
  obtain ⟨rfl, rfl, rfl⟩ := q
  show Runs 1 l Z [("com/example/pacerd/pacerd/run/Outcome", 27), ("java/lang/String", 7)] n0 _ _ _ _ _ _ _ [b_36] h_85 15 360 481 #[.val (.int p0), .val (.int p1), .val (.int p2), .val (.int p3), .val (.int (3 : Int32)), .val (.int (own_dr p1)), .val (.int (own_dr p2)), .val (.int (own_dr p3)), .val (.ref b_2), .val (.ref b_20), .val (.ref b_36), .val (.int (Int32.ofNat (((own_P ++ own_enc (own_dr p1)) ++ own_enc (own_dr p2)) ++ own_enc (own_dr p3)).length)), .val (.ref o_77), .val (.ref b_78)] [(.int (1 : Int32))]
  refine Runs.ifN i0_481 (feq (by decide : ¬ ((1 : Int32) = (0 : Int32)))).1 ?_
  refine Runs.aload i0_484 rfl rfl ?_
  refine Runs.aload i0_486 rfl rfl ?_
  refine Runs.iload i0_488 rfl ?_
  refine Runs.bipush (v := (14 : Int32)) i0_490 (by decide) ?_
  refine Runs.callSW (argsL := [(.ref b_78), (.ref b_36), (.int (Int32.ofNat (((own_P ++ own_enc (own_dr p1)) ++ own_enc (own_dr p2)) ++ own_enc (own_dr p3)).length)), (.int (14 : Int32))]) (rest := []) (W := 0) i0_492 (w218 hw) (w219 hw) (w2 hw) (w220 hw) (by decide) pd_43 rfl rfl rfl rfl (by decide) (by decide) (by decide) (by decide) all0 (by decide) (own_eqc l Z a0 hw n0 b_78 b_36 k_79 k_37 (((own_P ++ own_enc (own_dr p1)) ++ own_enc (own_dr p2)) ++ own_enc (own_dr p3)) (by have := own_lL3 p1 p2 p3; omega) 14 (by decide) _ A_84 A_86) ?_
  intro v h1 D1 q hsz
  obtain ⟨rfl, rfl, rfl⟩ := q
  show Runs 1 l Z [("com/example/pacerd/pacerd/run/Outcome", 27), ("java/lang/String", 7)] n0 _ _ _ _ _ _ _ [b_36] h_85 15 360 495 #[.val (.int p0), .val (.int p1), .val (.int p2), .val (.int p3), .val (.int (3 : Int32)), .val (.int (own_dr p1)), .val (.int (own_dr p2)), .val (.int (own_dr p3)), .val (.ref b_2), .val (.ref b_20), .val (.ref b_36), .val (.int (Int32.ofNat (((own_P ++ own_enc (own_dr p1)) ++ own_enc (own_dr p2)) ++ own_enc (own_dr p3)).length)), .val (.ref o_77), .val (.ref b_78)] [(.int (1 : Int32))]
  refine Runs.ifN i0_495 (feq (by decide : ¬ ((1 : Int32) = (0 : Int32)))).1 ?_
  refine Runs.aload i0_498 rfl rfl ?_
  refine Runs.aload i0_500 rfl rfl ?_
  refine Runs.iload i0_502 rfl ?_
  refine Runs.bipush (v := (15 : Int32)) i0_504 (by decide) ?_
  refine Runs.callSW (argsL := [(.ref b_78), (.ref b_36), (.int (Int32.ofNat (((own_P ++ own_enc (own_dr p1)) ++ own_enc (own_dr p2)) ++ own_enc (own_dr p3)).length)), (.int (15 : Int32))]) (rest := []) (W := 0) i0_506 (w218 hw) (w219 hw) (w2 hw) (w220 hw) (by decide) pd_43 rfl rfl rfl rfl (by decide) (by decide) (by decide) (by decide) all0 (by decide) (own_eqc l Z a0 hw n0 b_78 b_36 k_79 k_37 (((own_P ++ own_enc (own_dr p1)) ++ own_enc (own_dr p2)) ++ own_enc (own_dr p3)) (by have := own_lL3 p1 p2 p3; omega) 15 (by decide) _ A_84 A_86) ?_
  intro v h1 D1 q hsz
  obtain ⟨rfl, rfl, rfl⟩ := q
  show Runs 1 l Z [("com/example/pacerd/pacerd/run/Outcome", 27), ("java/lang/String", 7)] n0 _ _ _ _ _ _ _ [b_36] h_85 15 360 509 #[.val (.int p0), .val (.int p1), .val (.int p2), .val (.int p3), .val (.int (3 : Int32)), .val (.int (own_dr p1)), .val (.int (own_dr p2)), .val (.int (own_dr p3)), .val (.ref b_2), .val (.ref b_20), .val (.ref b_36), .val (.int (Int32.ofNat (((own_P ++ own_enc (own_dr p1)) ++ own_enc (own_dr p2)) ++ own_enc (own_dr p3)).length)), .val (.ref o_77), .val (.ref b_78)] [(.int (1 : Int32))]
  refine Runs.ifN i0_509 (feq (by decide : ¬ ((1 : Int32) = (0 : Int32)))).1 ?_
  refine Runs.aload i0_512 rfl rfl ?_
  refine Runs.aload i0_514 rfl rfl ?_
  refine Runs.iload i0_516 rfl ?_
  refine Runs.bipush (v := (16 : Int32)) i0_518 (by decide) ?_
  refine Runs.callSW (argsL := [(.ref b_78), (.ref b_36), (.int (Int32.ofNat (((own_P ++ own_enc (own_dr p1)) ++ own_enc (own_dr p2)) ++ own_enc (own_dr p3)).length)), (.int (16 : Int32))]) (rest := []) (W := 0) i0_520 (w218 hw) (w219 hw) (w2 hw) (w220 hw) (by decide) pd_43 rfl rfl rfl rfl (by decide) (by decide) (by decide) (by decide) all0 (by decide) (own_eqc l Z a0 hw n0 b_78 b_36 k_79 k_37 (((own_P ++ own_enc (own_dr p1)) ++ own_enc (own_dr p2)) ++ own_enc (own_dr p3)) (by have := own_lL3 p1 p2 p3; omega) 16 (by decide) _ A_84 A_86) ?_
  intro v h1 D1 q hsz
  obtain ⟨rfl, rfl, rfl⟩ := q
  show Runs 1 l Z [("com/example/pacerd/pacerd/run/Outcome", 27), ("java/lang/String", 7)] n0 _ _ _ _ _ _ _ [b_36] h_85 15 360 523 #[.val (.int p0), .val (.int p1), .val (.int p2), .val (.int p3), .val (.int (3 : Int32)), .val (.int (own_dr p1)), .val (.int (own_dr p2)), .val (.int (own_dr p3)), .val (.ref b_2), .val (.ref b_20), .val (.ref b_36), .val (.int (Int32.ofNat (((own_P ++ own_enc (own_dr p1)) ++ own_enc (own_dr p2)) ++ own_enc (own_dr p3)).length)), .val (.ref o_77), .val (.ref b_78)] [(.int (1 : Int32))]
  refine Runs.ifN i0_523 (feq (by decide : ¬ ((1 : Int32) = (0 : Int32)))).1 ?_
  refine Runs.iconst (v := (1 : Int32)) i0_526 (by decide) ?_
  refine Runs.goto (t := 531) i0_527 (by decide) ?_
  exact Runs.retI (z := (1 : Int32)) i0_531 rfl (Or.inr (Or.inl rfl)) (by decide) (by decide) (by decide) rfl
set_option maxRecDepth 65536 in
set_option maxHeartbeats 4000000 in
theorem own_law (l : Launch) (Z : State) (a0 : Array Value) (hw : Wds Z a0) (n0 : Nat) (p0 p1 p2 p3 : Int32) (cpt : Int32) (S_C : Sta Z Z.heap "java/lang/String" "COMPACT_STRINGS" "Z" (.int cpt)) (hcpt : ¬ cpt = 0) (S_A : Sta Z Z.heap "java/lang/StringUTF16" "$assertionsDisabled" "Z" (.int 1)) (S_H : Sta Z Z.heap "java/lang/StringUTF16" "HI_BYTE_SHIFT" "I" (.int 0)) (S_L : Sta Z Z.heap "java/lang/StringUTF16" "LO_BYTE_SHIFT" "I" (.int 8)) (fm : Value) (hfm : fm.isRef = true) (S_F : Sta Z Z.heap "jdk/internal/util/Preconditions" "SIOOBE_FORMATTER" "Ljava/util/function/BiFunction;" fm) (u8 : Addr) (S_I : Sta Z Z.heap "sun/nio/cs/UTF_8" "INSTANCE" "Lsun/nio/cs/UTF_8;" (.ref u8)) (S_8 : Sta Z Z.heap "java/nio/charset/StandardCharsets" "UTF_8" "Ljava/nio/charset/Charset;" (.ref u8)) (sF : Addr) (S_FAILED : Sta Z Z.heap "com/example/pacerd/pacerd/run/RunStatus" "FAILED" "Lcom/example/pacerd/pacerd/run/RunStatus;" (.ref sF)) : Con 1 l Z [("com/example/pacerd/pacerd/run/Outcome", 27), ("java/lang/String", 7)] n0 x code maxLocals ret room_1 #[(.int p0), (.int p1), (.int p2), (.int p3)] [] Z.heap (fun v h D' => v = some (.int 1)) := by
  refine Con.of_runs (ls := #[.val (.int p0), .val (.int p1), .val (.int p2), .val (.int p3), .unset, .unset, .unset, .unset, .unset, .unset, .unset, .unset, .unset, .unset]) (by decide +kernel) (ef rfl rfl) ?_
  rcases own_and3 p0 with q3 | q3 | q3 | q3
  · refine Runs.iloadN i0_0 rfl ?_
    refine Runs.iconst (v := (3 : Int32)) i0_1 (by decide) ?_
    refine Runs.iand (z := (0 : Int32)) i0_2 q3 ?_
    refine Runs.istore (ls' := #[.val (.int p0), .val (.int p1), .val (.int p2), .val (.int p3), .val (.int (0 : Int32)), .unset, .unset, .unset, .unset, .unset, .unset, .unset, .unset, .unset]) i0_3 rfl ?_
    refine Runs.iloadN i0_5 rfl ?_
    refine Runs.callSW (argsL := [(.int p1)]) (rest := []) (W := 0) i0_6 (w0 hw) (w1 hw) (w2 hw) (w3 hw) (by decide) pd_0 rfl rfl rfl rfl (by decide) (by decide) (by decide) (by decide) all0 (by decide) (own_drw l Z a0 hw n0 p1 _) ?_
    intro v h1 D1 q hsz
    obtain ⟨rfl, rfl, rfl⟩ := q
    show Runs 1 l Z [("com/example/pacerd/pacerd/run/Outcome", 27), ("java/lang/String", 7)] n0 _ _ _ _ _ _ _ [] Z.heap 0 0 9 #[.val (.int p0), .val (.int p1), .val (.int p2), .val (.int p3), .val (.int (0 : Int32)), .unset, .unset, .unset, .unset, .unset, .unset, .unset, .unset, .unset] [(.int (own_dr p1))]
    refine Runs.istore (ls' := #[.val (.int p0), .val (.int p1), .val (.int p2), .val (.int p3), .val (.int (0 : Int32)), .val (.int (own_dr p1)), .unset, .unset, .unset, .unset, .unset, .unset, .unset, .unset]) i0_9 rfl ?_
    refine Runs.iloadN i0_11 rfl ?_
    refine Runs.callSW (argsL := [(.int p2)]) (rest := []) (W := 0) i0_12 (w0 hw) (w1 hw) (w2 hw) (w3 hw) (by decide) pd_0 rfl rfl rfl rfl (by decide) (by decide) (by decide) (by decide) all0 (by decide) (own_drw l Z a0 hw n0 p2 _) ?_
    intro v h1 D1 q hsz
    obtain ⟨rfl, rfl, rfl⟩ := q
    show Runs 1 l Z [("com/example/pacerd/pacerd/run/Outcome", 27), ("java/lang/String", 7)] n0 _ _ _ _ _ _ _ [] Z.heap 0 0 15 #[.val (.int p0), .val (.int p1), .val (.int p2), .val (.int p3), .val (.int (0 : Int32)), .val (.int (own_dr p1)), .unset, .unset, .unset, .unset, .unset, .unset, .unset, .unset] [(.int (own_dr p2))]
    refine Runs.istore (ls' := #[.val (.int p0), .val (.int p1), .val (.int p2), .val (.int p3), .val (.int (0 : Int32)), .val (.int (own_dr p1)), .val (.int (own_dr p2)), .unset, .unset, .unset, .unset, .unset, .unset, .unset]) i0_15 rfl ?_
    refine Runs.iloadN i0_17 rfl ?_
    refine Runs.callSW (argsL := [(.int p3)]) (rest := []) (W := 0) i0_18 (w0 hw) (w1 hw) (w2 hw) (w3 hw) (by decide) pd_0 rfl rfl rfl rfl (by decide) (by decide) (by decide) (by decide) all0 (by decide) (own_drw l Z a0 hw n0 p3 _) ?_
    intro v h1 D1 q hsz
    obtain ⟨rfl, rfl, rfl⟩ := q
    show Runs 1 l Z [("com/example/pacerd/pacerd/run/Outcome", 27), ("java/lang/String", 7)] n0 _ _ _ _ _ _ _ [] Z.heap 0 0 21 #[.val (.int p0), .val (.int p1), .val (.int p2), .val (.int p3), .val (.int (0 : Int32)), .val (.int (own_dr p1)), .val (.int (own_dr p2)), .unset, .unset, .unset, .unset, .unset, .unset, .unset] [(.int (own_dr p3))]
    refine Runs.istore (ls' := #[.val (.int p0), .val (.int p1), .val (.int p2), .val (.int p3), .val (.int (0 : Int32)), .val (.int (own_dr p1)), .val (.int (own_dr p2)), .val (.int (own_dr p3)), .unset, .unset, .unset, .unset, .unset, .unset]) i0_21 rfl ?_
    exact own_law0 l Z a0 hw n0 p0 p1 p2 p3 cpt S_C hcpt S_A S_H S_L fm hfm S_F u8 S_I S_8 sF S_FAILED
  · refine Runs.iloadN i0_0 rfl ?_
    refine Runs.iconst (v := (3 : Int32)) i0_1 (by decide) ?_
    refine Runs.iand (z := (1 : Int32)) i0_2 q3 ?_
    refine Runs.istore (ls' := #[.val (.int p0), .val (.int p1), .val (.int p2), .val (.int p3), .val (.int (1 : Int32)), .unset, .unset, .unset, .unset, .unset, .unset, .unset, .unset, .unset]) i0_3 rfl ?_
    refine Runs.iloadN i0_5 rfl ?_
    refine Runs.callSW (argsL := [(.int p1)]) (rest := []) (W := 0) i0_6 (w0 hw) (w1 hw) (w2 hw) (w3 hw) (by decide) pd_0 rfl rfl rfl rfl (by decide) (by decide) (by decide) (by decide) all0 (by decide) (own_drw l Z a0 hw n0 p1 _) ?_
    intro v h1 D1 q hsz
    obtain ⟨rfl, rfl, rfl⟩ := q
    show Runs 1 l Z [("com/example/pacerd/pacerd/run/Outcome", 27), ("java/lang/String", 7)] n0 _ _ _ _ _ _ _ [] Z.heap 0 0 9 #[.val (.int p0), .val (.int p1), .val (.int p2), .val (.int p3), .val (.int (1 : Int32)), .unset, .unset, .unset, .unset, .unset, .unset, .unset, .unset, .unset] [(.int (own_dr p1))]
    refine Runs.istore (ls' := #[.val (.int p0), .val (.int p1), .val (.int p2), .val (.int p3), .val (.int (1 : Int32)), .val (.int (own_dr p1)), .unset, .unset, .unset, .unset, .unset, .unset, .unset, .unset]) i0_9 rfl ?_
    refine Runs.iloadN i0_11 rfl ?_
    refine Runs.callSW (argsL := [(.int p2)]) (rest := []) (W := 0) i0_12 (w0 hw) (w1 hw) (w2 hw) (w3 hw) (by decide) pd_0 rfl rfl rfl rfl (by decide) (by decide) (by decide) (by decide) all0 (by decide) (own_drw l Z a0 hw n0 p2 _) ?_
    intro v h1 D1 q hsz
    obtain ⟨rfl, rfl, rfl⟩ := q
    show Runs 1 l Z [("com/example/pacerd/pacerd/run/Outcome", 27), ("java/lang/String", 7)] n0 _ _ _ _ _ _ _ [] Z.heap 0 0 15 #[.val (.int p0), .val (.int p1), .val (.int p2), .val (.int p3), .val (.int (1 : Int32)), .val (.int (own_dr p1)), .unset, .unset, .unset, .unset, .unset, .unset, .unset, .unset] [(.int (own_dr p2))]
    refine Runs.istore (ls' := #[.val (.int p0), .val (.int p1), .val (.int p2), .val (.int p3), .val (.int (1 : Int32)), .val (.int (own_dr p1)), .val (.int (own_dr p2)), .unset, .unset, .unset, .unset, .unset, .unset, .unset]) i0_15 rfl ?_
    refine Runs.iloadN i0_17 rfl ?_
    refine Runs.callSW (argsL := [(.int p3)]) (rest := []) (W := 0) i0_18 (w0 hw) (w1 hw) (w2 hw) (w3 hw) (by decide) pd_0 rfl rfl rfl rfl (by decide) (by decide) (by decide) (by decide) all0 (by decide) (own_drw l Z a0 hw n0 p3 _) ?_
    intro v h1 D1 q hsz
    obtain ⟨rfl, rfl, rfl⟩ := q
    show Runs 1 l Z [("com/example/pacerd/pacerd/run/Outcome", 27), ("java/lang/String", 7)] n0 _ _ _ _ _ _ _ [] Z.heap 0 0 21 #[.val (.int p0), .val (.int p1), .val (.int p2), .val (.int p3), .val (.int (1 : Int32)), .val (.int (own_dr p1)), .val (.int (own_dr p2)), .unset, .unset, .unset, .unset, .unset, .unset, .unset] [(.int (own_dr p3))]
    refine Runs.istore (ls' := #[.val (.int p0), .val (.int p1), .val (.int p2), .val (.int p3), .val (.int (1 : Int32)), .val (.int (own_dr p1)), .val (.int (own_dr p2)), .val (.int (own_dr p3)), .unset, .unset, .unset, .unset, .unset, .unset]) i0_21 rfl ?_
    exact own_law1 l Z a0 hw n0 p0 p1 p2 p3 cpt S_C hcpt S_A S_H S_L fm hfm S_F u8 S_I S_8 sF S_FAILED
  · refine Runs.iloadN i0_0 rfl ?_
    refine Runs.iconst (v := (3 : Int32)) i0_1 (by decide) ?_
    refine Runs.iand (z := (2 : Int32)) i0_2 q3 ?_
    refine Runs.istore (ls' := #[.val (.int p0), .val (.int p1), .val (.int p2), .val (.int p3), .val (.int (2 : Int32)), .unset, .unset, .unset, .unset, .unset, .unset, .unset, .unset, .unset]) i0_3 rfl ?_
    refine Runs.iloadN i0_5 rfl ?_
    refine Runs.callSW (argsL := [(.int p1)]) (rest := []) (W := 0) i0_6 (w0 hw) (w1 hw) (w2 hw) (w3 hw) (by decide) pd_0 rfl rfl rfl rfl (by decide) (by decide) (by decide) (by decide) all0 (by decide) (own_drw l Z a0 hw n0 p1 _) ?_
    intro v h1 D1 q hsz
    obtain ⟨rfl, rfl, rfl⟩ := q
    show Runs 1 l Z [("com/example/pacerd/pacerd/run/Outcome", 27), ("java/lang/String", 7)] n0 _ _ _ _ _ _ _ [] Z.heap 0 0 9 #[.val (.int p0), .val (.int p1), .val (.int p2), .val (.int p3), .val (.int (2 : Int32)), .unset, .unset, .unset, .unset, .unset, .unset, .unset, .unset, .unset] [(.int (own_dr p1))]
    refine Runs.istore (ls' := #[.val (.int p0), .val (.int p1), .val (.int p2), .val (.int p3), .val (.int (2 : Int32)), .val (.int (own_dr p1)), .unset, .unset, .unset, .unset, .unset, .unset, .unset, .unset]) i0_9 rfl ?_
    refine Runs.iloadN i0_11 rfl ?_
    refine Runs.callSW (argsL := [(.int p2)]) (rest := []) (W := 0) i0_12 (w0 hw) (w1 hw) (w2 hw) (w3 hw) (by decide) pd_0 rfl rfl rfl rfl (by decide) (by decide) (by decide) (by decide) all0 (by decide) (own_drw l Z a0 hw n0 p2 _) ?_
    intro v h1 D1 q hsz
    obtain ⟨rfl, rfl, rfl⟩ := q
    show Runs 1 l Z [("com/example/pacerd/pacerd/run/Outcome", 27), ("java/lang/String", 7)] n0 _ _ _ _ _ _ _ [] Z.heap 0 0 15 #[.val (.int p0), .val (.int p1), .val (.int p2), .val (.int p3), .val (.int (2 : Int32)), .val (.int (own_dr p1)), .unset, .unset, .unset, .unset, .unset, .unset, .unset, .unset] [(.int (own_dr p2))]
    refine Runs.istore (ls' := #[.val (.int p0), .val (.int p1), .val (.int p2), .val (.int p3), .val (.int (2 : Int32)), .val (.int (own_dr p1)), .val (.int (own_dr p2)), .unset, .unset, .unset, .unset, .unset, .unset, .unset]) i0_15 rfl ?_
    refine Runs.iloadN i0_17 rfl ?_
    refine Runs.callSW (argsL := [(.int p3)]) (rest := []) (W := 0) i0_18 (w0 hw) (w1 hw) (w2 hw) (w3 hw) (by decide) pd_0 rfl rfl rfl rfl (by decide) (by decide) (by decide) (by decide) all0 (by decide) (own_drw l Z a0 hw n0 p3 _) ?_
    intro v h1 D1 q hsz
    obtain ⟨rfl, rfl, rfl⟩ := q
    show Runs 1 l Z [("com/example/pacerd/pacerd/run/Outcome", 27), ("java/lang/String", 7)] n0 _ _ _ _ _ _ _ [] Z.heap 0 0 21 #[.val (.int p0), .val (.int p1), .val (.int p2), .val (.int p3), .val (.int (2 : Int32)), .val (.int (own_dr p1)), .val (.int (own_dr p2)), .unset, .unset, .unset, .unset, .unset, .unset, .unset] [(.int (own_dr p3))]
    refine Runs.istore (ls' := #[.val (.int p0), .val (.int p1), .val (.int p2), .val (.int p3), .val (.int (2 : Int32)), .val (.int (own_dr p1)), .val (.int (own_dr p2)), .val (.int (own_dr p3)), .unset, .unset, .unset, .unset, .unset, .unset]) i0_21 rfl ?_
    exact own_law2 l Z a0 hw n0 p0 p1 p2 p3 cpt S_C hcpt S_A S_H S_L fm hfm S_F u8 S_I S_8 sF S_FAILED
  · refine Runs.iloadN i0_0 rfl ?_
    refine Runs.iconst (v := (3 : Int32)) i0_1 (by decide) ?_
    refine Runs.iand (z := (3 : Int32)) i0_2 q3 ?_
    refine Runs.istore (ls' := #[.val (.int p0), .val (.int p1), .val (.int p2), .val (.int p3), .val (.int (3 : Int32)), .unset, .unset, .unset, .unset, .unset, .unset, .unset, .unset, .unset]) i0_3 rfl ?_
    refine Runs.iloadN i0_5 rfl ?_
    refine Runs.callSW (argsL := [(.int p1)]) (rest := []) (W := 0) i0_6 (w0 hw) (w1 hw) (w2 hw) (w3 hw) (by decide) pd_0 rfl rfl rfl rfl (by decide) (by decide) (by decide) (by decide) all0 (by decide) (own_drw l Z a0 hw n0 p1 _) ?_
    intro v h1 D1 q hsz
    obtain ⟨rfl, rfl, rfl⟩ := q
    show Runs 1 l Z [("com/example/pacerd/pacerd/run/Outcome", 27), ("java/lang/String", 7)] n0 _ _ _ _ _ _ _ [] Z.heap 0 0 9 #[.val (.int p0), .val (.int p1), .val (.int p2), .val (.int p3), .val (.int (3 : Int32)), .unset, .unset, .unset, .unset, .unset, .unset, .unset, .unset, .unset] [(.int (own_dr p1))]
    refine Runs.istore (ls' := #[.val (.int p0), .val (.int p1), .val (.int p2), .val (.int p3), .val (.int (3 : Int32)), .val (.int (own_dr p1)), .unset, .unset, .unset, .unset, .unset, .unset, .unset, .unset]) i0_9 rfl ?_
    refine Runs.iloadN i0_11 rfl ?_
    refine Runs.callSW (argsL := [(.int p2)]) (rest := []) (W := 0) i0_12 (w0 hw) (w1 hw) (w2 hw) (w3 hw) (by decide) pd_0 rfl rfl rfl rfl (by decide) (by decide) (by decide) (by decide) all0 (by decide) (own_drw l Z a0 hw n0 p2 _) ?_
    intro v h1 D1 q hsz
    obtain ⟨rfl, rfl, rfl⟩ := q
    show Runs 1 l Z [("com/example/pacerd/pacerd/run/Outcome", 27), ("java/lang/String", 7)] n0 _ _ _ _ _ _ _ [] Z.heap 0 0 15 #[.val (.int p0), .val (.int p1), .val (.int p2), .val (.int p3), .val (.int (3 : Int32)), .val (.int (own_dr p1)), .unset, .unset, .unset, .unset, .unset, .unset, .unset, .unset] [(.int (own_dr p2))]
    refine Runs.istore (ls' := #[.val (.int p0), .val (.int p1), .val (.int p2), .val (.int p3), .val (.int (3 : Int32)), .val (.int (own_dr p1)), .val (.int (own_dr p2)), .unset, .unset, .unset, .unset, .unset, .unset, .unset]) i0_15 rfl ?_
    refine Runs.iloadN i0_17 rfl ?_
    refine Runs.callSW (argsL := [(.int p3)]) (rest := []) (W := 0) i0_18 (w0 hw) (w1 hw) (w2 hw) (w3 hw) (by decide) pd_0 rfl rfl rfl rfl (by decide) (by decide) (by decide) (by decide) all0 (by decide) (own_drw l Z a0 hw n0 p3 _) ?_
    intro v h1 D1 q hsz
    obtain ⟨rfl, rfl, rfl⟩ := q
    show Runs 1 l Z [("com/example/pacerd/pacerd/run/Outcome", 27), ("java/lang/String", 7)] n0 _ _ _ _ _ _ _ [] Z.heap 0 0 21 #[.val (.int p0), .val (.int p1), .val (.int p2), .val (.int p3), .val (.int (3 : Int32)), .val (.int (own_dr p1)), .val (.int (own_dr p2)), .unset, .unset, .unset, .unset, .unset, .unset, .unset] [(.int (own_dr p3))]
    refine Runs.istore (ls' := #[.val (.int p0), .val (.int p1), .val (.int p2), .val (.int p3), .val (.int (3 : Int32)), .val (.int (own_dr p1)), .val (.int (own_dr p2)), .val (.int (own_dr p3)), .unset, .unset, .unset, .unset, .unset, .unset]) i0_21 rfl ?_
    exact own_law3 l Z a0 hw n0 p0 p1 p2 p3 cpt S_C hcpt S_A S_H S_L fm hfm S_F u8 S_I S_8 sF S_FAILED
theorem own_eqR {args : Array Value} {s : State} {t u : Term} {a : Addr} (h : (Jvm.Cond.eq t u).value args s none s [] = some true) (hu : u.eval args s none [] s = some (.ref a)) : t.eval args s none [] s = some (.ref a) := by
  obtain ⟨x, y, e1, e2, k1, k2⟩ := cmp_v (Or.inl h)
  cases e2.symm.trans hu
  have hx : x.isRef = true := by cases x <;> simp_all [Kin, Value.isRef]
  rw [e1, gotT (eq_R e1 e2 hx rfl) h]

set_option maxRecDepth 65536 in
set_option maxHeartbeats 40000000 in
theorem comes_1 {Post : Tables → Env → Array Value → State → Outcome → State → Prop} (hpost : ∀ tb e args s v u, (limb_1_1.after args s (.returned v) u = true ∧ limb_1_2.after args s (.returned v) u = true ∧ True) → Jvm.Pilot.@@N@@.Jvm.D.FramedW s (.returned v) u (Jvm.fieldLocs frame_1_writes args s ++ Jvm.arrayLocs frame_1_arrays args s ++ Jvm.staticLocs frame_1_statics s) 40 2496 → Post tb e args s (.returned v) u) :
    ArmFor flags0 classFile x code maxLocals ret World_1 tables_1 room_1 Calls_1 rest_1 Pre_1 Post := by
  intro l hfl _ _ p e ha hc hk s m args below hf hA hF happ hP
  obtain ⟨hcalls, hrest, hpre⟩ := hP
  obtain ⟨-, -, -, hnamed, -, -, -, hat⟩ := (Spec.applies_iff hf).mp happ
  obtain ⟨hg, hn⟩ := and_e (Cond.before_iff.mp (show (Jvm.Cond.and given_1 narrow_1).before args s = true from hpre))
  obtain ⟨g1, g2⟩ := and_e hg
  obtain ⟨g3, g4⟩ := and_e g2
  obtain ⟨g5, g6⟩ := and_e g4
  obtain ⟨g7, g8⟩ := and_e g6
  obtain ⟨w0, w1, w2, w3, rfl⟩ : ∃ w0 w1 w2 w3 : Value, args = #[w0, w1, w2, w3] := by
    have hs : args.size = 4 := by simpa [Cond.value, given_1] using g1
    obtain ⟨L⟩ := args
    match L, hs with
    | [w0, w1, w2, w3], _ => exact ⟨w0, w1, w2, w3, rfl⟩
  have hw : Wds s _ := fun d (hd : d ∈ tables_1) => atoms_spec (ws := Jvm.Cond.code x code maxLocals ret :: tables_1) hat d (List.mem_cons_of_mem _ hd)
  obtain ⟨i0, ei0⟩ := is_v g3
  obtain rfl : w0 = (.int i0) := Option.some.inj ei0
  obtain ⟨i1, ei1⟩ := is_v g5
  obtain rfl : w1 = (.int i1) := Option.some.inj ei1
  obtain ⟨i2, ei2⟩ := is_v g7
  obtain rfl : w2 = (.int i2) := Option.some.inj ei2
  obtain ⟨i3, ei3⟩ := is_v g8
  obtain rfl : w3 = (.int i3) := Option.some.inj ei3
  obtain ⟨sFAILED, ev_FAILED⟩ := exa_v hn
  have E_FAILED := Exa.start ev_FAILED hn
  have S_FAILED : Sta s s.heap "com/example/pacerd/pacerd/run/RunStatus" "FAILED" "Lcom/example/pacerd/pacerd/run/RunStatus;" (.ref sFAILED) := Sta.start ev_FAILED (Or.inr ⟨(w178 hw), (w179 hw)⟩)
  obtain ⟨hsets, -⟩ := atoms_of _ (rest_1_c_eq ▸ (show rest_1_c.before _ s = true from hrest))
  obtain ⟨cpt, ev_cpt⟩ := is_v (Cond.before_iff.mp (hsets _ (List.mem_of_getElem? (i := 1) rfl)))
  have S_C : Sta s s.heap "java/lang/String" "COMPACT_STRINGS" "Z" (.int cpt) := Sta.start ev_cpt (Or.inl (hsets _ (List.mem_of_getElem? (i := 0) rfl)))
  have hcpt : ¬ cpt = 0 := gotF (own_eqI ev_cpt (Term.int_eval 0)) (not_v (Cond.before_iff.mp (hsets _ (List.mem_of_getElem? (i := 2) rfl))))
  obtain ⟨fm, ev_fm, hfm⟩ := isR_v (Cond.before_iff.mp (hsets _ (List.mem_of_getElem? (i := 8) rfl)))
  have S_F : Sta s s.heap "jdk/internal/util/Preconditions" "SIOOBE_FORMATTER" "Ljava/util/function/BiFunction;" fm := Sta.start ev_fm (Or.inl (hsets _ (List.mem_of_getElem? (i := 7) rfl)))
  have S_A : Sta s s.heap "java/lang/StringUTF16" "$assertionsDisabled" "Z" (.int 1) := Sta.start (Cond.eq_int (hsets _ (List.mem_of_getElem? (i := 21) rfl)) rfl) (Or.inl (hsets _ (List.mem_of_getElem? (i := 20) rfl)))
  have S_H : Sta s s.heap "java/lang/StringUTF16" "HI_BYTE_SHIFT" "I" (.int 0) := Sta.start (Cond.eq_int (hsets _ (List.mem_of_getElem? (i := 24) rfl)) rfl) (Or.inl (hsets _ (List.mem_of_getElem? (i := 23) rfl)))
  have S_L : Sta s s.heap "java/lang/StringUTF16" "LO_BYTE_SHIFT" "I" (.int 8) := Sta.start (Cond.eq_int (hsets _ (List.mem_of_getElem? (i := 27) rfl)) rfl) (Or.inl (hsets _ (List.mem_of_getElem? (i := 26) rfl)))
  obtain ⟨u8, ev_I⟩ := exa_v (Cond.before_iff.mp (hsets _ (List.mem_of_getElem? (i := 17) rfl)))
  have ev_8 := own_eqR (Cond.before_iff.mp (hsets _ (List.mem_of_getElem? (i := 13) rfl))) ev_I
  have S_I : Sta s s.heap "sun/nio/cs/UTF_8" "INSTANCE" "Lsun/nio/cs/UTF_8;" (.ref u8) := Sta.start ev_I (Or.inl (hsets _ (List.mem_of_getElem? (i := 12) rfl)))
  have S_8 : Sta s s.heap "java/nio/charset/StandardCharsets" "UTF_8" "Ljava/nio/charset/Charset;" (.ref u8) := Sta.start ev_8 (Or.inl (hsets _ (List.mem_of_getElem? (i := 10) rfl)))
  have hC : CHv s [("com/example/pacerd/pacerd/run/Outcome", 27), ("java/lang/String", 7)] s.vm s.heap := CHv.start (own_EW hw) (fun p hp => hcalls.1 p hp) (hsets _ (List.mem_of_getElem? (i := 2) rfl)) (w21 hw) (w8 hw)
  obtain ⟨n, o, h1, h2, h3, v, L, D', rfl, rfl, -, N, -, hq⟩ := own_law l s _ hw s.heap.size i0 i1 i2 i3 cpt S_C hcpt S_A S_H S_L fm hfm S_F u8 S_I S_8 sFAILED S_FAILED tables_1 p e ha hc hk s m _ below hf ((Spec.applies_iff_loose hf).mp happ).1 ⟨rfl, State.Warmed39.refl s, rfl, Old.start s, ⟨_, own_EW hw⟩, hC, fun _ q => nomatch q⟩ (fun q => absurd q (by decide))
  have hq : ReturnedEndW s _ _ L _ _ := hq
  refine ⟨n, _, h1, h2, h3, hpost _ _ _ _ _ _ ⟨Cond.after_iff.mpr rfl, Cond.after_iff.mpr (eq_i res_at (Term.int_eval (1)) rfl), trivial⟩ ⟨hq.1, hq.2.1, hq.2.2.1, (hq.2.2.2.sift fun y hy => Or.inr (N y hy)).mono (by decide) (by decide)⟩⟩
theorem main_1_1 : Claimed_1_1 := comes_1 fun _ _ _ _ _ _ h hF => ⟨h.1, hF⟩
theorem main_1_2 : Claimed_1_2 := comes_1 fun _ _ _ _ _ _ h hF => ⟨h.2.1, hF⟩
end Jvm.Pilot.@@N@@
namespace Jvm.Pilot.@@N@@
open Jvm Jvm.ClassFile Sem Op Lib Jvm.Free Jvm.Stand Jvm.Pilot.@@N@@.Jvm.D
/-! MADE BY PROGRAM (witnessworld.py) out of the Statement's table words and the real class files: 36 classes; the members and pool entries that the words name. The judged class is class 1, her method 4. -/
namespace start1
open Jvm.ClassFile
def u (s : String) : CpInfo := .utf8 (stringToUtf16 s)
/-- a pool by its gaps: so many unusable entries, then the entry; so many at the end -/
def gap : Nat → List CpInfo → List CpInfo
  | 0, r => r
  | n + 1, r => .unusable :: gap n r
def poolList (es : List (Nat × CpInfo)) (last : Nat) : List CpInfo := es.foldr (fun e r => gap e.1 (e.2 :: r)) (gap last [])
def pool (es : List (Nat × CpInfo)) (last : Nat) : Array CpInfo := ⟨poolList es last⟩
def fileOf (pool : Array CpInfo) (this : Nat) (attrs : Array Attribute := #[]) (ms : Array MethodInfo := #[]) (fl : Nat := 33) (sup : Nat := 0) (ifs : Array Nat := #[]) (fds : Array FieldInfo := #[]) : ClassFile where
  minorVersion := 0
  majorVersion := 65
  constantPool := pool
  accessFlags := fl
  thisClass := this
  superClass := sup
  interfaces := ifs
  fields := fds
  methods := ms
  attributes := attrs
def plain (name : String) (sup : Option ClassId) : Class where
  name := name
  kind := .ordinary
  loader := none
  accessFlags := 33
  super := sup
  interfaces := #[]
  cf := none
  fields := #[]
  methods := #[]
  instanceTypes := #[]
  staticTypes := #[]
  resolved := #[]
  callSites := []
  init := .initialized
  statics := none
  mirror := none

def pool0 : Array CpInfo := pool [(5, u "<init>"), (0, u "()V"), (1, .class_ 10), (1, u "java/lang/Object"), (85, u "clone"), (0, u "()Ljava/lang/Object;")] 26

def k0c0 : Code := { maxStack := 0, maxLocals := 1, code := object_method_1_code, exceptionTable := #[], attributes := #[] }
def k0m0 : Method := { name := "<init>", desc := "()V", sig := { parameters := [], returnType := none }, accessFlags := 1, code := some k0c0 }
def k0m1 : Method := { name := "clone", desc := "()Ljava/lang/Object;", sig := { parameters := [], returnType := some (.object "java/lang/Object") }, accessFlags := 260, code := none }
/-- java/lang/Object -/
def k0 : Class := { plain "java/lang/Object" none with
  accessFlags := 33
  interfaces := #[]
  cf := some (fileOf pool0 8 #[] #[{ accessFlags := 1, nameIndex := 5, descriptorIndex := 6, attributes := #[] }, { accessFlags := 260, nameIndex := 96, descriptorIndex := 97, attributes := #[] }] 33 0 #[] #[])
  fields := #[]
  methods := #[k0m0, k0m1]
  instanceTypes := #[]
  staticTypes := #[]
  resolved := Array.replicate 124 none
  statics := none }

def pool1 : Array CpInfo := pool [(2, .class_ 4), (1, u "java/lang/Object"), (0, u "<init>"), (0, u "()V"), (0, .integer 65535), (0, .integer 55296), (0, .integer 57343), (0, .methodref 11 12), (0, .class_ 13), (0, .nameAndType 14 15), (0, u "com/example/pacerd/pacerd/run/OutcomeFailurePinLaw"), (0, u "draw"), (0, u "(I)I"), (0, .class_ 17), (0, u "java/lang/String"), (0, .methodref 16 19), (0, .nameAndType 5 20), (0, u "([C)V"), (0, .methodref 11 22), (0, .nameAndType 23 24), (0, u "put"), (0, u "([BII)I"), (0, .methodref 26 27), (0, .class_ 28), (0, .nameAndType 29 30), (0, u "com/example/pacerd/pacerd/run/Outcome"), (0, u "failure"), (0, u "(Ljava/lang/String;)Lcom/example/pacerd/pacerd/run/Outcome;"), (0, .methodref 26 32), (0, .nameAndType 33 34), (0, u "status"), (0, u "()Lcom/example/pacerd/pacerd/run/RunStatus;"), (0, .fieldref 36 37), (0, .class_ 38), (0, .nameAndType 39 40), (0, u "com/example/pacerd/pacerd/run/RunStatus"), (0, u "FAILED"), (0, u "Lcom/example/pacerd/pacerd/run/RunStatus;"), (0, .methodref 26 42), (0, .nameAndType 43 44), (0, u "exitCode"), (0, u "()Ljava/lang/Integer;"), (0, .methodref 26 46), (0, .nameAndType 47 44), (0, u "httpStatus"), (0, .methodref 26 49), (0, .nameAndType 50 51), (0, u "output"), (0, u "()[B"), (0, .methodref 11 53), (0, .nameAndType 54 55), (0, u "eq"), (0, u "([B[BII)Z"), (3, u "law"), (0, u "(IIII)Z")] 6

def k1m0 : Method := { name := "<init>", desc := "()V", sig := { parameters := [], returnType := none }, accessFlags := 1, code := none }
def k1c1 : Code := { maxStack := 2, maxLocals := 2, code := method_2_code, exceptionTable := #[], attributes := #[] }
def k1m1 : Method := { name := "draw", desc := "(I)I", sig := { parameters := [.int], returnType := some .int }, accessFlags := 10, code := some k1c1 }
def k1c2 : Code := { maxStack := 5, maxLocals := 3, code := method_3_code, exceptionTable := #[], attributes := #[] }
def k1m2 : Method := { name := "put", desc := "([BII)I", sig := { parameters := [(.array .byte), .int, .int], returnType := some .int }, accessFlags := 10, code := some k1c2 }
def k1c3 : Code := { maxStack := 3, maxLocals := 4, code := method_4_code, exceptionTable := #[], attributes := #[] }
def k1m3 : Method := { name := "eq", desc := "([B[BII)Z", sig := { parameters := [(.array .byte), (.array .byte), .int, .int], returnType := some .boolean }, accessFlags := 10, code := some k1c3 }
def k1c4 : Code := { maxStack := 4, maxLocals := 14, code := code, exceptionTable := #[], attributes := #[] }
def k1m4 : Method := { name := "law", desc := "(IIII)Z", sig := { parameters := [.int, .int, .int, .int], returnType := some .boolean }, accessFlags := 9, code := some k1c4 }
/-- com/example/pacerd/pacerd/run/OutcomeFailurePinLaw -/
def k1 : Class := { plain "com/example/pacerd/pacerd/run/OutcomeFailurePinLaw" (some 0) with
  accessFlags := 49
  interfaces := #[]
  cf := some (fileOf pool1 11 #[] #[{ accessFlags := 1, nameIndex := 5, descriptorIndex := 6, attributes := #[] }, { accessFlags := 10, nameIndex := 14, descriptorIndex := 15, attributes := #[] }, { accessFlags := 10, nameIndex := 23, descriptorIndex := 24, attributes := #[] }, { accessFlags := 10, nameIndex := 54, descriptorIndex := 55, attributes := #[] }, { accessFlags := 9, nameIndex := 59, descriptorIndex := 60, attributes := #[] }] 49 2 #[] #[])
  fields := #[]
  methods := #[k1m0, k1m1, k1m2, k1m3, k1m4]
  instanceTypes := #[]
  staticTypes := #[]
  resolved := Array.replicate 67 none
  statics := none }

def pool2 : Array CpInfo := pool [(1, .class_ 2), (0, u "java/io/Serializable"), (0, .class_ 4), (0, u "java/lang/Object")] 2

/-- java/io/Serializable -/
def k2 : Class := { plain "java/io/Serializable" (some 0) with
  accessFlags := 1537
  interfaces := #[]
  cf := some (fileOf pool2 1 #[] #[] 1537 3 #[] #[])
  fields := #[]
  methods := #[]
  instanceTypes := #[]
  staticTypes := #[]
  resolved := Array.replicate 7 none
  statics := none }

def pool3 : Array CpInfo := pool [(1, .class_ 2), (0, u "java/lang/Comparable"), (0, .class_ 4), (0, u "java/lang/Object")] 7

/-- java/lang/Comparable -/
def k3 : Class := { plain "java/lang/Comparable" (some 0) with
  accessFlags := 1537
  interfaces := #[]
  cf := some (fileOf pool3 1 #[] #[] 1537 3 #[] #[])
  fields := #[]
  methods := #[]
  instanceTypes := #[]
  staticTypes := #[]
  resolved := Array.replicate 12 none
  statics := none }

def pool4 : Array CpInfo := pool [(2, .class_ 4), (1, u "java/lang/CharSequence"), (42, .class_ 48), (0, u "java/lang/CharSequence$1CodePointIterator"), (10, .class_ 60), (0, u "java/lang/CharSequence$1CharIterator"), (5, .class_ 67), (0, u "java/lang/Object")] 63

/-- java/lang/CharSequence -/
def k4 : Class := { plain "java/lang/CharSequence" (some 0) with
  accessFlags := 1537
  interfaces := #[]
  cf := some (fileOf pool4 2 #[.nestMembers #[47, 59]] #[] 1537 66 #[] #[])
  fields := #[]
  methods := #[]
  instanceTypes := #[]
  staticTypes := #[]
  resolved := Array.replicate 131 none
  statics := none }

def pool5 : Array CpInfo := pool [(1, .class_ 2), (0, u "java/lang/constant/Constable"), (0, .class_ 4), (0, u "java/lang/Object")] 6

/-- java/lang/constant/Constable -/
def k5 : Class := { plain "java/lang/constant/Constable" (some 0) with
  accessFlags := 1537
  interfaces := #[]
  cf := some (fileOf pool5 1 #[] #[] 1537 3 #[] #[])
  fields := #[]
  methods := #[]
  instanceTypes := #[]
  staticTypes := #[]
  resolved := Array.replicate 11 none
  statics := none }

def pool6 : Array CpInfo := pool [(1, .class_ 2), (0, u "java/lang/constant/ConstantDesc"), (0, .class_ 4), (0, u "java/lang/Object")] 32

/-- java/lang/constant/ConstantDesc -/
def k6 : Class := { plain "java/lang/constant/ConstantDesc" (some 0) with
  accessFlags := 1537
  interfaces := #[]
  cf := some (fileOf pool6 1 #[] #[] 1537 3 #[] #[])
  fields := #[]
  methods := #[]
  instanceTypes := #[]
  staticTypes := #[]
  resolved := Array.replicate 37 none
  statics := none }

def pool7 : Array CpInfo := pool [(1, .methodref 2 3), (0, .class_ 4), (0, .nameAndType 5 6), (0, u "java/lang/Object"), (0, u "<init>"), (0, u "()V"), (0, .string 8), (0, u ""), (0, .fieldref 10 11), (0, .class_ 12), (0, .nameAndType 13 14), (0, u "java/lang/String"), (0, u "value"), (0, u "[B"), (0, .fieldref 10 16), (0, .nameAndType 17 18), (0, u "coder"), (0, u "B"), (2, u "hash"), (0, u "I"), (2, u "hashIsZero"), (0, u "Z"), (0, .methodref 10 28), (0, .nameAndType 5 29), (0, u "([CIILjava/lang/Void;)V"), (6, u "checkBoundsOffCount"), (0, u "(III)I"), (0, .fieldref 10 39), (0, .nameAndType 40 26), (0, u "COMPACT_STRINGS"), (1, .class_ 44), (1, u "java/lang/StringUTF16"), (0, u "compress"), (1, .methodref 42 48), (0, .nameAndType 49 50), (0, u "coderFromArrayLen"), (0, u "([BI)B"), (3, .methodref 55 56), (0, .class_ 57), (0, .nameAndType 58 59), (0, u "java/util/Arrays"), (0, u "copyOfRange"), (0, u "([BII)[B"), (0, .methodref 42 61), (0, .nameAndType 62 63), (0, u "newBytesFor"), (0, u "(I)[B"), (22, .fieldref 87 88), (0, .class_ 89), (0, .nameAndType 90 91), (0, u "sun/nio/cs/UTF_8"), (0, u "INSTANCE"), (0, u "Lsun/nio/cs/UTF_8;"), (1, .class_ 95), (1, u "java/lang/StringCoding"), (6, .methodref 55 103), (0, .nameAndType 104 105), (0, u "copyOf"), (0, u "([BI)[B"), (22, .methodref 93 129), (0, .nameAndType 130 131), (0, u "hasNegatives"), (0, u "([BII)Z"), (10, u "()Z"), (34, .methodref 42 178), (0, .nameAndType 45 179), (0, u "([CII)[B"), (13, .class_ 195), (1, u "java/lang/System"), (16, .methodref 193 213), (0, .nameAndType 214 215), (0, u "arraycopy"), (0, u "(Ljava/lang/Object;ILjava/lang/Object;II)V"), (36, .methodref 10 253), (0, .nameAndType 254 255), (0, u "encodeUTF8"), (0, u "(B[BZ)[B"), (23, .methodref 280 281), (0, .class_ 14), (0, .nameAndType 282 283), (0, u "clone"), (0, u "()Ljava/lang/Object;"), (33, u "encode"), (16, u "()I"), (0, .methodref 10 336), (0, .nameAndType 17 337), (0, u "()B"), (2, u "()[B"), (19, .methodref 42 361), (0, .nameAndType 362 363), (0, u "getChar"), (0, u "([BI)C"), (1, .class_ 367), (1, u "java/lang/Character"), (1, u "(C)Z"), (34, .methodref 365 405), (0, .nameAndType 406 369), (0, u "isSurrogate"), (66, .methodref 10 474), (0, .nameAndType 475 476), (0, u "encodeUTF8_UTF16"), (0, u "([BZ)[B"), (12, .methodref 10 490), (0, .nameAndType 5 491), (0, u "(Ljava/lang/AbstractStringBuilder;Ljava/lang/Void;)V"), (1, .nameAndType 494 142), (0, u "isLatin1"), (11, .nameAndType 507 334), (0, u "length"), (24, u "getBytes"), (2, .methodref 10 536), (0, .nameAndType 317 537), (0, u "(Ljava/nio/charset/Charset;B[B)[B"), (11, .methodref 550 506), (0, .class_ 551), (0, u "java/lang/AbstractStringBuilder"), (0, .methodref 550 553), (0, .nameAndType 554 340), (0, u "getValue"), (20, .class_ 576), (0, u "java/lang/CharSequence"), (22, u "CASE_INSENSITIVE_ORDER"), (0, u "Ljava/util/Comparator;"), (220, u "([BIB)V"), (188, u "([C)V"), (36, .methodref 550 493), (0, .fieldref 550 1049), (0, .nameAndType 1050 26), (0, u "maybeLatin1"), (2, .fieldref 1054 1055), (0, .class_ 1056), (0, .nameAndType 1057 1058), (0, u "jdk/internal/util/Preconditions"), (0, u "SIOOBE_FORMATTER"), (0, u "Ljava/util/function/BiFunction;"), (5, u "(IIILjava/util/function/BiFunction;)I"), (0, .methodref 1054 1066), (0, .nameAndType 1067 1064), (0, u "checkFromIndexSize"), (33, u "serialPersistentFields"), (0, u "[Ljava/io/ObjectStreamField;"), (0, .class_ 1104), (0, u "java/lang/String$CaseInsensitiveComparator"), (1, .class_ 1107), (0, u "java/io/Serializable"), (0, .class_ 1109), (0, u "java/lang/Comparable"), (0, .class_ 1111), (0, u "java/lang/constant/Constable"), (0, .class_ 1113), (0, u "java/lang/constant/ConstantDesc"), (2, u "serialVersionUID"), (0, u "J"), (3, u "REPL"), (0, u "C"), (2, u "LATIN1"), (1, u "UTF16"), (105, u "(Ljava/lang/StringBuilder;)V"), (11, u "(Ljava/nio/charset/Charset;)[B")] 205

def k7m0 : Method := { name := "<init>", desc := "()V", sig := { parameters := [], returnType := none }, accessFlags := 1, code := none }
def k7c1 : Code := { maxStack := 5, maxLocals := 2, code := jdk_42_method_3_code, exceptionTable := #[], attributes := #[] }
def k7m1 : Method := { name := "<init>", desc := "([C)V", sig := { parameters := [(.array .char)], returnType := none }, accessFlags := 1, code := some k7c1 }
def k7c2 : Code := { maxStack := 4, maxLocals := 3, code := jdk_42_method_18_code, exceptionTable := #[], attributes := #[] }
def k7m2 : Method := { name := "encode", desc := "(Ljava/nio/charset/Charset;B[B)[B", sig := { parameters := [(.object "java/nio/charset/Charset"), .byte, (.array .byte)], returnType := some (.array .byte) }, accessFlags := 10, code := some k7c2 }
def k7c3 : Code := { maxStack := 5, maxLocals := 9, code := jdk_42_method_46_code, exceptionTable := #[], attributes := #[] }
def k7m3 : Method := { name := "encodeUTF8", desc := "(B[BZ)[B", sig := { parameters := [.byte, (.array .byte), .boolean], returnType := some (.array .byte) }, accessFlags := 10, code := some k7c3 }
def k7c4 : Code := { maxStack := 5, maxLocals := 9, code := jdk_42_method_47_code, exceptionTable := #[], attributes := #[] }
def k7m4 : Method := { name := "encodeUTF8_UTF16", desc := "([BZ)[B", sig := { parameters := [(.array .byte), .boolean], returnType := some (.array .byte) }, accessFlags := 10, code := some k7c4 }
def k7c5 : Code := { maxStack := 3, maxLocals := 2, code := jdk_42_method_53_code, exceptionTable := #[], attributes := #[] }
def k7m5 : Method := { name := "<init>", desc := "(Ljava/lang/StringBuilder;)V", sig := { parameters := [(.object "java/lang/StringBuilder")], returnType := none }, accessFlags := 1, code := some k7c5 }
def k7c6 : Code := { maxStack := 2, maxLocals := 1, code := jdk_42_method_54_code, exceptionTable := #[], attributes := #[] }
def k7m6 : Method := { name := "length", desc := "()I", sig := { parameters := [], returnType := some .int }, accessFlags := 1, code := some k7c6 }
def k7c7 : Code := { maxStack := 3, maxLocals := 2, code := jdk_42_method_64_code, exceptionTable := #[], attributes := #[] }
def k7m7 : Method := { name := "getBytes", desc := "(Ljava/nio/charset/Charset;)[B", sig := { parameters := [(.object "java/nio/charset/Charset")], returnType := some (.array .byte) }, accessFlags := 1, code := some k7c7 }
def k7c8 : Code := { maxStack := 5, maxLocals := 4, code := jdk_42_method_147_code, exceptionTable := #[], attributes := #[] }
def k7m8 : Method := { name := "getBytes", desc := "([BIB)V", sig := { parameters := [(.array .byte), .int, .byte], returnType := none }, accessFlags := 0, code := some k7c8 }
def k7c9 : Code := { maxStack := 4, maxLocals := 6, code := jdk_42_method_149_code, exceptionTable := #[], attributes := #[] }
def k7m9 : Method := { name := "<init>", desc := "([CIILjava/lang/Void;)V", sig := { parameters := [(.array .char), .int, .int, (.object "java/lang/Void")], returnType := none }, accessFlags := 2, code := some k7c9 }
def k7c10 : Code := { maxStack := 5, maxLocals := 5, code := jdk_42_method_150_code, exceptionTable := #[], attributes := #[] }
def k7m10 : Method := { name := "<init>", desc := "(Ljava/lang/AbstractStringBuilder;Ljava/lang/Void;)V", sig := { parameters := [(.object "java/lang/AbstractStringBuilder"), (.object "java/lang/Void")], returnType := none }, accessFlags := 0, code := some k7c10 }
def k7c11 : Code := { maxStack := 1, maxLocals := 1, code := jdk_42_method_152_code, exceptionTable := #[], attributes := #[] }
def k7m11 : Method := { name := "coder", desc := "()B", sig := { parameters := [], returnType := some .byte }, accessFlags := 0, code := some k7c11 }
def k7c12 : Code := { maxStack := 4, maxLocals := 3, code := jdk_42_method_157_code, exceptionTable := #[], attributes := #[] }
def k7m12 : Method := { name := "checkBoundsOffCount", desc := "(III)I", sig := { parameters := [.int, .int, .int], returnType := some .int }, accessFlags := 8, code := some k7c12 }
/-- java/lang/String -/
def k7 : Class := { plain "java/lang/String" (some 0) with
  accessFlags := 49
  interfaces := #[2, 3, 4, 5, 6]
  cf := some (fileOf pool7 10 #[.nestMembers #[1103]] #[{ accessFlags := 1, nameIndex := 5, descriptorIndex := 6, attributes := #[] }, { accessFlags := 1, nameIndex := 5, descriptorIndex := 1010, attributes := #[] }, { accessFlags := 10, nameIndex := 317, descriptorIndex := 537, attributes := #[] }, { accessFlags := 10, nameIndex := 254, descriptorIndex := 255, attributes := #[] }, { accessFlags := 10, nameIndex := 475, descriptorIndex := 476, attributes := #[] }, { accessFlags := 1, nameIndex := 5, descriptorIndex := 1233, attributes := #[] }, { accessFlags := 1, nameIndex := 507, descriptorIndex := 334, attributes := #[] }, { accessFlags := 1, nameIndex := 532, descriptorIndex := 1245, attributes := #[] }, { accessFlags := 0, nameIndex := 532, descriptorIndex := 821, attributes := #[] }, { accessFlags := 2, nameIndex := 5, descriptorIndex := 29, attributes := #[] }, { accessFlags := 0, nameIndex := 5, descriptorIndex := 491, attributes := #[] }, { accessFlags := 0, nameIndex := 17, descriptorIndex := 337, attributes := #[] }, { accessFlags := 8, nameIndex := 36, descriptorIndex := 37, attributes := #[] }] 49 2 #[1106, 1108, 575, 1110, 1112] #[{ accessFlags := 18, nameIndex := 13, descriptorIndex := 14, attributes := #[] }, { accessFlags := 18, nameIndex := 17, descriptorIndex := 18, attributes := #[] }, { accessFlags := 2, nameIndex := 21, descriptorIndex := 22, attributes := #[] }, { accessFlags := 2, nameIndex := 25, descriptorIndex := 26, attributes := #[] }, { accessFlags := 26, nameIndex := 1116, descriptorIndex := 1117, attributes := #[] }, { accessFlags := 24, nameIndex := 40, descriptorIndex := 26, attributes := #[] }, { accessFlags := 26, nameIndex := 1101, descriptorIndex := 1102, attributes := #[] }, { accessFlags := 26, nameIndex := 1121, descriptorIndex := 1122, attributes := #[] }, { accessFlags := 25, nameIndex := 599, descriptorIndex := 600, attributes := #[] }, { accessFlags := 24, nameIndex := 1125, descriptorIndex := 18, attributes := #[] }, { accessFlags := 24, nameIndex := 1127, descriptorIndex := 18, attributes := #[] }])
  fields := #[{ name := "value", type := (.array .byte), accessFlags := 18, slot := 0, constantValue := 0 }, { name := "coder", type := .byte, accessFlags := 18, slot := 1, constantValue := 0 }, { name := "hash", type := .int, accessFlags := 2, slot := 2, constantValue := 0 }, { name := "hashIsZero", type := .boolean, accessFlags := 2, slot := 3, constantValue := 0 }, { name := "serialVersionUID", type := .long, accessFlags := 26, slot := 0, constantValue := 0 }, { name := "COMPACT_STRINGS", type := .boolean, accessFlags := 24, slot := 1, constantValue := 0 }, { name := "serialPersistentFields", type := (.array (.object "java/io/ObjectStreamField")), accessFlags := 26, slot := 2, constantValue := 0 }, { name := "REPL", type := .char, accessFlags := 26, slot := 3, constantValue := 0 }, { name := "CASE_INSENSITIVE_ORDER", type := (.object "java/util/Comparator"), accessFlags := 25, slot := 4, constantValue := 0 }, { name := "LATIN1", type := .byte, accessFlags := 24, slot := 5, constantValue := 0 }, { name := "UTF16", type := .byte, accessFlags := 24, slot := 6, constantValue := 0 }]
  methods := #[k7m0, k7m1, k7m2, k7m3, k7m4, k7m5, k7m6, k7m7, k7m8, k7m9, k7m10, k7m11, k7m12]
  instanceTypes := #[(.array .byte), .byte, .int, .boolean]
  staticTypes := #[.long, .boolean, (.array (.object "java/io/ObjectStreamField")), .char, (.object "java/util/Comparator"), .byte, .byte]
  resolved := Array.replicate 1451 none
  statics := some 0 }

def pool8 : Array CpInfo := pool [(1, .methodref 2 3), (0, .class_ 4), (0, .nameAndType 5 6), (0, u "java/lang/Object"), (0, u "<init>"), (0, u "()V"), (0, .class_ 8), (0, u "java/lang/Record")] 13

def k8c0 : Code := { maxStack := 1, maxLocals := 1, code := jdk_30_method_1_code, exceptionTable := #[], attributes := #[] }
def k8m0 : Method := { name := "<init>", desc := "()V", sig := { parameters := [], returnType := none }, accessFlags := 4, code := some k8c0 }
/-- java/lang/Record -/
def k8 : Class := { plain "java/lang/Record" (some 0) with
  accessFlags := 1057
  interfaces := #[]
  cf := some (fileOf pool8 7 #[] #[{ accessFlags := 4, nameIndex := 5, descriptorIndex := 6, attributes := #[] }] 1057 2 #[] #[])
  fields := #[]
  methods := #[k8m0]
  instanceTypes := #[]
  staticTypes := #[]
  resolved := Array.replicate 22 none
  statics := none }

def pool9 : Array CpInfo := pool [(1, .methodref 2 3), (0, .class_ 4), (0, .nameAndType 5 6), (0, u "java/lang/Record"), (0, u "<init>"), (0, u "()V"), (0, .fieldref 8 9), (0, .class_ 10), (0, .nameAndType 11 12), (0, u "com/example/pacerd/pacerd/run/Outcome"), (0, u "status"), (0, u "Lcom/example/pacerd/pacerd/run/RunStatus;"), (0, .fieldref 8 14), (0, .nameAndType 15 16), (0, u "exitCode"), (0, u "Ljava/lang/Integer;"), (0, .fieldref 8 18), (0, .nameAndType 19 16), (0, u "httpStatus"), (0, .fieldref 8 21), (0, .nameAndType 22 23), (0, u "output"), (0, u "[B"), (0, .class_ 25), (0, u "java/lang/StringBuilder"), (0, .methodref 24 3), (0, .string 28), (0, u "pacerd: "), (0, .methodref 24 30), (0, .nameAndType 31 32), (0, u "append"), (0, u "(Ljava/lang/String;)Ljava/lang/StringBuilder;"), (0, .methodref 24 34), (0, .nameAndType 35 36), (0, u "toString"), (0, u "()Ljava/lang/String;"), (0, .fieldref 38 39), (0, .class_ 40), (0, .nameAndType 41 42), (0, u "java/nio/charset/StandardCharsets"), (0, u "UTF_8"), (0, u "Ljava/nio/charset/Charset;"), (0, .methodref 44 45), (0, .class_ 46), (0, .nameAndType 47 48), (0, u "java/lang/String"), (0, u "getBytes"), (0, u "(Ljava/nio/charset/Charset;)[B"), (0, .fieldref 50 51), (0, .class_ 52), (0, .nameAndType 53 12), (0, u "com/example/pacerd/pacerd/run/RunStatus"), (0, u "FAILED"), (0, .methodref 8 55), (0, .nameAndType 5 56), (0, u "(Lcom/example/pacerd/pacerd/run/RunStatus;Ljava/lang/Integer;Ljava/lang/Integer;[B)V"), (11, u "OUTPUT_LIMIT"), (0, u "I"), (5, u "failure"), (0, u "(Ljava/lang/String;)Lcom/example/pacerd/pacerd/run/Outcome;"), (4, u "()Lcom/example/pacerd/pacerd/run/RunStatus;"), (0, u "()Ljava/lang/Integer;"), (0, u "()[B")] 23

def k9c0 : Code := { maxStack := 2, maxLocals := 5, code := prog_25_method_1_code, exceptionTable := #[], attributes := #[] }
def k9m0 : Method := { name := "<init>", desc := "(Lcom/example/pacerd/pacerd/run/RunStatus;Ljava/lang/Integer;Ljava/lang/Integer;[B)V", sig := { parameters := [(.object "com/example/pacerd/pacerd/run/RunStatus"), (.object "java/lang/Integer"), (.object "java/lang/Integer"), (.array .byte)], returnType := none }, accessFlags := 1, code := some k9c0 }
def k9c1 : Code := { maxStack := 6, maxLocals := 2, code := prog_25_method_2_code, exceptionTable := #[], attributes := #[] }
def k9m1 : Method := { name := "failure", desc := "(Ljava/lang/String;)Lcom/example/pacerd/pacerd/run/Outcome;", sig := { parameters := [(.object "java/lang/String")], returnType := some (.object "com/example/pacerd/pacerd/run/Outcome") }, accessFlags := 9, code := some k9c1 }
def k9c2 : Code := { maxStack := 1, maxLocals := 1, code := prog_25_method_7_code, exceptionTable := #[], attributes := #[] }
def k9m2 : Method := { name := "status", desc := "()Lcom/example/pacerd/pacerd/run/RunStatus;", sig := { parameters := [], returnType := some (.object "com/example/pacerd/pacerd/run/RunStatus") }, accessFlags := 1, code := some k9c2 }
def k9c3 : Code := { maxStack := 1, maxLocals := 1, code := prog_25_method_8_code, exceptionTable := #[], attributes := #[] }
def k9m3 : Method := { name := "exitCode", desc := "()Ljava/lang/Integer;", sig := { parameters := [], returnType := some (.object "java/lang/Integer") }, accessFlags := 1, code := some k9c3 }
def k9c4 : Code := { maxStack := 1, maxLocals := 1, code := prog_25_method_9_code, exceptionTable := #[], attributes := #[] }
def k9m4 : Method := { name := "httpStatus", desc := "()Ljava/lang/Integer;", sig := { parameters := [], returnType := some (.object "java/lang/Integer") }, accessFlags := 1, code := some k9c4 }
def k9c5 : Code := { maxStack := 1, maxLocals := 1, code := prog_25_method_10_code, exceptionTable := #[], attributes := #[] }
def k9m5 : Method := { name := "output", desc := "()[B", sig := { parameters := [], returnType := some (.array .byte) }, accessFlags := 1, code := some k9c5 }
/-- com/example/pacerd/pacerd/run/Outcome -/
def k9 : Class := { plain "com/example/pacerd/pacerd/run/Outcome" (some 8) with
  accessFlags := 49
  interfaces := #[]
  cf := some (fileOf pool9 8 #[] #[{ accessFlags := 1, nameIndex := 5, descriptorIndex := 56, attributes := #[] }, { accessFlags := 9, nameIndex := 75, descriptorIndex := 76, attributes := #[] }, { accessFlags := 1, nameIndex := 11, descriptorIndex := 81, attributes := #[] }, { accessFlags := 1, nameIndex := 15, descriptorIndex := 82, attributes := #[] }, { accessFlags := 1, nameIndex := 19, descriptorIndex := 82, attributes := #[] }, { accessFlags := 1, nameIndex := 22, descriptorIndex := 83, attributes := #[] }] 49 2 #[] #[{ accessFlags := 18, nameIndex := 11, descriptorIndex := 12, attributes := #[] }, { accessFlags := 18, nameIndex := 15, descriptorIndex := 16, attributes := #[] }, { accessFlags := 18, nameIndex := 19, descriptorIndex := 16, attributes := #[] }, { accessFlags := 18, nameIndex := 22, descriptorIndex := 23, attributes := #[] }, { accessFlags := 25, nameIndex := 68, descriptorIndex := 69, attributes := #[] }])
  fields := #[{ name := "status", type := (.object "com/example/pacerd/pacerd/run/RunStatus"), accessFlags := 18, slot := 0, constantValue := 0 }, { name := "exitCode", type := (.object "java/lang/Integer"), accessFlags := 18, slot := 1, constantValue := 0 }, { name := "httpStatus", type := (.object "java/lang/Integer"), accessFlags := 18, slot := 2, constantValue := 0 }, { name := "output", type := (.array .byte), accessFlags := 18, slot := 3, constantValue := 0 }, { name := "OUTPUT_LIMIT", type := .int, accessFlags := 25, slot := 0, constantValue := 0 }]
  methods := #[k9m0, k9m1, k9m2, k9m3, k9m4, k9m5]
  instanceTypes := #[(.object "com/example/pacerd/pacerd/run/RunStatus"), (.object "java/lang/Integer"), (.object "java/lang/Integer"), (.array .byte)]
  staticTypes := #[.int]
  resolved := Array.replicate 107 none
  statics := none }

def pool10 : Array CpInfo := pool [(1, .class_ 2), (0, u "java/lang/Appendable"), (0, .class_ 4), (0, u "java/lang/Object")] 9

/-- java/lang/Appendable -/
def k10 : Class := { plain "java/lang/Appendable" (some 0) with
  accessFlags := 1537
  interfaces := #[]
  cf := some (fileOf pool10 1 #[] #[] 1537 3 #[] #[])
  fields := #[]
  methods := #[]
  instanceTypes := #[]
  staticTypes := #[]
  resolved := Array.replicate 14 none
  statics := none }

def pool11 : Array CpInfo := pool [(1, .class_ 2), (0, u "java/lang/String"), (0, .methodref 4 5), (0, .class_ 6), (0, .nameAndType 7 8), (0, u "java/lang/Object"), (0, u "<init>"), (0, u "()V"), (1, .class_ 12), (1, u "java/lang/AbstractStringBuilder"), (0, u "EMPTYVALUE"), (0, u "[B"), (0, .fieldref 10 16), (0, .nameAndType 17 14), (0, u "value"), (0, .fieldref 1 19), (0, .nameAndType 20 21), (0, u "COMPACT_STRINGS"), (0, u "Z"), (0, .fieldref 10 23), (0, .nameAndType 24 25), (0, u "coder"), (0, u "B"), (0, .methodref 27 28), (0, .class_ 29), (0, .nameAndType 30 31), (0, u "java/lang/StringUTF16"), (0, u "newBytesFor"), (0, u "(I)[B"), (0, .methodref 1 33), (0, .nameAndType 34 35), (0, u "length"), (0, u "()I"), (4, .methodref 1 41), (0, .nameAndType 24 42), (0, u "()B"), (2, u "append"), (0, u "(Ljava/lang/String;)Ljava/lang/AbstractStringBuilder;"), (1, .class_ 49), (0, u "java/lang/CharSequence"), (19, u "(Ljava/lang/String;)V"), (5, u "maybeLatin1"), (3, .fieldref 10 80), (0, .nameAndType 81 82), (0, u "count"), (0, u "I"), (0, .methodref 10 84), (0, .nameAndType 85 86), (0, u "isLatin1"), (0, u "()Z"), (1, .class_ 90), (1, u "java/lang/StringLatin1"), (9, .methodref 10 101), (0, .nameAndType 102 103), (0, u "ensureCapacityInternal"), (0, u "(I)V"), (21, .methodref 88 126), (0, .nameAndType 127 128), (0, u "inflate"), (0, u "([BI[BII)V"), (66, .methodref 10 196), (0, .nameAndType 127 8), (11, .methodref 10 209), (0, .nameAndType 210 211), (0, u "putStringAt"), (0, u "(ILjava/lang/String;)V"), (5, u "inflateIfNeededFor"), (2, .nameAndType 221 222), (0, u "getBytes"), (0, u "([BIB)V"), (174, .methodref 10 398), (0, .nameAndType 217 69), (0, .methodref 1 220), (3, u "()[B"), (40, .class_ 445), (0, u "java/lang/Appendable"), (106, u "getValue")] 56

def k11m0 : Method := { name := "<init>", desc := "()V", sig := { parameters := [], returnType := none }, accessFlags := 0, code := none }
def k11c1 : Code := { maxStack := 2, maxLocals := 2, code := jdk_68_method_2_code, exceptionTable := #[], attributes := #[] }
def k11m1 : Method := { name := "<init>", desc := "(I)V", sig := { parameters := [.int], returnType := none }, accessFlags := 0, code := some k11c1 }
def k11c2 : Code := { maxStack := 1, maxLocals := 1, code := jdk_68_method_6_code, exceptionTable := #[], attributes := #[] }
def k11m2 : Method := { name := "length", desc := "()I", sig := { parameters := [], returnType := some .int }, accessFlags := 1, code := some k11c2 }
def k11c3 : Code := { maxStack := 4, maxLocals := 3, code := jdk_68_method_9_code, exceptionTable := #[], attributes := #[] }
def k11m3 : Method := { name := "ensureCapacityInternal", desc := "(I)V", sig := { parameters := [.int], returnType := none }, accessFlags := 2, code := some k11c3 }
def k11c4 : Code := { maxStack := 5, maxLocals := 2, code := jdk_68_method_11_code, exceptionTable := #[], attributes := #[] }
def k11m4 : Method := { name := "inflate", desc := "()V", sig := { parameters := [], returnType := none }, accessFlags := 2, code := some k11c4 }
def k11c5 : Code := { maxStack := 3, maxLocals := 3, code := jdk_68_method_22_code, exceptionTable := #[], attributes := #[] }
def k11m5 : Method := { name := "append", desc := "(Ljava/lang/String;)Ljava/lang/AbstractStringBuilder;", sig := { parameters := [(.object "java/lang/String")], returnType := some (.object "java/lang/AbstractStringBuilder") }, accessFlags := 1, code := some k11c5 }
def k11c6 : Code := { maxStack := 1, maxLocals := 1, code := jdk_68_method_64_code, exceptionTable := #[], attributes := #[] }
def k11m6 : Method := { name := "getValue", desc := "()[B", sig := { parameters := [], returnType := some (.array .byte) }, accessFlags := 16, code := some k11c6 }
def k11c7 : Code := { maxStack := 1, maxLocals := 1, code := jdk_68_method_68_code, exceptionTable := #[], attributes := #[] }
def k11m7 : Method := { name := "isLatin1", desc := "()Z", sig := { parameters := [], returnType := some .boolean }, accessFlags := 16, code := some k11c7 }
def k11c8 : Code := { maxStack := 2, maxLocals := 2, code := jdk_68_method_71_code, exceptionTable := #[], attributes := #[] }
def k11m8 : Method := { name := "inflateIfNeededFor", desc := "(Ljava/lang/String;)V", sig := { parameters := [(.object "java/lang/String")], returnType := none }, accessFlags := 2, code := some k11c8 }
def k11c9 : Code := { maxStack := 4, maxLocals := 3, code := jdk_68_method_73_code, exceptionTable := #[], attributes := #[] }
def k11m9 : Method := { name := "putStringAt", desc := "(ILjava/lang/String;)V", sig := { parameters := [.int, (.object "java/lang/String")], returnType := none }, accessFlags := 2, code := some k11c9 }
/-- java/lang/AbstractStringBuilder -/
def k11 : Class := { plain "java/lang/AbstractStringBuilder" (some 0) with
  accessFlags := 1056
  interfaces := #[10, 4]
  cf := some (fileOf pool11 10 #[] #[{ accessFlags := 0, nameIndex := 7, descriptorIndex := 8, attributes := #[] }, { accessFlags := 0, nameIndex := 7, descriptorIndex := 103, attributes := #[] }, { accessFlags := 1, nameIndex := 34, descriptorIndex := 35, attributes := #[] }, { accessFlags := 2, nameIndex := 102, descriptorIndex := 103, attributes := #[] }, { accessFlags := 2, nameIndex := 127, descriptorIndex := 8, attributes := #[] }, { accessFlags := 1, nameIndex := 45, descriptorIndex := 46, attributes := #[] }, { accessFlags := 16, nameIndex := 552, descriptorIndex := 403, attributes := #[] }, { accessFlags := 16, nameIndex := 85, descriptorIndex := 86, attributes := #[] }, { accessFlags := 2, nameIndex := 217, descriptorIndex := 69, attributes := #[] }, { accessFlags := 2, nameIndex := 210, descriptorIndex := 211, attributes := #[] }] 1056 4 #[444, 48] #[{ accessFlags := 0, nameIndex := 17, descriptorIndex := 14, attributes := #[] }, { accessFlags := 0, nameIndex := 24, descriptorIndex := 25, attributes := #[] }, { accessFlags := 0, nameIndex := 75, descriptorIndex := 21, attributes := #[] }, { accessFlags := 0, nameIndex := 81, descriptorIndex := 82, attributes := #[] }, { accessFlags := 26, nameIndex := 13, descriptorIndex := 14, attributes := #[] }])
  fields := #[{ name := "value", type := (.array .byte), accessFlags := 0, slot := 0, constantValue := 0 }, { name := "coder", type := .byte, accessFlags := 0, slot := 1, constantValue := 0 }, { name := "maybeLatin1", type := .boolean, accessFlags := 0, slot := 2, constantValue := 0 }, { name := "count", type := .int, accessFlags := 0, slot := 3, constantValue := 0 }, { name := "EMPTYVALUE", type := (.array .byte), accessFlags := 26, slot := 0, constantValue := 0 }]
  methods := #[k11m0, k11m1, k11m2, k11m3, k11m4, k11m5, k11m6, k11m7, k11m8, k11m9]
  instanceTypes := #[(.array .byte), .byte, .boolean, .int]
  staticTypes := #[(.array .byte)]
  resolved := Array.replicate 609 none
  statics := none }

def pool12 : Array CpInfo := pool [(1, .methodref 2 3), (0, .class_ 4), (0, .nameAndType 5 6), (0, u "java/lang/AbstractStringBuilder"), (0, u "<init>"), (0, u "(I)V"), (11, .class_ 20), (1, u "java/lang/String"), (3, .class_ 26), (1, u "java/lang/StringBuilder"), (0, u "append"), (0, u "(Ljava/lang/String;)Ljava/lang/StringBuilder;"), (0, .methodref 2 30), (0, .nameAndType 27 31), (0, u "(Ljava/lang/String;)Ljava/lang/AbstractStringBuilder;"), (105, .methodref 18 138), (0, .nameAndType 5 139), (0, u "(Ljava/lang/StringBuilder;)V"), (5, u "()V"), (10, u "()I"), (186, .methodref 2 344), (0, .nameAndType 345 156), (0, u "length"), (3, .class_ 350), (0, u "java/lang/Appendable"), (0, .class_ 352), (0, u "java/io/Serializable"), (0, .class_ 354), (0, u "java/lang/Comparable"), (0, .class_ 356), (0, u "java/lang/CharSequence"), (0, u "serialVersionUID"), (0, u "J"), (40, u "toString"), (0, u "()Ljava/lang/String;")] 21

def k12c0 : Code := { maxStack := 2, maxLocals := 1, code := jdk_67_method_1_code, exceptionTable := #[], attributes := #[] }
def k12m0 : Method := { name := "<init>", desc := "()V", sig := { parameters := [], returnType := none }, accessFlags := 1, code := some k12c0 }
def k12c1 : Code := { maxStack := 2, maxLocals := 2, code := jdk_67_method_7_code, exceptionTable := #[], attributes := #[] }
def k12m1 : Method := { name := "append", desc := "(Ljava/lang/String;)Ljava/lang/StringBuilder;", sig := { parameters := [(.object "java/lang/String")], returnType := some (.object "java/lang/StringBuilder") }, accessFlags := 1, code := some k12c1 }
def k12c2 : Code := { maxStack := 3, maxLocals := 1, code := jdk_67_method_42_code, exceptionTable := #[], attributes := #[] }
def k12m2 : Method := { name := "toString", desc := "()Ljava/lang/String;", sig := { parameters := [], returnType := some (.object "java/lang/String") }, accessFlags := 1, code := some k12c2 }
def k12c3 : Code := { maxStack := 1, maxLocals := 1, code := jdk_67_method_93_code, exceptionTable := #[], attributes := #[] }
def k12m3 : Method := { name := "length", desc := "()I", sig := { parameters := [], returnType := some .int }, accessFlags := 4161, code := some k12c3 }
/-- java/lang/StringBuilder -/
def k12 : Class := { plain "java/lang/StringBuilder" (some 11) with
  accessFlags := 49
  interfaces := #[10, 2, 3, 4]
  cf := some (fileOf pool12 24 #[] #[{ accessFlags := 1, nameIndex := 5, descriptorIndex := 145, attributes := #[] }, { accessFlags := 1, nameIndex := 27, descriptorIndex := 28, attributes := #[] }, { accessFlags := 1, nameIndex := 399, descriptorIndex := 400, attributes := #[] }, { accessFlags := 4161, nameIndex := 345, descriptorIndex := 156, attributes := #[] }] 49 2 #[349, 351, 353, 355] #[{ accessFlags := 24, nameIndex := 357, descriptorIndex := 358, attributes := #[] }])
  fields := #[{ name := "serialVersionUID", type := .long, accessFlags := 24, slot := 0, constantValue := 0 }]
  methods := #[k12m0, k12m1, k12m2, k12m3]
  instanceTypes := #[(.array .byte), .byte, .boolean, .int]
  staticTypes := #[.long]
  resolved := Array.replicate 422 none
  statics := none }

def pool13 : Array CpInfo := pool [(2, .class_ 4), (1, u "java/lang/Object"), (0, u "<init>"), (0, u "()V"), (1, .class_ 10), (1, u "java/lang/System"), (0, u "allowSecurityManager"), (0, u "I"), (16, u "cons"), (0, u "Ljava/io/Console;"), (77, .class_ 110), (1, u "java/lang/System$CallersHolder"), (43, u "initialErrStream"), (0, u "Ljava/io/PrintStream;"), (19, u "security"), (0, u "Ljava/lang/SecurityManager;"), (31, .class_ 209), (0, u "java/lang/System$1"), (7, u "props"), (0, u "Ljava/util/Properties;"), (2, u "lineSeparator"), (0, u "Ljava/lang/String;"), (96, .class_ 321), (1, u "java/lang/System$LoggerFinder"), (5, .class_ 328), (0, u "java/lang/System$Logger"), (67, u "err"), (2, u "out"), (91, u "notSupportedJnuEncoding"), (15, u "in"), (17, u "initialIn"), (0, u "Ljava/io/InputStream;"), (35, u "bootLayer"), (0, u "Ljava/lang/ModuleLayer;"), (99, .class_ 664), (0, u "java/lang/System$2"), (9, u "NEVER"), (2, u "MAYBE"), (49, u "arraycopy"), (0, u "(Ljava/lang/Object;ILjava/lang/Object;II)V"), (72, .class_ 802), (0, u "java/lang/System$Logger$Level")] 31

def k13m0 : Method := { name := "<init>", desc := "()V", sig := { parameters := [], returnType := none }, accessFlags := 2, code := none }
def k13m1 : Method := { name := "arraycopy", desc := "(Ljava/lang/Object;ILjava/lang/Object;II)V", sig := { parameters := [(.object "java/lang/Object"), .int, (.object "java/lang/Object"), .int, .int], returnType := none }, accessFlags := 265, code := none }
/-- java/lang/System -/
def k13 : Class := { plain "java/lang/System" (some 0) with
  accessFlags := 49
  interfaces := #[]
  cf := some (fileOf pool13 8 #[.nestMembers #[319, 327, 801, 108, 663, 208]] #[{ accessFlags := 2, nameIndex := 5, descriptorIndex := 6, attributes := #[] }, { accessFlags := 265, nameIndex := 727, descriptorIndex := 728, attributes := #[] }] 49 2 #[] #[{ accessFlags := 25, nameIndex := 507, descriptorIndex := 526, attributes := #[] }, { accessFlags := 25, nameIndex := 399, descriptorIndex := 155, attributes := #[] }, { accessFlags := 25, nameIndex := 396, descriptorIndex := 155, attributes := #[] }, { accessFlags := 10, nameIndex := 525, descriptorIndex := 526, attributes := #[] }, { accessFlags := 26, nameIndex := 674, descriptorIndex := 12, attributes := #[] }, { accessFlags := 26, nameIndex := 677, descriptorIndex := 12, attributes := #[] }, { accessFlags := 10, nameIndex := 11, descriptorIndex := 12, attributes := #[] }, { accessFlags := 74, nameIndex := 175, descriptorIndex := 176, attributes := #[] }, { accessFlags := 10, nameIndex := 491, descriptorIndex := 222, attributes := #[] }, { accessFlags := 74, nameIndex := 29, descriptorIndex := 30, attributes := #[] }, { accessFlags := 74, nameIndex := 154, descriptorIndex := 155, attributes := #[] }, { accessFlags := 10, nameIndex := 217, descriptorIndex := 218, attributes := #[] }, { accessFlags := 10, nameIndex := 221, descriptorIndex := 222, attributes := #[] }, { accessFlags := 8, nameIndex := 562, descriptorIndex := 563, attributes := #[] }])
  fields := #[{ name := "in", type := (.object "java/io/InputStream"), accessFlags := 25, slot := 0, constantValue := 0 }, { name := "out", type := (.object "java/io/PrintStream"), accessFlags := 25, slot := 1, constantValue := 0 }, { name := "err", type := (.object "java/io/PrintStream"), accessFlags := 25, slot := 2, constantValue := 0 }, { name := "initialIn", type := (.object "java/io/InputStream"), accessFlags := 10, slot := 3, constantValue := 0 }, { name := "NEVER", type := .int, accessFlags := 26, slot := 4, constantValue := 0 }, { name := "MAYBE", type := .int, accessFlags := 26, slot := 5, constantValue := 0 }, { name := "allowSecurityManager", type := .int, accessFlags := 10, slot := 6, constantValue := 0 }, { name := "security", type := (.object "java/lang/SecurityManager"), accessFlags := 74, slot := 7, constantValue := 0 }, { name := "notSupportedJnuEncoding", type := (.object "java/lang/String"), accessFlags := 10, slot := 8, constantValue := 0 }, { name := "cons", type := (.object "java/io/Console"), accessFlags := 74, slot := 9, constantValue := 0 }, { name := "initialErrStream", type := (.object "java/io/PrintStream"), accessFlags := 74, slot := 10, constantValue := 0 }, { name := "props", type := (.object "java/util/Properties"), accessFlags := 10, slot := 11, constantValue := 0 }, { name := "lineSeparator", type := (.object "java/lang/String"), accessFlags := 10, slot := 12, constantValue := 0 }, { name := "bootLayer", type := (.object "java/lang/ModuleLayer"), accessFlags := 8, slot := 13, constantValue := 0 }]
  methods := #[k13m0, k13m1]
  instanceTypes := #[]
  staticTypes := #[(.object "java/io/InputStream"), (.object "java/io/PrintStream"), (.object "java/io/PrintStream"), (.object "java/io/InputStream"), .int, .int, .int, (.object "java/lang/SecurityManager"), (.object "java/lang/String"), (.object "java/io/Console"), (.object "java/io/PrintStream"), (.object "java/util/Properties"), (.object "java/lang/String"), (.object "java/lang/ModuleLayer")]
  resolved := Array.replicate 834 none
  statics := none }

def pool14 : Array CpInfo := pool [(2, .class_ 4), (1, u "java/lang/Object"), (0, u "<init>"), (0, u "()V"), (7, .class_ 16), (1, u "java/util/Arrays"), (57, .class_ 76), (1, u "java/util/Arrays$NaturalOrder"), (36, .class_ 115), (1, u "java/util/Arrays$LegacyMergeSort"), (1, u "Z"), (21, u "copyOfRange"), (10, .methodref 151 152), (0, .class_ 153), (0, .nameAndType 154 155), (0, u "java/lang/System"), (0, u "arraycopy"), (0, u "(Ljava/lang/Object;ILjava/lang/Object;II)V"), (146, u "copyOf"), (1, .methodref 305 306), (0, .class_ 307), (0, .nameAndType 308 309), (0, u "java/lang/Math"), (0, u "min"), (0, u "(II)I"), (29, .methodref 14 340), (0, .nameAndType 341 342), (0, u "copyOfRangeByte"), (0, u "([BII)[B"), (0, .methodref 14 344), (0, .nameAndType 345 346), (0, u "checkLength"), (0, u "(II)V"), (28, .class_ 376), (0, u "java/util/Arrays$ArrayList"), (68, u "$assertionsDisabled"), (269, u "MIN_ARRAY_SORT_GRAN"), (0, u "I"), (2, u "INSERTIONSORT_THRESHOLD"), (149, u "([BI)[B"), (105, .class_ 976), (0, u "java/util/Arrays$ArrayItr")] 52

def k14m0 : Method := { name := "<init>", desc := "()V", sig := { parameters := [], returnType := none }, accessFlags := 2, code := none }
def k14c1 : Code := { maxStack := 6, maxLocals := 3, code := jdk_65_method_121_code, exceptionTable := #[], attributes := #[] }
def k14m1 : Method := { name := "copyOf", desc := "([BI)[B", sig := { parameters := [(.array .byte), .int], returnType := some (.array .byte) }, accessFlags := 9, code := some k14c1 }
def k14c2 : Code := { maxStack := 4, maxLocals := 2, code := jdk_65_method_131_code, exceptionTable := #[], attributes := #[] }
def k14m2 : Method := { name := "checkLength", desc := "(II)V", sig := { parameters := [.int, .int], returnType := none }, accessFlags := 10, code := some k14c2 }
def k14c3 : Code := { maxStack := 3, maxLocals := 3, code := jdk_65_method_132_code, exceptionTable := #[], attributes := #[] }
def k14m3 : Method := { name := "copyOfRange", desc := "([BII)[B", sig := { parameters := [(.array .byte), .int, .int], returnType := some (.array .byte) }, accessFlags := 9, code := some k14c3 }
def k14c4 : Code := { maxStack := 6, maxLocals := 5, code := jdk_65_method_133_code, exceptionTable := #[], attributes := #[] }
def k14m4 : Method := { name := "copyOfRangeByte", desc := "([BII)[B", sig := { parameters := [(.array .byte), .int, .int], returnType := some (.array .byte) }, accessFlags := 10, code := some k14c4 }
/-- java/util/Arrays -/
def k14 : Class := { plain "java/util/Arrays" (some 0) with
  accessFlags := 49
  interfaces := #[]
  cf := some (fileOf pool14 14 #[.nestMembers #[975, 375, 113, 74]] #[{ accessFlags := 2, nameIndex := 5, descriptorIndex := 6, attributes := #[] }, { accessFlags := 9, nameIndex := 302, descriptorIndex := 869, attributes := #[] }, { accessFlags := 10, nameIndex := 345, descriptorIndex := 346, attributes := #[] }, { accessFlags := 9, nameIndex := 139, descriptorIndex := 342, attributes := #[] }, { accessFlags := 10, nameIndex := 341, descriptorIndex := 342, attributes := #[] }] 49 2 #[] #[{ accessFlags := 26, nameIndex := 715, descriptorIndex := 716, attributes := #[] }, { accessFlags := 26, nameIndex := 719, descriptorIndex := 716, attributes := #[] }, { accessFlags := 4120, nameIndex := 445, descriptorIndex := 117, attributes := #[] }])
  fields := #[{ name := "MIN_ARRAY_SORT_GRAN", type := .int, accessFlags := 26, slot := 0, constantValue := 0 }, { name := "INSERTIONSORT_THRESHOLD", type := .int, accessFlags := 26, slot := 1, constantValue := 0 }, { name := "$assertionsDisabled", type := .boolean, accessFlags := 4120, slot := 2, constantValue := 0 }]
  methods := #[k14m0, k14m1, k14m2, k14m3, k14m4]
  instanceTypes := #[]
  staticTypes := #[.int, .int, .boolean]
  resolved := Array.replicate 1029 none
  statics := none }

def pool15 : Array CpInfo := pool [(1, .class_ 2), (0, u "java/lang/Math"), (1, .class_ 6), (1, u "java/lang/Object"), (0, u "<init>"), (0, u "()V"), (89, .class_ 100), (1, u "java/lang/Math$RandomNumberGeneratorHolder"), (71, u "negativeZeroFloatBits"), (0, u "J"), (2, u "negativeZeroDoubleBits"), (24, u "min"), (43, u "$assertionsDisabled"), (0, u "Z"), (88, u "(II)I"), (2, u "twoToTheDoubleScaleDown"), (0, u "D"), (4, u "twoToTheDoubleScaleUp"), (9, u "E"), (3, u "PI"), (2, u "TAU"), (2, u "DEGREES_TO_RADIANS"), (0, u "RADIANS_TO_DEGREES")] 94

def k15m0 : Method := { name := "<init>", desc := "()V", sig := { parameters := [], returnType := none }, accessFlags := 2, code := none }
def k15c1 : Code := { maxStack := 2, maxLocals := 2, code := jdk_29_method_69_code, exceptionTable := #[], attributes := #[] }
def k15m1 : Method := { name := "min", desc := "(II)I", sig := { parameters := [.int, .int], returnType := some .int }, accessFlags := 9, code := some k15c1 }
/-- java/lang/Math -/
def k15 : Class := { plain "java/lang/Math" (some 0) with
  accessFlags := 49
  interfaces := #[]
  cf := some (fileOf pool15 1 #[.nestMembers #[98]] #[{ accessFlags := 2, nameIndex := 7, descriptorIndex := 8, attributes := #[] }, { accessFlags := 9, nameIndex := 201, descriptorIndex := 335, attributes := #[] }] 49 4 #[] #[{ accessFlags := 25, nameIndex := 354, descriptorIndex := 339, attributes := #[] }, { accessFlags := 25, nameIndex := 358, descriptorIndex := 339, attributes := #[] }, { accessFlags := 25, nameIndex := 361, descriptorIndex := 339, attributes := #[] }, { accessFlags := 26, nameIndex := 364, descriptorIndex := 339, attributes := #[] }, { accessFlags := 26, nameIndex := 365, descriptorIndex := 339, attributes := #[] }, { accessFlags := 26, nameIndex := 172, descriptorIndex := 173, attributes := #[] }, { accessFlags := 26, nameIndex := 176, descriptorIndex := 173, attributes := #[] }, { accessFlags := 8, nameIndex := 344, descriptorIndex := 339, attributes := #[] }, { accessFlags := 8, nameIndex := 338, descriptorIndex := 339, attributes := #[] }, { accessFlags := 4120, nameIndex := 245, descriptorIndex := 246, attributes := #[] }])
  fields := #[{ name := "E", type := .double, accessFlags := 25, slot := 0, constantValue := 0 }, { name := "PI", type := .double, accessFlags := 25, slot := 1, constantValue := 0 }, { name := "TAU", type := .double, accessFlags := 25, slot := 2, constantValue := 0 }, { name := "DEGREES_TO_RADIANS", type := .double, accessFlags := 26, slot := 3, constantValue := 0 }, { name := "RADIANS_TO_DEGREES", type := .double, accessFlags := 26, slot := 4, constantValue := 0 }, { name := "negativeZeroFloatBits", type := .long, accessFlags := 26, slot := 5, constantValue := 0 }, { name := "negativeZeroDoubleBits", type := .long, accessFlags := 26, slot := 6, constantValue := 0 }, { name := "twoToTheDoubleScaleUp", type := .double, accessFlags := 8, slot := 7, constantValue := 0 }, { name := "twoToTheDoubleScaleDown", type := .double, accessFlags := 8, slot := 8, constantValue := 0 }, { name := "$assertionsDisabled", type := .boolean, accessFlags := 4120, slot := 9, constantValue := 0 }]
  methods := #[k15m0, k15m1]
  instanceTypes := #[]
  staticTypes := #[.double, .double, .double, .double, .double, .long, .long, .double, .double, .boolean]
  resolved := Array.replicate 460 none
  statics := none }

def pool16 : Array CpInfo := pool [(2, .class_ 4), (1, u "java/lang/Object"), (0, u "<init>"), (0, u "()V"), (14, .class_ 23), (1, u "java/nio/charset/StandardCharsets"), (0, u "US_ASCII"), (0, u "Ljava/nio/charset/Charset;"), (7, u "ISO_8859_1"), (7, u "UTF_8"), (5, u "UTF_16BE"), (5, u "UTF_16LE"), (5, u "UTF_16")] 8

def k16m0 : Method := { name := "<init>", desc := "()V", sig := { parameters := [], returnType := none }, accessFlags := 2, code := none }
/-- java/nio/charset/StandardCharsets -/
def k16 : Class := { plain "java/nio/charset/StandardCharsets" (some 0) with
  accessFlags := 49
  interfaces := #[]
  cf := some (fileOf pool16 21 #[] #[{ accessFlags := 2, nameIndex := 5, descriptorIndex := 6, attributes := #[] }] 49 2 #[] #[{ accessFlags := 25, nameIndex := 24, descriptorIndex := 25, attributes := #[] }, { accessFlags := 25, nameIndex := 33, descriptorIndex := 25, attributes := #[] }, { accessFlags := 25, nameIndex := 41, descriptorIndex := 25, attributes := #[] }, { accessFlags := 25, nameIndex := 47, descriptorIndex := 25, attributes := #[] }, { accessFlags := 25, nameIndex := 53, descriptorIndex := 25, attributes := #[] }, { accessFlags := 25, nameIndex := 59, descriptorIndex := 25, attributes := #[] }])
  fields := #[{ name := "US_ASCII", type := (.object "java/nio/charset/Charset"), accessFlags := 25, slot := 0, constantValue := 0 }, { name := "ISO_8859_1", type := (.object "java/nio/charset/Charset"), accessFlags := 25, slot := 1, constantValue := 0 }, { name := "UTF_8", type := (.object "java/nio/charset/Charset"), accessFlags := 25, slot := 2, constantValue := 0 }, { name := "UTF_16BE", type := (.object "java/nio/charset/Charset"), accessFlags := 25, slot := 3, constantValue := 0 }, { name := "UTF_16LE", type := (.object "java/nio/charset/Charset"), accessFlags := 25, slot := 4, constantValue := 0 }, { name := "UTF_16", type := (.object "java/nio/charset/Charset"), accessFlags := 25, slot := 5, constantValue := 0 }]
  methods := #[k16m0]
  instanceTypes := #[]
  staticTypes := #[(.object "java/nio/charset/Charset"), (.object "java/nio/charset/Charset"), (.object "java/nio/charset/Charset"), (.object "java/nio/charset/Charset"), (.object "java/nio/charset/Charset"), (.object "java/nio/charset/Charset")]
  resolved := Array.replicate 68 none
  statics := some 1 }

def pool17 : Array CpInfo := pool [(18, .class_ 20), (1, u "java/nio/charset/Charset"), (0, u "cache1"), (0, u "[Ljava/lang/Object;"), (2, u "cache2"), (0, .class_ 27), (0, u "java/lang/Object"), (0, .class_ 29), (0, u "java/nio/charset/Charset$1"), (4, .class_ 36), (1, u "java/nio/charset/Charset$ThreadTrackHolder"), (21, .class_ 59), (0, u "java/nio/charset/Charset$2"), (11, .class_ 73), (1, u "java/nio/charset/Charset$ExtendedProviderHolder"), (22, u "standardProvider"), (0, u "Ljava/nio/charset/spi/CharsetProvider;"), (29, u "name"), (7, .class_ 136), (0, u "java/nio/charset/Charset$3"), (5, u "defaultCharset"), (0, u "Ljava/nio/charset/Charset;"), (14, u "zeroAliases"), (0, u "[Ljava/lang/String;"), (29, u "Ljava/lang/String;"), (2, u "aliases"), (2, u "aliasSet"), (0, u "Ljava/util/Set;"), (82, .class_ 280), (0, u "java/lang/Comparable"), (84, .class_ 366), (0, u "java/nio/charset/Charset$ExtendedProviderHolder$1")] 3

/-- java/nio/charset/Charset -/
def k17 : Class := { plain "java/nio/charset/Charset" (some 0) with
  accessFlags := 1057
  interfaces := #[3]
  cf := some (fileOf pool17 18 #[.nestMembers #[71, 365, 34, 135, 58, 28]] #[] 1057 26 #[279] #[{ accessFlags := 26, nameIndex := 96, descriptorIndex := 97, attributes := #[] }, { accessFlags := 26, nameIndex := 158, descriptorIndex := 159, attributes := #[] }, { accessFlags := 74, nameIndex := 21, descriptorIndex := 22, attributes := #[] }, { accessFlags := 74, nameIndex := 25, descriptorIndex := 22, attributes := #[] }, { accessFlags := 10, nameIndex := 142, descriptorIndex := 143, attributes := #[] }, { accessFlags := 18, nameIndex := 127, descriptorIndex := 189, attributes := #[] }, { accessFlags := 18, nameIndex := 192, descriptorIndex := 159, attributes := #[] }, { accessFlags := 2, nameIndex := 195, descriptorIndex := 196, attributes := #[] }])
  fields := #[{ name := "standardProvider", type := (.object "java/nio/charset/spi/CharsetProvider"), accessFlags := 26, slot := 0, constantValue := 0 }, { name := "zeroAliases", type := (.array (.object "java/lang/String")), accessFlags := 26, slot := 1, constantValue := 0 }, { name := "cache1", type := (.array (.object "java/lang/Object")), accessFlags := 74, slot := 2, constantValue := 0 }, { name := "cache2", type := (.array (.object "java/lang/Object")), accessFlags := 74, slot := 3, constantValue := 0 }, { name := "defaultCharset", type := (.object "java/nio/charset/Charset"), accessFlags := 10, slot := 4, constantValue := 0 }, { name := "name", type := (.object "java/lang/String"), accessFlags := 18, slot := 0, constantValue := 0 }, { name := "aliases", type := (.array (.object "java/lang/String")), accessFlags := 18, slot := 1, constantValue := 0 }, { name := "aliasSet", type := (.object "java/util/Set"), accessFlags := 2, slot := 2, constantValue := 0 }]
  methods := #[]
  instanceTypes := #[(.object "java/lang/String"), (.array (.object "java/lang/String")), (.object "java/util/Set")]
  staticTypes := #[(.object "java/nio/charset/spi/CharsetProvider"), (.array (.object "java/lang/String")), (.array (.object "java/lang/Object")), (.array (.object "java/lang/Object")), (.object "java/nio/charset/Charset")]
  resolved := Array.replicate 370 none
  statics := none }

def pool18 : Array CpInfo := pool [(1, .class_ 2), (0, u "sun/nio/cs/HistoricallyNamedCharset"), (0, .class_ 4), (0, u "java/lang/Object")] 4

/-- sun/nio/cs/HistoricallyNamedCharset -/
def k18 : Class := { plain "sun/nio/cs/HistoricallyNamedCharset" (some 0) with
  accessFlags := 1537
  interfaces := #[]
  cf := some (fileOf pool18 1 #[] #[] 1537 3 #[] #[])
  fields := #[]
  methods := #[]
  instanceTypes := #[]
  staticTypes := #[]
  resolved := Array.replicate 9 none
  statics := none }

def pool19 : Array CpInfo := pool [(2, .class_ 4), (1, u "java/nio/charset/Charset"), (130, .class_ 136), (0, u "sun/nio/cs/Unicode"), (0, .class_ 138), (0, u "sun/nio/cs/HistoricallyNamedCharset")] 15

/-- sun/nio/cs/Unicode -/
def k19 : Class := { plain "sun/nio/cs/Unicode" (some 17) with
  accessFlags := 1056
  interfaces := #[18]
  cf := some (fileOf pool19 135 #[] #[] 1056 2 #[137] #[])
  fields := #[]
  methods := #[]
  instanceTypes := #[(.object "java/lang/String"), (.array (.object "java/lang/String")), (.object "java/util/Set")]
  staticTypes := #[]
  resolved := Array.replicate 154 none
  statics := none }

def pool20 : Array CpInfo := pool [(10, .class_ 12), (1, u "sun/nio/cs/Unicode"), (0, u "<init>"), (3, .class_ 18), (0, u "sun/nio/cs/UTF_8$Decoder"), (3, .class_ 23), (0, u "sun/nio/cs/UTF_8$Encoder"), (15, .class_ 40), (0, u "sun/nio/cs/UTF_8"), (2, u "()V"), (2, u "INSTANCE"), (0, u "Lsun/nio/cs/UTF_8;"), (8, u "JLA"), (0, u "Ljdk/internal/access/JavaLangAccess;")] 26

def k20m0 : Method := { name := "<init>", desc := "()V", sig := { parameters := [], returnType := none }, accessFlags := 1, code := none }
/-- sun/nio/cs/UTF_8 -/
def k20 : Class := { plain "sun/nio/cs/UTF_8" (some 19) with
  accessFlags := 49
  interfaces := #[]
  cf := some (fileOf pool20 39 #[.nestMembers #[22, 17]] #[{ accessFlags := 1, nameIndex := 13, descriptorIndex := 43, attributes := #[] }] 49 10 #[] #[{ accessFlags := 25, nameIndex := 46, descriptorIndex := 47, attributes := #[] }, { accessFlags := 26, nameIndex := 56, descriptorIndex := 57, attributes := #[] }])
  fields := #[{ name := "INSTANCE", type := (.object "sun/nio/cs/UTF_8"), accessFlags := 25, slot := 0, constantValue := 0 }, { name := "JLA", type := (.object "jdk/internal/access/JavaLangAccess"), accessFlags := 26, slot := 1, constantValue := 0 }]
  methods := #[k20m0]
  instanceTypes := #[(.object "java/lang/String"), (.array (.object "java/lang/String")), (.object "java/util/Set")]
  staticTypes := #[(.object "sun/nio/cs/UTF_8"), (.object "jdk/internal/access/JavaLangAccess")]
  resolved := Array.replicate 84 none
  statics := some 2 }

def pool21 : Array CpInfo := pool [(2, .class_ 4), (1, u "java/lang/Object"), (0, u "<init>"), (0, u "()V"), (0, .methodref 8 9), (0, .class_ 10), (0, .nameAndType 11 12), (0, u "java/lang/StringCoding"), (0, u "countPositives"), (0, u "([BII)I"), (11, u "hasNegatives"), (0, u "([BII)Z")] 23

def k21m0 : Method := { name := "<init>", desc := "()V", sig := { parameters := [], returnType := none }, accessFlags := 2, code := none }
def k21c1 : Code := { maxStack := 3, maxLocals := 3, code := jdk_123_method_2_code, exceptionTable := #[], attributes := #[] }
def k21m1 : Method := { name := "hasNegatives", desc := "([BII)Z", sig := { parameters := [(.array .byte), .int, .int], returnType := some .boolean }, accessFlags := 9, code := some k21c1 }
def k21c2 : Code := { maxStack := 2, maxLocals := 5, code := jdk_123_method_3_code, exceptionTable := #[], attributes := #[] }
def k21m2 : Method := { name := "countPositives", desc := "([BII)I", sig := { parameters := [(.array .byte), .int, .int], returnType := some .int }, accessFlags := 9, code := some k21c2 }
/-- java/lang/StringCoding -/
def k21 : Class := { plain "java/lang/StringCoding" (some 0) with
  accessFlags := 32
  interfaces := #[]
  cf := some (fileOf pool21 8 #[] #[{ accessFlags := 2, nameIndex := 5, descriptorIndex := 6, attributes := #[] }, { accessFlags := 9, nameIndex := 24, descriptorIndex := 25, attributes := #[] }, { accessFlags := 9, nameIndex := 11, descriptorIndex := 12, attributes := #[] }] 32 2 #[] #[])
  fields := #[]
  methods := #[k21m0, k21m1, k21m2]
  instanceTypes := #[]
  staticTypes := #[]
  resolved := Array.replicate 49 none
  statics := none }

def pool22 : Array CpInfo := pool [(1, .class_ 2), (0, u "java/lang/Cloneable"), (0, .class_ 4), (0, u "java/lang/Object")] 2

/-- java/lang/Cloneable -/
def k22 : Class := { plain "java/lang/Cloneable" (some 0) with
  accessFlags := 1537
  interfaces := #[]
  cf := some (fileOf pool22 1 #[] #[] 1537 3 #[] #[])
  fields := #[]
  methods := #[]
  instanceTypes := #[]
  staticTypes := #[]
  resolved := Array.replicate 7 none
  statics := none }

def pool23 : Array CpInfo := pool [(2, .class_ 4), (1, u "java/lang/Enum"), (0, u "name"), (0, u "Ljava/lang/String;"), (2, u "ordinal"), (0, u "I"), (1, .class_ 14), (1, u "java/lang/Object"), (4, u "hash"), (86, .class_ 108), (1, u "java/lang/Enum$EnumDesc"), (2, .class_ 112), (0, u "java/lang/constant/Constable"), (0, .class_ 114), (0, u "java/lang/Comparable"), (0, .class_ 116), (0, u "java/io/Serializable")] 87

/-- java/lang/Enum -/
def k23 : Class := { plain "java/lang/Enum" (some 0) with
  accessFlags := 1057
  interfaces := #[5, 3, 2]
  cf := some (fileOf pool23 2 #[.nestMembers #[106]] #[] 1057 12 #[111, 113, 115] #[{ accessFlags := 18, nameIndex := 5, descriptorIndex := 6, attributes := #[] }, { accessFlags := 18, nameIndex := 9, descriptorIndex := 10, attributes := #[] }, { accessFlags := 2, nameIndex := 19, descriptorIndex := 10, attributes := #[] }])
  fields := #[{ name := "name", type := (.object "java/lang/String"), accessFlags := 18, slot := 0, constantValue := 0 }, { name := "ordinal", type := .int, accessFlags := 18, slot := 1, constantValue := 0 }, { name := "hash", type := .int, accessFlags := 2, slot := 2, constantValue := 0 }]
  methods := #[]
  instanceTypes := #[(.object "java/lang/String"), .int, .int]
  staticTypes := #[]
  resolved := Array.replicate 204 none
  statics := none }

def pool24 : Array CpInfo := pool [(1, .class_ 2), (0, u "com/example/pacerd/pacerd/run/RunStatus"), (2, u "RUNNING"), (0, u "Lcom/example/pacerd/pacerd/run/RunStatus;"), (2, u "SUCCEEDED"), (2, u "FAILED"), (2, u "TIMED_OUT"), (2, u "ABANDONED"), (2, u "$VALUES"), (0, u "[Lcom/example/pacerd/pacerd/run/RunStatus;"), (6, .class_ 31), (1, u "java/lang/Enum"), (8, u "label"), (0, u "Ljava/lang/String;")] 71

/-- com/example/pacerd/pacerd/run/RunStatus -/
def k24 : Class := { plain "com/example/pacerd/pacerd/run/RunStatus" (some 23) with
  accessFlags := 16433
  interfaces := #[]
  cf := some (fileOf pool24 1 #[] #[] 16433 29 #[] #[{ accessFlags := 16409, nameIndex := 5, descriptorIndex := 6, attributes := #[] }, { accessFlags := 16409, nameIndex := 9, descriptorIndex := 6, attributes := #[] }, { accessFlags := 16409, nameIndex := 12, descriptorIndex := 6, attributes := #[] }, { accessFlags := 16409, nameIndex := 15, descriptorIndex := 6, attributes := #[] }, { accessFlags := 16409, nameIndex := 18, descriptorIndex := 6, attributes := #[] }, { accessFlags := 18, nameIndex := 40, descriptorIndex := 41, attributes := #[] }, { accessFlags := 4122, nameIndex := 21, descriptorIndex := 22, attributes := #[] }])
  fields := #[{ name := "RUNNING", type := (.object "com/example/pacerd/pacerd/run/RunStatus"), accessFlags := 16409, slot := 0, constantValue := 0 }, { name := "SUCCEEDED", type := (.object "com/example/pacerd/pacerd/run/RunStatus"), accessFlags := 16409, slot := 1, constantValue := 0 }, { name := "FAILED", type := (.object "com/example/pacerd/pacerd/run/RunStatus"), accessFlags := 16409, slot := 2, constantValue := 0 }, { name := "TIMED_OUT", type := (.object "com/example/pacerd/pacerd/run/RunStatus"), accessFlags := 16409, slot := 3, constantValue := 0 }, { name := "ABANDONED", type := (.object "com/example/pacerd/pacerd/run/RunStatus"), accessFlags := 16409, slot := 4, constantValue := 0 }, { name := "label", type := (.object "java/lang/String"), accessFlags := 18, slot := 3, constantValue := 0 }, { name := "$VALUES", type := (.array (.object "com/example/pacerd/pacerd/run/RunStatus")), accessFlags := 4122, slot := 5, constantValue := 0 }]
  methods := #[]
  instanceTypes := #[(.object "java/lang/String"), .int, .int, (.object "java/lang/String")]
  staticTypes := #[(.object "com/example/pacerd/pacerd/run/RunStatus"), (.object "com/example/pacerd/pacerd/run/RunStatus"), (.object "com/example/pacerd/pacerd/run/RunStatus"), (.object "com/example/pacerd/pacerd/run/RunStatus"), (.object "com/example/pacerd/pacerd/run/RunStatus"), (.array (.object "com/example/pacerd/pacerd/run/RunStatus"))]
  resolved := Array.replicate 113 none
  statics := some 3 }

def pool25 : Array CpInfo := pool [(3, .class_ 4), (0, u "java/lang/String"), (1, .class_ 8), (1, u "java/lang/Object"), (0, u "<init>"), (0, u "()V"), (0, .methodref 12 13), (0, .class_ 14), (0, .nameAndType 15 16), (0, u "java/lang/StringUTF16"), (0, u "newBytesLength"), (0, u "(I)I"), (3, .integer 1073741823), (23, .fieldref 12 45), (0, .nameAndType 46 47), (0, u "$assertionsDisabled"), (0, u "Z"), (0, .methodref 12 49), (0, .nameAndType 50 51), (0, u "length"), (0, u "([B)I"), (7, .fieldref 12 60), (0, .nameAndType 61 62), (0, u "HI_BYTE_SHIFT"), (0, u "I"), (0, .fieldref 12 64), (0, .nameAndType 65 62), (0, u "LO_BYTE_SHIFT"), (5, .methodref 12 72), (0, .nameAndType 73 74), (0, u "getChar"), (0, u "([BI)C"), (24, u "(II[B)V"), (7, .methodref 12 108), (0, .nameAndType 109 110), (0, u "newBytesFor"), (0, u "(I)[B"), (0, .methodref 12 112), (0, .nameAndType 113 114), (0, u "putChar"), (0, u "([BII)V"), (0, .methodref 12 116), (0, .nameAndType 117 118), (0, u "compress"), (0, u "([CI[BII)I"), (0, .methodref 12 120), (0, .nameAndType 121 122), (0, u "toBytes"), (0, u "([CII)[B"), (17, u "inflate"), (0, u "([BI[BII)V"), (31, .methodref 12 174), (0, .nameAndType 175 99), (0, u "checkBoundsOffCount"), (85, u "coderFromArrayLen"), (0, u "([BI)B"), (18, u "(III)I"), (87, .class_ 371), (1, u "java/lang/StringUTF16$LinesSpliterator"), (47, .methodref 3 420), (0, .nameAndType 175 281), (9, u "MAX_LENGTH"), (196, .class_ 628), (0, u "java/lang/StringUTF16$CodePointsSpliterator"), (0, .class_ 630), (0, u "java/lang/StringUTF16$CharsSpliterator")] 4

def k25m0 : Method := { name := "<init>", desc := "()V", sig := { parameters := [], returnType := none }, accessFlags := 0, code := none }
def k25c1 : Code := { maxStack := 1, maxLocals := 1, code := jdk_52_method_2_code, exceptionTable := #[], attributes := #[] }
def k25m1 : Method := { name := "newBytesFor", desc := "(I)[B", sig := { parameters := [.int], returnType := some (.array .byte) }, accessFlags := 9, code := some k25c1 }
def k25c2 : Code := { maxStack := 4, maxLocals := 1, code := jdk_52_method_3_code, exceptionTable := #[], attributes := #[] }
def k25m2 : Method := { name := "newBytesLength", desc := "(I)I", sig := { parameters := [.int], returnType := some .int }, accessFlags := 9, code := some k25c2 }
def k25c3 : Code := { maxStack := 4, maxLocals := 3, code := jdk_52_method_4_code, exceptionTable := #[], attributes := #[] }
def k25m3 : Method := { name := "putChar", desc := "([BII)V", sig := { parameters := [(.array .byte), .int, .int], returnType := none }, accessFlags := 8, code := some k25c3 }
def k25c4 : Code := { maxStack := 3, maxLocals := 2, code := jdk_52_method_5_code, exceptionTable := #[], attributes := #[] }
def k25m4 : Method := { name := "getChar", desc := "([BI)C", sig := { parameters := [(.array .byte), .int], returnType := some .char }, accessFlags := 8, code := some k25c4 }
def k25c5 : Code := { maxStack := 2, maxLocals := 1, code := jdk_52_method_6_code, exceptionTable := #[], attributes := #[] }
def k25m5 : Method := { name := "length", desc := "([B)I", sig := { parameters := [(.array .byte)], returnType := some .int }, accessFlags := 9, code := some k25c5 }
def k25c6 : Code := { maxStack := 4, maxLocals := 5, code := jdk_52_method_14_code, exceptionTable := #[], attributes := #[] }
def k25m6 : Method := { name := "toBytes", desc := "([CII)[B", sig := { parameters := [(.array .char), .int, .int], returnType := some (.array .byte) }, accessFlags := 9, code := some k25c6 }
def k25c7 : Code := { maxStack := 2, maxLocals := 2, code := jdk_52_method_15_code, exceptionTable := #[], attributes := #[] }
def k25m7 : Method := { name := "coderFromArrayLen", desc := "([BI)B", sig := { parameters := [(.array .byte), .int], returnType := some .byte }, accessFlags := 8, code := some k25c7 }
def k25c8 : Code := { maxStack := 5, maxLocals := 6, code := jdk_52_method_16_code, exceptionTable := #[], attributes := #[] }
def k25m8 : Method := { name := "compress", desc := "([CII)[B", sig := { parameters := [(.array .char), .int, .int], returnType := some (.array .byte) }, accessFlags := 9, code := some k25c8 }
def k25c9 : Code := { maxStack := 3, maxLocals := 7, code := jdk_52_method_21_code, exceptionTable := #[], attributes := #[] }
def k25m9 : Method := { name := "compress", desc := "([CI[BII)I", sig := { parameters := [(.array .char), .int, (.array .byte), .int, .int], returnType := some .int }, accessFlags := 9, code := some k25c9 }
def k25c10 : Code := { maxStack := 4, maxLocals := 6, code := jdk_52_method_86_code, exceptionTable := #[], attributes := #[] }
def k25m10 : Method := { name := "inflate", desc := "([BI[BII)V", sig := { parameters := [(.array .byte), .int, (.array .byte), .int, .int], returnType := none }, accessFlags := 9, code := some k25c10 }
def k25c11 : Code := { maxStack := 3, maxLocals := 3, code := jdk_52_method_94_code, exceptionTable := #[], attributes := #[] }
def k25m11 : Method := { name := "checkBoundsOffCount", desc := "(II[B)V", sig := { parameters := [.int, .int, (.array .byte)], returnType := none }, accessFlags := 9, code := some k25c11 }
/-- java/lang/StringUTF16 -/
def k25 : Class := { plain "java/lang/StringUTF16" (some 0) with
  accessFlags := 48
  interfaces := #[]
  cf := some (fileOf pool25 12 #[.nestMembers #[627, 629, 369]] #[{ accessFlags := 0, nameIndex := 9, descriptorIndex := 10, attributes := #[] }, { accessFlags := 9, nameIndex := 109, descriptorIndex := 110, attributes := #[] }, { accessFlags := 9, nameIndex := 15, descriptorIndex := 16, attributes := #[] }, { accessFlags := 8, nameIndex := 113, descriptorIndex := 114, attributes := #[] }, { accessFlags := 8, nameIndex := 73, descriptorIndex := 74, attributes := #[] }, { accessFlags := 9, nameIndex := 50, descriptorIndex := 51, attributes := #[] }, { accessFlags := 9, nameIndex := 121, descriptorIndex := 122, attributes := #[] }, { accessFlags := 8, nameIndex := 261, descriptorIndex := 262, attributes := #[] }, { accessFlags := 9, nameIndex := 117, descriptorIndex := 122, attributes := #[] }, { accessFlags := 9, nameIndex := 117, descriptorIndex := 118, attributes := #[] }, { accessFlags := 9, nameIndex := 140, descriptorIndex := 141, attributes := #[] }, { accessFlags := 9, nameIndex := 175, descriptorIndex := 99, attributes := #[] }] 48 6 #[] #[{ accessFlags := 26, nameIndex := 61, descriptorIndex := 62, attributes := #[] }, { accessFlags := 26, nameIndex := 65, descriptorIndex := 62, attributes := #[] }, { accessFlags := 24, nameIndex := 430, descriptorIndex := 62, attributes := #[] }, { accessFlags := 4120, nameIndex := 46, descriptorIndex := 47, attributes := #[] }])
  fields := #[{ name := "HI_BYTE_SHIFT", type := .int, accessFlags := 26, slot := 0, constantValue := 0 }, { name := "LO_BYTE_SHIFT", type := .int, accessFlags := 26, slot := 1, constantValue := 0 }, { name := "MAX_LENGTH", type := .int, accessFlags := 24, slot := 2, constantValue := 0 }, { name := "$assertionsDisabled", type := .boolean, accessFlags := 4120, slot := 3, constantValue := 0 }]
  methods := #[k25m0, k25m1, k25m2, k25m3, k25m4, k25m5, k25m6, k25m7, k25m8, k25m9, k25m10, k25m11]
  instanceTypes := #[]
  staticTypes := #[.int, .int, .int, .boolean]
  resolved := Array.replicate 635 none
  statics := some 4 }

def pool26 : Array CpInfo := pool [(4, .class_ 6), (1, u "java/lang/Object"), (0, u "<init>"), (0, u "()V"), (5, .class_ 16), (1, u "java/lang/StringLatin1"), (0, u "inflate"), (2, .class_ 22), (1, u "java/lang/StringUTF16"), (3, .nameAndType 17 27), (0, u "([BI[BII)V"), (93, u "$assertionsDisabled"), (0, u "Z"), (98, .class_ 223), (1, u "java/lang/StringLatin1$LinesSpliterator"), (16, .methodref 20 26), (149, .class_ 391), (0, u "java/lang/StringLatin1$CharsSpliterator")] 3

def k26m0 : Method := { name := "<init>", desc := "()V", sig := { parameters := [], returnType := none }, accessFlags := 0, code := none }
def k26c1 : Code := { maxStack := 5, maxLocals := 5, code := jdk_43_method_50_code, exceptionTable := #[], attributes := #[] }
def k26m1 : Method := { name := "inflate", desc := "([BI[BII)V", sig := { parameters := [(.array .byte), .int, (.array .byte), .int, .int], returnType := none }, accessFlags := 9, code := some k26c1 }
/-- java/lang/StringLatin1 -/
def k26 : Class := { plain "java/lang/StringLatin1" (some 0) with
  accessFlags := 48
  interfaces := #[]
  cf := some (fileOf pool26 14 #[.nestMembers #[390, 221]] #[{ accessFlags := 0, nameIndex := 7, descriptorIndex := 8, attributes := #[] }, { accessFlags := 9, nameIndex := 17, descriptorIndex := 27, attributes := #[] }] 48 4 #[] #[{ accessFlags := 4120, nameIndex := 121, descriptorIndex := 122, attributes := #[] }])
  fields := #[{ name := "$assertionsDisabled", type := .boolean, accessFlags := 4120, slot := 0, constantValue := 0 }]
  methods := #[k26m0, k26m1]
  instanceTypes := #[]
  staticTypes := #[.boolean]
  resolved := Array.replicate 395 none
  statics := none }

def pool27 : Array CpInfo := pool [(2, .class_ 4), (1, u "java/lang/Object"), (0, u "<init>"), (0, u "()V"), (17, .class_ 26), (1, u "jdk/internal/util/Preconditions"), (22, u "checkFromIndexSize"), (5, .class_ 56), (0, u "jdk/internal/util/Preconditions$4"), (57, .class_ 115), (0, u "jdk/internal/util/Preconditions$1"), (7, u "SIOOBE_FORMATTER"), (0, u "Ljava/util/function/BiFunction;"), (0, .class_ 126), (0, u "jdk/internal/util/Preconditions$2"), (3, u "AIOOBE_FORMATTER"), (0, .class_ 132), (0, u "jdk/internal/util/Preconditions$3"), (3, u "IOOBE_FORMATTER"), (46, u "(IIILjava/util/function/BiFunction;)I")] 10

def k27m0 : Method := { name := "<init>", desc := "()V", sig := { parameters := [], returnType := none }, accessFlags := 1, code := none }
def k27c1 : Code := { maxStack := 4, maxLocals := 4, code := jdk_41_method_13_code, exceptionTable := #[], attributes := #[] }
def k27m1 : Method := { name := "checkFromIndexSize", desc := "(IIILjava/util/function/BiFunction;)I", sig := { parameters := [.int, .int, .int, (.object "java/util/function/BiFunction")], returnType := some .int }, accessFlags := 9, code := some k27c1 }
/-- jdk/internal/util/Preconditions -/
def k27 : Class := { plain "jdk/internal/util/Preconditions" (some 0) with
  accessFlags := 33
  interfaces := #[]
  cf := some (fileOf pool27 24 #[.nestMembers #[55, 131, 125, 114]] #[{ accessFlags := 1, nameIndex := 5, descriptorIndex := 6, attributes := #[] }, { accessFlags := 9, nameIndex := 49, descriptorIndex := 183, attributes := #[] }] 33 2 #[] #[{ accessFlags := 25, nameIndex := 123, descriptorIndex := 124, attributes := #[] }, { accessFlags := 25, nameIndex := 130, descriptorIndex := 124, attributes := #[] }, { accessFlags := 25, nameIndex := 136, descriptorIndex := 124, attributes := #[] }])
  fields := #[{ name := "SIOOBE_FORMATTER", type := (.object "java/util/function/BiFunction"), accessFlags := 25, slot := 0, constantValue := 0 }, { name := "AIOOBE_FORMATTER", type := (.object "java/util/function/BiFunction"), accessFlags := 25, slot := 1, constantValue := 0 }, { name := "IOOBE_FORMATTER", type := (.object "java/util/function/BiFunction"), accessFlags := 25, slot := 2, constantValue := 0 }]
  methods := #[k27m0, k27m1]
  instanceTypes := #[]
  staticTypes := #[(.object "java/util/function/BiFunction"), (.object "java/util/function/BiFunction"), (.object "java/util/function/BiFunction")]
  resolved := Array.replicate 194 none
  statics := some 5 }

def pool28 : Array CpInfo := pool [(1, .class_ 2), (0, u "java/lang/Character"), (18, u "value"), (0, u "C"), (19, .class_ 44), (1, u "java/lang/Object"), (3, .class_ 50), (1, u "java/lang/Character$CharacterCache"), (24, .integer 55296), (1, .integer 57344), (3, u "(C)Z"), (202, u "$assertionsDisabled"), (0, u "Z"), (21, .class_ 309), (1, u "java/lang/Character$UnicodeBlock"), (73, u "TYPE"), (0, u "Ljava/lang/Class;"), (0, .class_ 386), (0, u "java/io/Serializable"), (0, .class_ 388), (0, u "java/lang/Comparable"), (0, .class_ 390), (0, u "java/lang/constant/Constable"), (0, u "MIN_RADIX"), (0, u "I"), (2, u "MAX_RADIX"), (1, u "MIN_VALUE"), (1, u "MAX_VALUE"), (3, u "UNASSIGNED"), (0, u "B"), (0, u "UPPERCASE_LETTER"), (1, u "LOWERCASE_LETTER"), (0, u "TITLECASE_LETTER"), (1, u "MODIFIER_LETTER"), (1, u "OTHER_LETTER"), (1, u "NON_SPACING_MARK"), (1, u "ENCLOSING_MARK"), (1, u "COMBINING_SPACING_MARK"), (1, u "DECIMAL_DIGIT_NUMBER"), (1, u "LETTER_NUMBER"), (1, u "OTHER_NUMBER"), (1, u "SPACE_SEPARATOR"), (1, u "LINE_SEPARATOR"), (1, u "PARAGRAPH_SEPARATOR"), (1, u "CONTROL"), (1, u "FORMAT"), (1, u "PRIVATE_USE"), (1, u "SURROGATE"), (1, u "DASH_PUNCTUATION"), (1, u "START_PUNCTUATION"), (1, u "END_PUNCTUATION"), (1, u "CONNECTOR_PUNCTUATION"), (1, u "OTHER_PUNCTUATION"), (1, u "MATH_SYMBOL"), (1, u "CURRENCY_SYMBOL"), (1, u "MODIFIER_SYMBOL"), (1, u "OTHER_SYMBOL"), (1, u "INITIAL_QUOTE_PUNCTUATION"), (1, u "FINAL_QUOTE_PUNCTUATION"), (1, u "ERROR"), (1, u "DIRECTIONALITY_UNDEFINED"), (0, u "DIRECTIONALITY_LEFT_TO_RIGHT"), (0, u "DIRECTIONALITY_RIGHT_TO_LEFT"), (0, u "DIRECTIONALITY_RIGHT_TO_LEFT_ARABIC"), (0, u "DIRECTIONALITY_EUROPEAN_NUMBER"), (0, u "DIRECTIONALITY_EUROPEAN_NUMBER_SEPARATOR"), (0, u "DIRECTIONALITY_EUROPEAN_NUMBER_TERMINATOR"), (0, u "DIRECTIONALITY_ARABIC_NUMBER"), (0, u "DIRECTIONALITY_COMMON_NUMBER_SEPARATOR"), (0, u "DIRECTIONALITY_NONSPACING_MARK"), (0, u "DIRECTIONALITY_BOUNDARY_NEUTRAL"), (0, u "DIRECTIONALITY_PARAGRAPH_SEPARATOR"), (0, u "DIRECTIONALITY_SEGMENT_SEPARATOR"), (0, u "DIRECTIONALITY_WHITESPACE"), (0, u "DIRECTIONALITY_OTHER_NEUTRALS"), (0, u "DIRECTIONALITY_LEFT_TO_RIGHT_EMBEDDING"), (0, u "DIRECTIONALITY_LEFT_TO_RIGHT_OVERRIDE"), (0, u "DIRECTIONALITY_RIGHT_TO_LEFT_EMBEDDING"), (0, u "DIRECTIONALITY_RIGHT_TO_LEFT_OVERRIDE"), (1, u "DIRECTIONALITY_POP_DIRECTIONAL_FORMAT"), (0, u "DIRECTIONALITY_LEFT_TO_RIGHT_ISOLATE"), (0, u "DIRECTIONALITY_RIGHT_TO_LEFT_ISOLATE"), (0, u "DIRECTIONALITY_FIRST_STRONG_ISOLATE"), (0, u "DIRECTIONALITY_POP_DIRECTIONAL_ISOLATE"), (0, u "MIN_HIGH_SURROGATE"), (0, u "MAX_HIGH_SURROGATE"), (1, u "MIN_LOW_SURROGATE"), (0, u "MAX_LOW_SURROGATE"), (1, u "MIN_SURROGATE"), (0, u "MAX_SURROGATE"), (0, u "MIN_SUPPLEMENTARY_CODE_POINT"), (0, u "MIN_CODE_POINT"), (0, u "MAX_CODE_POINT"), (1, u "serialVersionUID"), (0, u "J"), (2, u "SIZE"), (0, u "BYTES"), (24, u "isSurrogate"), (63, .class_ 596), (0, u "java/lang/Character$UnicodeScript"), (0, .class_ 598), (0, u "java/lang/Character$Subset")] 5

def k28c0 : Code := { maxStack := 2, maxLocals := 1, code := jdk_89_method_16_code, exceptionTable := #[], attributes := #[] }
def k28m0 : Method := { name := "isSurrogate", desc := "(C)Z", sig := { parameters := [.char], returnType := some .boolean }, accessFlags := 9, code := some k28c0 }
/-- java/lang/Character -/
def k28 : Class := { plain "java/lang/Character" (some 0) with
  accessFlags := 49
  interfaces := #[2, 3, 5]
  cf := some (fileOf pool28 1 #[.nestMembers #[48, 595, 307, 597]] #[{ accessFlags := 9, nameIndex := 531, descriptorIndex := 81, attributes := #[] }] 49 42 #[385, 387, 389] #[{ accessFlags := 25, nameIndex := 391, descriptorIndex := 392, attributes := #[] }, { accessFlags := 25, nameIndex := 395, descriptorIndex := 392, attributes := #[] }, { accessFlags := 25, nameIndex := 397, descriptorIndex := 22, attributes := #[] }, { accessFlags := 25, nameIndex := 399, descriptorIndex := 22, attributes := #[] }, { accessFlags := 25, nameIndex := 383, descriptorIndex := 384, attributes := #[] }, { accessFlags := 25, nameIndex := 403, descriptorIndex := 404, attributes := #[] }, { accessFlags := 25, nameIndex := 405, descriptorIndex := 404, attributes := #[] }, { accessFlags := 25, nameIndex := 407, descriptorIndex := 404, attributes := #[] }, { accessFlags := 25, nameIndex := 408, descriptorIndex := 404, attributes := #[] }, { accessFlags := 25, nameIndex := 410, descriptorIndex := 404, attributes := #[] }, { accessFlags := 25, nameIndex := 412, descriptorIndex := 404, attributes := #[] }, { accessFlags := 25, nameIndex := 414, descriptorIndex := 404, attributes := #[] }, { accessFlags := 25, nameIndex := 416, descriptorIndex := 404, attributes := #[] }, { accessFlags := 25, nameIndex := 418, descriptorIndex := 404, attributes := #[] }, { accessFlags := 25, nameIndex := 420, descriptorIndex := 404, attributes := #[] }, { accessFlags := 25, nameIndex := 422, descriptorIndex := 404, attributes := #[] }, { accessFlags := 25, nameIndex := 424, descriptorIndex := 404, attributes := #[] }, { accessFlags := 25, nameIndex := 426, descriptorIndex := 404, attributes := #[] }, { accessFlags := 25, nameIndex := 428, descriptorIndex := 404, attributes := #[] }, { accessFlags := 25, nameIndex := 430, descriptorIndex := 404, attributes := #[] }, { accessFlags := 25, nameIndex := 432, descriptorIndex := 404, attributes := #[] }, { accessFlags := 25, nameIndex := 434, descriptorIndex := 404, attributes := #[] }, { accessFlags := 25, nameIndex := 436, descriptorIndex := 404, attributes := #[] }, { accessFlags := 25, nameIndex := 438, descriptorIndex := 404, attributes := #[] }, { accessFlags := 25, nameIndex := 440, descriptorIndex := 404, attributes := #[] }, { accessFlags := 25, nameIndex := 442, descriptorIndex := 404, attributes := #[] }, { accessFlags := 25, nameIndex := 444, descriptorIndex := 404, attributes := #[] }, { accessFlags := 25, nameIndex := 446, descriptorIndex := 404, attributes := #[] }, { accessFlags := 25, nameIndex := 448, descriptorIndex := 404, attributes := #[] }, { accessFlags := 25, nameIndex := 450, descriptorIndex := 404, attributes := #[] }, { accessFlags := 25, nameIndex := 452, descriptorIndex := 404, attributes := #[] }, { accessFlags := 25, nameIndex := 454, descriptorIndex := 404, attributes := #[] }, { accessFlags := 25, nameIndex := 456, descriptorIndex := 404, attributes := #[] }, { accessFlags := 25, nameIndex := 458, descriptorIndex := 404, attributes := #[] }, { accessFlags := 25, nameIndex := 460, descriptorIndex := 404, attributes := #[] }, { accessFlags := 24, nameIndex := 462, descriptorIndex := 392, attributes := #[] }, { accessFlags := 25, nameIndex := 464, descriptorIndex := 404, attributes := #[] }, { accessFlags := 25, nameIndex := 465, descriptorIndex := 404, attributes := #[] }, { accessFlags := 25, nameIndex := 466, descriptorIndex := 404, attributes := #[] }, { accessFlags := 25, nameIndex := 467, descriptorIndex := 404, attributes := #[] }, { accessFlags := 25, nameIndex := 468, descriptorIndex := 404, attributes := #[] }, { accessFlags := 25, nameIndex := 469, descriptorIndex := 404, attributes := #[] }, { accessFlags := 25, nameIndex := 470, descriptorIndex := 404, attributes := #[] }, { accessFlags := 25, nameIndex := 471, descriptorIndex := 404, attributes := #[] }, { accessFlags := 25, nameIndex := 472, descriptorIndex := 404, attributes := #[] }, { accessFlags := 25, nameIndex := 473, descriptorIndex := 404, attributes := #[] }, { accessFlags := 25, nameIndex := 474, descriptorIndex := 404, attributes := #[] }, { accessFlags := 25, nameIndex := 475, descriptorIndex := 404, attributes := #[] }, { accessFlags := 25, nameIndex := 476, descriptorIndex := 404, attributes := #[] }, { accessFlags := 25, nameIndex := 477, descriptorIndex := 404, attributes := #[] }, { accessFlags := 25, nameIndex := 478, descriptorIndex := 404, attributes := #[] }, { accessFlags := 25, nameIndex := 479, descriptorIndex := 404, attributes := #[] }, { accessFlags := 25, nameIndex := 480, descriptorIndex := 404, attributes := #[] }, { accessFlags := 25, nameIndex := 481, descriptorIndex := 404, attributes := #[] }, { accessFlags := 25, nameIndex := 482, descriptorIndex := 404, attributes := #[] }, { accessFlags := 25, nameIndex := 484, descriptorIndex := 404, attributes := #[] }, { accessFlags := 25, nameIndex := 485, descriptorIndex := 404, attributes := #[] }, { accessFlags := 25, nameIndex := 486, descriptorIndex := 404, attributes := #[] }, { accessFlags := 25, nameIndex := 487, descriptorIndex := 404, attributes := #[] }, { accessFlags := 25, nameIndex := 488, descriptorIndex := 404, attributes := #[] }, { accessFlags := 25, nameIndex := 489, descriptorIndex := 22, attributes := #[] }, { accessFlags := 25, nameIndex := 490, descriptorIndex := 22, attributes := #[] }, { accessFlags := 25, nameIndex := 492, descriptorIndex := 22, attributes := #[] }, { accessFlags := 25, nameIndex := 493, descriptorIndex := 22, attributes := #[] }, { accessFlags := 25, nameIndex := 495, descriptorIndex := 22, attributes := #[] }, { accessFlags := 25, nameIndex := 496, descriptorIndex := 22, attributes := #[] }, { accessFlags := 25, nameIndex := 497, descriptorIndex := 392, attributes := #[] }, { accessFlags := 25, nameIndex := 498, descriptorIndex := 392, attributes := #[] }, { accessFlags := 25, nameIndex := 499, descriptorIndex := 392, attributes := #[] }, { accessFlags := 18, nameIndex := 21, descriptorIndex := 22, attributes := #[] }, { accessFlags := 26, nameIndex := 501, descriptorIndex := 502, attributes := #[] }, { accessFlags := 25, nameIndex := 505, descriptorIndex := 392, attributes := #[] }, { accessFlags := 25, nameIndex := 506, descriptorIndex := 392, attributes := #[] }, { accessFlags := 4120, nameIndex := 284, descriptorIndex := 285, attributes := #[] }])
  fields := #[{ name := "MIN_RADIX", type := .int, accessFlags := 25, slot := 0, constantValue := 0 }, { name := "MAX_RADIX", type := .int, accessFlags := 25, slot := 1, constantValue := 0 }, { name := "MIN_VALUE", type := .char, accessFlags := 25, slot := 2, constantValue := 0 }, { name := "MAX_VALUE", type := .char, accessFlags := 25, slot := 3, constantValue := 0 }, { name := "TYPE", type := (.object "java/lang/Class"), accessFlags := 25, slot := 4, constantValue := 0 }, { name := "UNASSIGNED", type := .byte, accessFlags := 25, slot := 5, constantValue := 0 }, { name := "UPPERCASE_LETTER", type := .byte, accessFlags := 25, slot := 6, constantValue := 0 }, { name := "LOWERCASE_LETTER", type := .byte, accessFlags := 25, slot := 7, constantValue := 0 }, { name := "TITLECASE_LETTER", type := .byte, accessFlags := 25, slot := 8, constantValue := 0 }, { name := "MODIFIER_LETTER", type := .byte, accessFlags := 25, slot := 9, constantValue := 0 }, { name := "OTHER_LETTER", type := .byte, accessFlags := 25, slot := 10, constantValue := 0 }, { name := "NON_SPACING_MARK", type := .byte, accessFlags := 25, slot := 11, constantValue := 0 }, { name := "ENCLOSING_MARK", type := .byte, accessFlags := 25, slot := 12, constantValue := 0 }, { name := "COMBINING_SPACING_MARK", type := .byte, accessFlags := 25, slot := 13, constantValue := 0 }, { name := "DECIMAL_DIGIT_NUMBER", type := .byte, accessFlags := 25, slot := 14, constantValue := 0 }, { name := "LETTER_NUMBER", type := .byte, accessFlags := 25, slot := 15, constantValue := 0 }, { name := "OTHER_NUMBER", type := .byte, accessFlags := 25, slot := 16, constantValue := 0 }, { name := "SPACE_SEPARATOR", type := .byte, accessFlags := 25, slot := 17, constantValue := 0 }, { name := "LINE_SEPARATOR", type := .byte, accessFlags := 25, slot := 18, constantValue := 0 }, { name := "PARAGRAPH_SEPARATOR", type := .byte, accessFlags := 25, slot := 19, constantValue := 0 }, { name := "CONTROL", type := .byte, accessFlags := 25, slot := 20, constantValue := 0 }, { name := "FORMAT", type := .byte, accessFlags := 25, slot := 21, constantValue := 0 }, { name := "PRIVATE_USE", type := .byte, accessFlags := 25, slot := 22, constantValue := 0 }, { name := "SURROGATE", type := .byte, accessFlags := 25, slot := 23, constantValue := 0 }, { name := "DASH_PUNCTUATION", type := .byte, accessFlags := 25, slot := 24, constantValue := 0 }, { name := "START_PUNCTUATION", type := .byte, accessFlags := 25, slot := 25, constantValue := 0 }, { name := "END_PUNCTUATION", type := .byte, accessFlags := 25, slot := 26, constantValue := 0 }, { name := "CONNECTOR_PUNCTUATION", type := .byte, accessFlags := 25, slot := 27, constantValue := 0 }, { name := "OTHER_PUNCTUATION", type := .byte, accessFlags := 25, slot := 28, constantValue := 0 }, { name := "MATH_SYMBOL", type := .byte, accessFlags := 25, slot := 29, constantValue := 0 }, { name := "CURRENCY_SYMBOL", type := .byte, accessFlags := 25, slot := 30, constantValue := 0 }, { name := "MODIFIER_SYMBOL", type := .byte, accessFlags := 25, slot := 31, constantValue := 0 }, { name := "OTHER_SYMBOL", type := .byte, accessFlags := 25, slot := 32, constantValue := 0 }, { name := "INITIAL_QUOTE_PUNCTUATION", type := .byte, accessFlags := 25, slot := 33, constantValue := 0 }, { name := "FINAL_QUOTE_PUNCTUATION", type := .byte, accessFlags := 25, slot := 34, constantValue := 0 }, { name := "ERROR", type := .int, accessFlags := 24, slot := 35, constantValue := 0 }, { name := "DIRECTIONALITY_UNDEFINED", type := .byte, accessFlags := 25, slot := 36, constantValue := 0 }, { name := "DIRECTIONALITY_LEFT_TO_RIGHT", type := .byte, accessFlags := 25, slot := 37, constantValue := 0 }, { name := "DIRECTIONALITY_RIGHT_TO_LEFT", type := .byte, accessFlags := 25, slot := 38, constantValue := 0 }, { name := "DIRECTIONALITY_RIGHT_TO_LEFT_ARABIC", type := .byte, accessFlags := 25, slot := 39, constantValue := 0 }, { name := "DIRECTIONALITY_EUROPEAN_NUMBER", type := .byte, accessFlags := 25, slot := 40, constantValue := 0 }, { name := "DIRECTIONALITY_EUROPEAN_NUMBER_SEPARATOR", type := .byte, accessFlags := 25, slot := 41, constantValue := 0 }, { name := "DIRECTIONALITY_EUROPEAN_NUMBER_TERMINATOR", type := .byte, accessFlags := 25, slot := 42, constantValue := 0 }, { name := "DIRECTIONALITY_ARABIC_NUMBER", type := .byte, accessFlags := 25, slot := 43, constantValue := 0 }, { name := "DIRECTIONALITY_COMMON_NUMBER_SEPARATOR", type := .byte, accessFlags := 25, slot := 44, constantValue := 0 }, { name := "DIRECTIONALITY_NONSPACING_MARK", type := .byte, accessFlags := 25, slot := 45, constantValue := 0 }, { name := "DIRECTIONALITY_BOUNDARY_NEUTRAL", type := .byte, accessFlags := 25, slot := 46, constantValue := 0 }, { name := "DIRECTIONALITY_PARAGRAPH_SEPARATOR", type := .byte, accessFlags := 25, slot := 47, constantValue := 0 }, { name := "DIRECTIONALITY_SEGMENT_SEPARATOR", type := .byte, accessFlags := 25, slot := 48, constantValue := 0 }, { name := "DIRECTIONALITY_WHITESPACE", type := .byte, accessFlags := 25, slot := 49, constantValue := 0 }, { name := "DIRECTIONALITY_OTHER_NEUTRALS", type := .byte, accessFlags := 25, slot := 50, constantValue := 0 }, { name := "DIRECTIONALITY_LEFT_TO_RIGHT_EMBEDDING", type := .byte, accessFlags := 25, slot := 51, constantValue := 0 }, { name := "DIRECTIONALITY_LEFT_TO_RIGHT_OVERRIDE", type := .byte, accessFlags := 25, slot := 52, constantValue := 0 }, { name := "DIRECTIONALITY_RIGHT_TO_LEFT_EMBEDDING", type := .byte, accessFlags := 25, slot := 53, constantValue := 0 }, { name := "DIRECTIONALITY_RIGHT_TO_LEFT_OVERRIDE", type := .byte, accessFlags := 25, slot := 54, constantValue := 0 }, { name := "DIRECTIONALITY_POP_DIRECTIONAL_FORMAT", type := .byte, accessFlags := 25, slot := 55, constantValue := 0 }, { name := "DIRECTIONALITY_LEFT_TO_RIGHT_ISOLATE", type := .byte, accessFlags := 25, slot := 56, constantValue := 0 }, { name := "DIRECTIONALITY_RIGHT_TO_LEFT_ISOLATE", type := .byte, accessFlags := 25, slot := 57, constantValue := 0 }, { name := "DIRECTIONALITY_FIRST_STRONG_ISOLATE", type := .byte, accessFlags := 25, slot := 58, constantValue := 0 }, { name := "DIRECTIONALITY_POP_DIRECTIONAL_ISOLATE", type := .byte, accessFlags := 25, slot := 59, constantValue := 0 }, { name := "MIN_HIGH_SURROGATE", type := .char, accessFlags := 25, slot := 60, constantValue := 0 }, { name := "MAX_HIGH_SURROGATE", type := .char, accessFlags := 25, slot := 61, constantValue := 0 }, { name := "MIN_LOW_SURROGATE", type := .char, accessFlags := 25, slot := 62, constantValue := 0 }, { name := "MAX_LOW_SURROGATE", type := .char, accessFlags := 25, slot := 63, constantValue := 0 }, { name := "MIN_SURROGATE", type := .char, accessFlags := 25, slot := 64, constantValue := 0 }, { name := "MAX_SURROGATE", type := .char, accessFlags := 25, slot := 65, constantValue := 0 }, { name := "MIN_SUPPLEMENTARY_CODE_POINT", type := .int, accessFlags := 25, slot := 66, constantValue := 0 }, { name := "MIN_CODE_POINT", type := .int, accessFlags := 25, slot := 67, constantValue := 0 }, { name := "MAX_CODE_POINT", type := .int, accessFlags := 25, slot := 68, constantValue := 0 }, { name := "value", type := .char, accessFlags := 18, slot := 0, constantValue := 0 }, { name := "serialVersionUID", type := .long, accessFlags := 26, slot := 69, constantValue := 0 }, { name := "SIZE", type := .int, accessFlags := 25, slot := 70, constantValue := 0 }, { name := "BYTES", type := .int, accessFlags := 25, slot := 71, constantValue := 0 }, { name := "$assertionsDisabled", type := .boolean, accessFlags := 4120, slot := 72, constantValue := 0 }]
  methods := #[k28m0]
  instanceTypes := #[.char]
  staticTypes := #[.int, .int, .char, .char, (.object "java/lang/Class"), .byte, .byte, .byte, .byte, .byte, .byte, .byte, .byte, .byte, .byte, .byte, .byte, .byte, .byte, .byte, .byte, .byte, .byte, .byte, .byte, .byte, .byte, .byte, .byte, .byte, .byte, .byte, .byte, .byte, .byte, .int, .byte, .byte, .byte, .byte, .byte, .byte, .byte, .byte, .byte, .byte, .byte, .byte, .byte, .byte, .byte, .byte, .byte, .byte, .byte, .byte, .byte, .byte, .byte, .byte, .char, .char, .char, .char, .char, .char, .int, .int, .int, .long, .int, .int, .boolean]
  resolved := Array.replicate 604 none
  statics := none }

def pool29 : Array CpInfo := pool [(9, u "<init>"), (6, .class_ 18), (1, u "java/lang/Object"), (0, u "()V"), (1, .class_ 23), (1, u "jdk/internal/util/ArraysSupport"), (0, u "LOG2_ARRAY_LONG_INDEX_SCALE"), (0, u "I"), (2, u "U"), (0, u "Ljdk/internal/misc/Unsafe;"), (8, u "BIG_ENDIAN"), (0, u "Z"), (8, u "LOG2_BYTE_BIT_SIZE"), (4, u "LOG2_ARRAY_INT_INDEX_SCALE"), (54, u "JLA"), (0, u "Ljdk/internal/access/JavaLangAccess;"), (11, u "LOG2_ARRAY_BOOLEAN_INDEX_SCALE"), (9, u "LOG2_ARRAY_BYTE_INDEX_SCALE"), (5, u "LOG2_ARRAY_CHAR_INDEX_SCALE"), (5, u "LOG2_ARRAY_SHORT_INDEX_SCALE"), (18, u "LOG2_ARRAY_FLOAT_INDEX_SCALE"), (24, u "LOG2_ARRAY_DOUBLE_INDEX_SCALE"), (89, u "T_BOOLEAN"), (2, u "T_CHAR"), (1, u "T_FLOAT"), (1, u "T_DOUBLE"), (1, u "T_BYTE"), (1, u "T_SHORT"), (1, u "T_INT"), (1, u "T_LONG"), (1, u "SOFT_MAX_ARRAY_LENGTH")] 83

def k29m0 : Method := { name := "<init>", desc := "()V", sig := { parameters := [], returnType := none }, accessFlags := 2, code := none }
/-- jdk/internal/util/ArraysSupport -/
def k29 : Class := { plain "jdk/internal/util/ArraysSupport" (some 0) with
  accessFlags := 33
  interfaces := #[]
  cf := some (fileOf pool29 21 #[] #[{ accessFlags := 2, nameIndex := 9, descriptorIndex := 19, attributes := #[] }] 33 16 #[] #[{ accessFlags := 24, nameIndex := 28, descriptorIndex := 29, attributes := #[] }, { accessFlags := 26, nameIndex := 38, descriptorIndex := 39, attributes := #[] }, { accessFlags := 25, nameIndex := 121, descriptorIndex := 25, attributes := #[] }, { accessFlags := 25, nameIndex := 131, descriptorIndex := 25, attributes := #[] }, { accessFlags := 25, nameIndex := 137, descriptorIndex := 25, attributes := #[] }, { accessFlags := 25, nameIndex := 143, descriptorIndex := 25, attributes := #[] }, { accessFlags := 25, nameIndex := 53, descriptorIndex := 25, attributes := #[] }, { accessFlags := 25, nameIndex := 24, descriptorIndex := 25, attributes := #[] }, { accessFlags := 25, nameIndex := 162, descriptorIndex := 25, attributes := #[] }, { accessFlags := 25, nameIndex := 187, descriptorIndex := 25, attributes := #[] }, { accessFlags := 26, nameIndex := 48, descriptorIndex := 25, attributes := #[] }, { accessFlags := 25, nameIndex := 277, descriptorIndex := 25, attributes := #[] }, { accessFlags := 25, nameIndex := 280, descriptorIndex := 25, attributes := #[] }, { accessFlags := 25, nameIndex := 282, descriptorIndex := 25, attributes := #[] }, { accessFlags := 25, nameIndex := 284, descriptorIndex := 25, attributes := #[] }, { accessFlags := 25, nameIndex := 286, descriptorIndex := 25, attributes := #[] }, { accessFlags := 25, nameIndex := 288, descriptorIndex := 25, attributes := #[] }, { accessFlags := 25, nameIndex := 290, descriptorIndex := 25, attributes := #[] }, { accessFlags := 25, nameIndex := 292, descriptorIndex := 25, attributes := #[] }, { accessFlags := 26, nameIndex := 108, descriptorIndex := 109, attributes := #[] }, { accessFlags := 25, nameIndex := 294, descriptorIndex := 25, attributes := #[] }])
  fields := #[{ name := "U", type := (.object "jdk/internal/misc/Unsafe"), accessFlags := 24, slot := 0, constantValue := 0 }, { name := "BIG_ENDIAN", type := .boolean, accessFlags := 26, slot := 1, constantValue := 0 }, { name := "LOG2_ARRAY_BOOLEAN_INDEX_SCALE", type := .int, accessFlags := 25, slot := 2, constantValue := 0 }, { name := "LOG2_ARRAY_BYTE_INDEX_SCALE", type := .int, accessFlags := 25, slot := 3, constantValue := 0 }, { name := "LOG2_ARRAY_CHAR_INDEX_SCALE", type := .int, accessFlags := 25, slot := 4, constantValue := 0 }, { name := "LOG2_ARRAY_SHORT_INDEX_SCALE", type := .int, accessFlags := 25, slot := 5, constantValue := 0 }, { name := "LOG2_ARRAY_INT_INDEX_SCALE", type := .int, accessFlags := 25, slot := 6, constantValue := 0 }, { name := "LOG2_ARRAY_LONG_INDEX_SCALE", type := .int, accessFlags := 25, slot := 7, constantValue := 0 }, { name := "LOG2_ARRAY_FLOAT_INDEX_SCALE", type := .int, accessFlags := 25, slot := 8, constantValue := 0 }, { name := "LOG2_ARRAY_DOUBLE_INDEX_SCALE", type := .int, accessFlags := 25, slot := 9, constantValue := 0 }, { name := "LOG2_BYTE_BIT_SIZE", type := .int, accessFlags := 26, slot := 10, constantValue := 0 }, { name := "T_BOOLEAN", type := .int, accessFlags := 25, slot := 11, constantValue := 0 }, { name := "T_CHAR", type := .int, accessFlags := 25, slot := 12, constantValue := 0 }, { name := "T_FLOAT", type := .int, accessFlags := 25, slot := 13, constantValue := 0 }, { name := "T_DOUBLE", type := .int, accessFlags := 25, slot := 14, constantValue := 0 }, { name := "T_BYTE", type := .int, accessFlags := 25, slot := 15, constantValue := 0 }, { name := "T_SHORT", type := .int, accessFlags := 25, slot := 16, constantValue := 0 }, { name := "T_INT", type := .int, accessFlags := 25, slot := 17, constantValue := 0 }, { name := "T_LONG", type := .int, accessFlags := 25, slot := 18, constantValue := 0 }, { name := "JLA", type := (.object "jdk/internal/access/JavaLangAccess"), accessFlags := 26, slot := 19, constantValue := 0 }, { name := "SOFT_MAX_ARRAY_LENGTH", type := .int, accessFlags := 25, slot := 20, constantValue := 0 }]
  methods := #[k29m0]
  instanceTypes := #[]
  staticTypes := #[(.object "jdk/internal/misc/Unsafe"), .boolean, .int, .int, .int, .int, .int, .int, .int, .int, .int, .int, .int, .int, .int, .int, .int, .int, .int, (.object "jdk/internal/access/JavaLangAccess"), .int]
  resolved := Array.replicate 378 none
  statics := none }

/-- the primitive byte -/
def k30 : Class := { plain "byte" none with kind := .primitive 'B', accessFlags := 0x411 }
/-- [B -/
def k31 : Class := { plain "[B" (some 0) with kind := .array 30 .byte, interfaces := #[22, 2], accessFlags := 1041 }

/-- the primitive char -/
def k32 : Class := { plain "char" none with kind := .primitive 'C', accessFlags := 0x411 }
/-- [C -/
def k33 : Class := { plain "[C" (some 0) with kind := .array 32 .char, interfaces := #[22, 2], accessFlags := 1041 }

/-- the primitive int -/
def k34 : Class := { plain "int" none with kind := .primitive 'I', accessFlags := 0x411 }
/-- [I -/
def k35 : Class := { plain "[I" (some 0) with kind := .array 34 .int, interfaces := #[22, 2], accessFlags := 1041 }

def heap : Heap := #[{ cls := 7, slots := #[.long 0, .int 1, .null, .int 0, .null, .int 0, .int 0], vm := .statics 7 },
  { cls := 16, slots := #[.null, .null, .ref 7, .null, .null, .null], vm := .statics 16 },
  { cls := 20, slots := #[.ref 7, .null], vm := .statics 20 },
  { cls := 24, slots := #[.null, .null, .ref 6, .null, .null, .null], vm := .statics 24 },
  { cls := 25, slots := #[.int 0, .int 8, .int 0, .int 1], vm := .statics 25 },
  { cls := 27, slots := #[.null, .null, .null], vm := .statics 27 },
  { cls := 24, slots := #[.null, .int 1, .int 0, .null], vm := .none },
  { cls := 20, slots := #[.null, .null, .null], vm := .none }]
def classes : Array Class := #[k0, k1, k2, k3, k4, k5, k6, k7, k8, k9, k10, k11, k12, k13, k14, k15, k16, k17, k18, k19, k20, k21, k22, k23, k24, k25, k26, k27, k28, k29, k30, k31, k32, k33, k34, k35]
def interned : List (Array UInt16 × Addr) := []
def slotsUsed : Nat := 35
def theMethod : MethodId := ⟨1, 4⟩
def args0 : Array Value := #[.int 3, .int 65, .int 300, .int 9000]
def aboutOver (below : List Frame) : State where
  vm := { classes := classes, interned := interned.toArray }
  heap := heap
  slotsUsed := slotsUsed
  threads := #[{ frames := .invoking theMethod args0 :: below }]
def below0 : List Frame := [.native { method := ⟨0, 0⟩, args := #[] }]
def about1 : State := aboutOver below0
def p0 : Program := .bare "" "" ""
def e0 : Env := launch0.env 0 0 0
theorem w_frames : about1.frames = Frame.invoking theMethod args0 :: below0 := rfl
set_option maxRecDepth 65536 in
theorem w_args : argsFit about1.vm theMethod args0 = true := by decide +kernel
set_option maxRecDepth 65536 in
theorem w_heap : heapFits about1 = true := by decide +kernel
set_option maxRecDepth 65536 in
theorem w_runnable : about1.curStatus? = some .runnable := by decide +kernel
set_option maxRecDepth 65536 in
theorem w_alone : about1.alone = true := by decide +kernel
set_option maxRecDepth 65536 in
theorem w_named : about1.methodNamed? x = some theMethod := by decide +kernel
set_option maxRecDepth 65536 in
theorem w_hears : about1.hears theMethod below0 = true := by decide +kernel
set_option maxRecDepth 65536 in
theorem w_ripe : about1.ripe theMethod args0 below0 = true := by decide +kernel
theorem w_running : about1.status = .running := rfl
set_option maxRecDepth 65536 in
theorem w_room : about1.hasRoom e0.platform room_1 = true :=
  launch0.hasRoom_least _ room_1 (by decide +kernel) (by decide +kernel) (by decide +kernel) (by decide +kernel) (by decide +kernel) (by decide +kernel)
theorem allAtoms_all (ts : List Jvm.Cond) (a : Array Jvm.Value) (st : Jvm.State) : (allAtoms ts).before a st = ts.all (fun c => c.before a st) := by
  induction ts with
  | nil => rfl
  | cons c t ih =>
    show (Jvm.Cond.and c (allAtoms t)).before a st = _
    rw [Jvm.Cond.before_and, ih, List.all_cons]
def words1 : List Jvm.Cond := Jvm.Cond.code x code maxLocals ret :: tables_1
/-- a 'code' word, met by the world's own term for the bytes: nothing is compared byte by byte -/
theorem code_word {y : MethodName} {bytes : ByteArray} {mx : Nat} {rt : Option FieldType} {a : Array Value} {s : State} {m : MethodId} {meth : Method} {c : Code} (h1 : s.methodNamed? y = some m) (h2 : s.vm.method? m = some meth) (h3 : meth.code = some c) (h4 : c.code = bytes)
    (h5 : (c.maxLocals == mx && c.exceptionTable.isEmpty && decide (c.maxStack ≤ mostOperands) && decide (meth.sig.returnType = rt) && !meth.locks && decide (parseMethodDescriptor y.desc = some meth.sig)) = true) : (Jvm.Cond.code y bytes mx rt).before a s = true := by
  simp only [Bool.and_eq_true, beq_iff_eq, Bool.not_eq_true', decide_eq_true_eq] at h5
  obtain ⟨⟨⟨⟨⟨g1, g2⟩, g3⟩, g4⟩, g5⟩, g6⟩ := h5
  simp [Cond.before, Cond.holds, Cond.value, h1, h2, h3, h4, g1, g2, g3, g4, g5, g6]
def isCode : Jvm.Cond → Bool
  | .code _ _ _ _ => true
  | _ => false
theorem all_split {L : List Jvm.Cond} {P : Jvm.Cond → Bool} (h1 : L.all (fun c => isCode c || P c) = true) (h2 : ∀ c ∈ L.filter isCode, P c = true) : L.all P = true := by
  refine List.all_eq_true.mpr fun c hc => ?_
  have h := List.all_eq_true.mp h1 c hc
  rcases Bool.eq_false_or_eq_true (isCode c) with hi | hi
  · exact h2 c (List.mem_filter.mpr ⟨hc, hi⟩)
  · simpa [hi] using h
set_option maxRecDepth 65536 in
theorem w_c0 : (Jvm.Cond.code x code maxLocals ret).before args0 about1 = true := code_word (m := ⟨1, 4⟩) (meth := k1m4) (c := k1c4) (by decide +kernel) rfl rfl rfl (by decide +kernel)
set_option maxRecDepth 65536 in
theorem w_c1 : (Jvm.Cond.code ({ cls := "com/example/pacerd/pacerd/run/OutcomeFailurePinLaw", name := "draw", desc := "(I)I" } : Jvm.MethodName) method_2_code (2 : Nat) (Option.some Jvm.ClassFile.FieldType.int)).before args0 about1 = true := code_word (m := ⟨1, 1⟩) (meth := k1m1) (c := k1c1) (by decide +kernel) rfl rfl rfl (by decide +kernel)
set_option maxRecDepth 65536 in
theorem w_c2 : (Jvm.Cond.code ({ cls := "java/lang/String", name := "<init>", desc := "([C)V" } : Jvm.MethodName) jdk_42_method_3_code (2 : Nat) (Option.none : Option Jvm.ClassFile.FieldType)).before args0 about1 = true := code_word (m := ⟨7, 1⟩) (meth := k7m1) (c := k7c1) (by decide +kernel) rfl rfl rfl (by decide +kernel)
set_option maxRecDepth 65536 in
theorem w_c3 : (Jvm.Cond.code ({ cls := "java/lang/String", name := "<init>", desc := "([CIILjava/lang/Void;)V" } : Jvm.MethodName) jdk_42_method_149_code (6 : Nat) (Option.none : Option Jvm.ClassFile.FieldType)).before args0 about1 = true := code_word (m := ⟨7, 9⟩) (meth := k7m9) (c := k7c9) (by decide +kernel) rfl rfl rfl (by decide +kernel)
set_option maxRecDepth 65536 in
theorem w_c4 : (Jvm.Cond.code ({ cls := "java/lang/Object", name := "<init>", desc := "()V" } : Jvm.MethodName) object_method_1_code (1 : Nat) (Option.none : Option Jvm.ClassFile.FieldType)).before args0 about1 = true := code_word (m := ⟨0, 0⟩) (meth := k0m0) (c := k0c0) (by decide +kernel) rfl rfl rfl (by decide +kernel)
set_option maxRecDepth 65536 in
theorem w_c5 : (Jvm.Cond.code ({ cls := "com/example/pacerd/pacerd/run/Outcome", name := "failure", desc := "(Ljava/lang/String;)Lcom/example/pacerd/pacerd/run/Outcome;" } : Jvm.MethodName) prog_25_method_2_code (2 : Nat) (Option.some (Jvm.ClassFile.FieldType.object "com/example/pacerd/pacerd/run/Outcome"))).before args0 about1 = true := code_word (m := ⟨9, 1⟩) (meth := k9m1) (c := k9c1) (by decide +kernel) rfl rfl rfl (by decide +kernel)
set_option maxRecDepth 65536 in
theorem w_c6 : (Jvm.Cond.code ({ cls := "java/lang/StringBuilder", name := "<init>", desc := "()V" } : Jvm.MethodName) jdk_67_method_1_code (1 : Nat) (Option.none : Option Jvm.ClassFile.FieldType)).before args0 about1 = true := code_word (m := ⟨12, 0⟩) (meth := k12m0) (c := k12c0) (by decide +kernel) rfl rfl rfl (by decide +kernel)
set_option maxRecDepth 65536 in
theorem w_c7 : (Jvm.Cond.code ({ cls := "java/lang/AbstractStringBuilder", name := "<init>", desc := "(I)V" } : Jvm.MethodName) jdk_68_method_2_code (2 : Nat) (Option.none : Option Jvm.ClassFile.FieldType)).before args0 about1 = true := code_word (m := ⟨11, 1⟩) (meth := k11m1) (c := k11c1) (by decide +kernel) rfl rfl rfl (by decide +kernel)
set_option maxRecDepth 65536 in
theorem w_c8 : (Jvm.Cond.code ({ cls := "java/lang/StringBuilder", name := "append", desc := "(Ljava/lang/String;)Ljava/lang/StringBuilder;" } : Jvm.MethodName) jdk_67_method_7_code (2 : Nat) (Option.some (Jvm.ClassFile.FieldType.object "java/lang/StringBuilder"))).before args0 about1 = true := code_word (m := ⟨12, 1⟩) (meth := k12m1) (c := k12c1) (by decide +kernel) rfl rfl rfl (by decide +kernel)
set_option maxRecDepth 65536 in
theorem w_c9 : (Jvm.Cond.code ({ cls := "java/lang/AbstractStringBuilder", name := "append", desc := "(Ljava/lang/String;)Ljava/lang/AbstractStringBuilder;" } : Jvm.MethodName) jdk_68_method_22_code (3 : Nat) (Option.some (Jvm.ClassFile.FieldType.object "java/lang/AbstractStringBuilder"))).before args0 about1 = true := code_word (m := ⟨11, 5⟩) (meth := k11m5) (c := k11c5) (by decide +kernel) rfl rfl rfl (by decide +kernel)
set_option maxRecDepth 65536 in
theorem w_c10 : (Jvm.Cond.code ({ cls := "java/lang/String", name := "length", desc := "()I" } : Jvm.MethodName) jdk_42_method_54_code (1 : Nat) (Option.some Jvm.ClassFile.FieldType.int)).before args0 about1 = true := code_word (m := ⟨7, 6⟩) (meth := k7m6) (c := k7c6) (by decide +kernel) rfl rfl rfl (by decide +kernel)
set_option maxRecDepth 65536 in
theorem w_c11 : (Jvm.Cond.code ({ cls := "java/lang/String", name := "coder", desc := "()B" } : Jvm.MethodName) jdk_42_method_152_code (1 : Nat) (Option.some Jvm.ClassFile.FieldType.byte)).before args0 about1 = true := code_word (m := ⟨7, 11⟩) (meth := k7m11) (c := k7c11) (by decide +kernel) rfl rfl rfl (by decide +kernel)
set_option maxRecDepth 65536 in
theorem w_c12 : (Jvm.Cond.code ({ cls := "java/lang/AbstractStringBuilder", name := "ensureCapacityInternal", desc := "(I)V" } : Jvm.MethodName) jdk_68_method_9_code (3 : Nat) (Option.none : Option Jvm.ClassFile.FieldType)).before args0 about1 = true := code_word (m := ⟨11, 3⟩) (meth := k11m3) (c := k11c3) (by decide +kernel) rfl rfl rfl (by decide +kernel)
set_option maxRecDepth 65536 in
theorem w_c13 : (Jvm.Cond.code ({ cls := "java/lang/AbstractStringBuilder", name := "putStringAt", desc := "(ILjava/lang/String;)V" } : Jvm.MethodName) jdk_68_method_73_code (3 : Nat) (Option.none : Option Jvm.ClassFile.FieldType)).before args0 about1 = true := code_word (m := ⟨11, 9⟩) (meth := k11m9) (c := k11c9) (by decide +kernel) rfl rfl rfl (by decide +kernel)
set_option maxRecDepth 65536 in
theorem w_c14 : (Jvm.Cond.code ({ cls := "java/lang/AbstractStringBuilder", name := "inflateIfNeededFor", desc := "(Ljava/lang/String;)V" } : Jvm.MethodName) jdk_68_method_71_code (2 : Nat) (Option.none : Option Jvm.ClassFile.FieldType)).before args0 about1 = true := code_word (m := ⟨11, 8⟩) (meth := k11m8) (c := k11c8) (by decide +kernel) rfl rfl rfl (by decide +kernel)
set_option maxRecDepth 65536 in
theorem w_c15 : (Jvm.Cond.code ({ cls := "java/lang/String", name := "getBytes", desc := "([BIB)V" } : Jvm.MethodName) jdk_42_method_147_code (4 : Nat) (Option.none : Option Jvm.ClassFile.FieldType)).before args0 about1 = true := code_word (m := ⟨7, 8⟩) (meth := k7m8) (c := k7c8) (by decide +kernel) rfl rfl rfl (by decide +kernel)
set_option maxRecDepth 65536 in
theorem w_c16 : (Jvm.Cond.code ({ cls := "java/lang/StringBuilder", name := "toString", desc := "()Ljava/lang/String;" } : Jvm.MethodName) jdk_67_method_42_code (1 : Nat) (Option.some (Jvm.ClassFile.FieldType.object "java/lang/String"))).before args0 about1 = true := code_word (m := ⟨12, 2⟩) (meth := k12m2) (c := k12c2) (by decide +kernel) rfl rfl rfl (by decide +kernel)
set_option maxRecDepth 65536 in
theorem w_c17 : (Jvm.Cond.code ({ cls := "java/lang/String", name := "<init>", desc := "(Ljava/lang/StringBuilder;)V" } : Jvm.MethodName) jdk_42_method_53_code (2 : Nat) (Option.none : Option Jvm.ClassFile.FieldType)).before args0 about1 = true := code_word (m := ⟨7, 5⟩) (meth := k7m5) (c := k7c5) (by decide +kernel) rfl rfl rfl (by decide +kernel)
set_option maxRecDepth 65536 in
theorem w_c18 : (Jvm.Cond.code ({ cls := "java/lang/String", name := "<init>", desc := "(Ljava/lang/AbstractStringBuilder;Ljava/lang/Void;)V" } : Jvm.MethodName) jdk_42_method_150_code (5 : Nat) (Option.none : Option Jvm.ClassFile.FieldType)).before args0 about1 = true := code_word (m := ⟨7, 10⟩) (meth := k7m10) (c := k7c10) (by decide +kernel) rfl rfl rfl (by decide +kernel)
set_option maxRecDepth 65536 in
theorem w_c19 : (Jvm.Cond.code ({ cls := "java/lang/AbstractStringBuilder", name := "getValue", desc := "()[B" } : Jvm.MethodName) jdk_68_method_64_code (1 : Nat) (Option.some (Jvm.ClassFile.FieldType.array Jvm.ClassFile.FieldType.byte))).before args0 about1 = true := code_word (m := ⟨11, 6⟩) (meth := k11m6) (c := k11c6) (by decide +kernel) rfl rfl rfl (by decide +kernel)
set_option maxRecDepth 65536 in
theorem w_c20 : (Jvm.Cond.code ({ cls := "java/lang/StringBuilder", name := "length", desc := "()I" } : Jvm.MethodName) jdk_67_method_93_code (1 : Nat) (Option.some Jvm.ClassFile.FieldType.int)).before args0 about1 = true := code_word (m := ⟨12, 3⟩) (meth := k12m3) (c := k12c3) (by decide +kernel) rfl rfl rfl (by decide +kernel)
set_option maxRecDepth 65536 in
theorem w_c21 : (Jvm.Cond.code ({ cls := "java/lang/AbstractStringBuilder", name := "length", desc := "()I" } : Jvm.MethodName) jdk_68_method_6_code (1 : Nat) (Option.some Jvm.ClassFile.FieldType.int)).before args0 about1 = true := code_word (m := ⟨11, 2⟩) (meth := k11m2) (c := k11c2) (by decide +kernel) rfl rfl rfl (by decide +kernel)
set_option maxRecDepth 65536 in
theorem w_c22 : (Jvm.Cond.code ({ cls := "java/lang/AbstractStringBuilder", name := "isLatin1", desc := "()Z" } : Jvm.MethodName) jdk_68_method_68_code (1 : Nat) (Option.some Jvm.ClassFile.FieldType.boolean)).before args0 about1 = true := code_word (m := ⟨11, 7⟩) (meth := k11m7) (c := k11c7) (by decide +kernel) rfl rfl rfl (by decide +kernel)
set_option maxRecDepth 65536 in
theorem w_c23 : (Jvm.Cond.code ({ cls := "java/util/Arrays", name := "copyOfRange", desc := "([BII)[B" } : Jvm.MethodName) jdk_65_method_132_code (3 : Nat) (Option.some (Jvm.ClassFile.FieldType.array Jvm.ClassFile.FieldType.byte))).before args0 about1 = true := code_word (m := ⟨14, 3⟩) (meth := k14m3) (c := k14c3) (by decide +kernel) rfl rfl rfl (by decide +kernel)
set_option maxRecDepth 65536 in
theorem w_c24 : (Jvm.Cond.code ({ cls := "java/util/Arrays", name := "copyOfRangeByte", desc := "([BII)[B" } : Jvm.MethodName) jdk_65_method_133_code (5 : Nat) (Option.some (Jvm.ClassFile.FieldType.array Jvm.ClassFile.FieldType.byte))).before args0 about1 = true := code_word (m := ⟨14, 4⟩) (meth := k14m4) (c := k14c4) (by decide +kernel) rfl rfl rfl (by decide +kernel)
set_option maxRecDepth 65536 in
theorem w_c25 : (Jvm.Cond.code ({ cls := "java/util/Arrays", name := "checkLength", desc := "(II)V" } : Jvm.MethodName) jdk_65_method_131_code (2 : Nat) (Option.none : Option Jvm.ClassFile.FieldType)).before args0 about1 = true := code_word (m := ⟨14, 2⟩) (meth := k14m2) (c := k14c2) (by decide +kernel) rfl rfl rfl (by decide +kernel)
set_option maxRecDepth 65536 in
theorem w_c26 : (Jvm.Cond.code ({ cls := "java/lang/Math", name := "min", desc := "(II)I" } : Jvm.MethodName) jdk_29_method_69_code (2 : Nat) (Option.some Jvm.ClassFile.FieldType.int)).before args0 about1 = true := code_word (m := ⟨15, 1⟩) (meth := k15m1) (c := k15c1) (by decide +kernel) rfl rfl rfl (by decide +kernel)
set_option maxRecDepth 65536 in
theorem w_c27 : (Jvm.Cond.code ({ cls := "java/lang/String", name := "getBytes", desc := "(Ljava/nio/charset/Charset;)[B" } : Jvm.MethodName) jdk_42_method_64_code (2 : Nat) (Option.some (Jvm.ClassFile.FieldType.array Jvm.ClassFile.FieldType.byte))).before args0 about1 = true := code_word (m := ⟨7, 7⟩) (meth := k7m7) (c := k7c7) (by decide +kernel) rfl rfl rfl (by decide +kernel)
set_option maxRecDepth 65536 in
theorem w_c28 : (Jvm.Cond.code ({ cls := "java/lang/String", name := "encode", desc := "(Ljava/nio/charset/Charset;B[B)[B" } : Jvm.MethodName) jdk_42_method_18_code (3 : Nat) (Option.some (Jvm.ClassFile.FieldType.array Jvm.ClassFile.FieldType.byte))).before args0 about1 = true := code_word (m := ⟨7, 2⟩) (meth := k7m2) (c := k7c2) (by decide +kernel) rfl rfl rfl (by decide +kernel)
set_option maxRecDepth 65536 in
theorem w_c29 : (Jvm.Cond.code ({ cls := "java/lang/String", name := "encodeUTF8", desc := "(B[BZ)[B" } : Jvm.MethodName) jdk_42_method_46_code (9 : Nat) (Option.some (Jvm.ClassFile.FieldType.array Jvm.ClassFile.FieldType.byte))).before args0 about1 = true := code_word (m := ⟨7, 3⟩) (meth := k7m3) (c := k7c3) (by decide +kernel) rfl rfl rfl (by decide +kernel)
set_option maxRecDepth 65536 in
theorem w_c30 : (Jvm.Cond.code ({ cls := "java/lang/StringCoding", name := "hasNegatives", desc := "([BII)Z" } : Jvm.MethodName) jdk_123_method_2_code (3 : Nat) (Option.some Jvm.ClassFile.FieldType.boolean)).before args0 about1 = true := code_word (m := ⟨21, 1⟩) (meth := k21m1) (c := k21c1) (by decide +kernel) rfl rfl rfl (by decide +kernel)
set_option maxRecDepth 65536 in
theorem w_c31 : (Jvm.Cond.code ({ cls := "java/lang/StringCoding", name := "countPositives", desc := "([BII)I" } : Jvm.MethodName) jdk_123_method_3_code (5 : Nat) (Option.some Jvm.ClassFile.FieldType.int)).before args0 about1 = true := code_word (m := ⟨21, 2⟩) (meth := k21m2) (c := k21c2) (by decide +kernel) rfl rfl rfl (by decide +kernel)
set_option maxRecDepth 65536 in
theorem w_c32 : (Jvm.Cond.code ({ cls := "com/example/pacerd/pacerd/run/Outcome", name := "<init>", desc := "(Lcom/example/pacerd/pacerd/run/RunStatus;Ljava/lang/Integer;Ljava/lang/Integer;[B)V" } : Jvm.MethodName) prog_25_method_1_code (5 : Nat) (Option.none : Option Jvm.ClassFile.FieldType)).before args0 about1 = true := code_word (m := ⟨9, 0⟩) (meth := k9m0) (c := k9c0) (by decide +kernel) rfl rfl rfl (by decide +kernel)
set_option maxRecDepth 65536 in
theorem w_c33 : (Jvm.Cond.code ({ cls := "java/lang/Record", name := "<init>", desc := "()V" } : Jvm.MethodName) jdk_30_method_1_code (1 : Nat) (Option.none : Option Jvm.ClassFile.FieldType)).before args0 about1 = true := code_word (m := ⟨8, 0⟩) (meth := k8m0) (c := k8c0) (by decide +kernel) rfl rfl rfl (by decide +kernel)
set_option maxRecDepth 65536 in
theorem w_c34 : (Jvm.Cond.code ({ cls := "com/example/pacerd/pacerd/run/Outcome", name := "status", desc := "()Lcom/example/pacerd/pacerd/run/RunStatus;" } : Jvm.MethodName) prog_25_method_7_code (1 : Nat) (Option.some (Jvm.ClassFile.FieldType.object "com/example/pacerd/pacerd/run/RunStatus"))).before args0 about1 = true := code_word (m := ⟨9, 2⟩) (meth := k9m2) (c := k9c2) (by decide +kernel) rfl rfl rfl (by decide +kernel)
set_option maxRecDepth 65536 in
theorem w_c35 : (Jvm.Cond.code ({ cls := "com/example/pacerd/pacerd/run/Outcome", name := "exitCode", desc := "()Ljava/lang/Integer;" } : Jvm.MethodName) prog_25_method_8_code (1 : Nat) (Option.some (Jvm.ClassFile.FieldType.object "java/lang/Integer"))).before args0 about1 = true := code_word (m := ⟨9, 3⟩) (meth := k9m3) (c := k9c3) (by decide +kernel) rfl rfl rfl (by decide +kernel)
set_option maxRecDepth 65536 in
theorem w_c36 : (Jvm.Cond.code ({ cls := "com/example/pacerd/pacerd/run/Outcome", name := "httpStatus", desc := "()Ljava/lang/Integer;" } : Jvm.MethodName) prog_25_method_9_code (1 : Nat) (Option.some (Jvm.ClassFile.FieldType.object "java/lang/Integer"))).before args0 about1 = true := code_word (m := ⟨9, 4⟩) (meth := k9m4) (c := k9c4) (by decide +kernel) rfl rfl rfl (by decide +kernel)
set_option maxRecDepth 65536 in
theorem w_c37 : (Jvm.Cond.code ({ cls := "com/example/pacerd/pacerd/run/Outcome", name := "output", desc := "()[B" } : Jvm.MethodName) prog_25_method_10_code (1 : Nat) (Option.some (Jvm.ClassFile.FieldType.array Jvm.ClassFile.FieldType.byte))).before args0 about1 = true := code_word (m := ⟨9, 5⟩) (meth := k9m5) (c := k9c5) (by decide +kernel) rfl rfl rfl (by decide +kernel)
set_option maxRecDepth 65536 in
theorem w_c38 : (Jvm.Cond.code ({ cls := "com/example/pacerd/pacerd/run/OutcomeFailurePinLaw", name := "eq", desc := "([B[BII)Z" } : Jvm.MethodName) method_4_code (4 : Nat) (Option.some Jvm.ClassFile.FieldType.boolean)).before args0 about1 = true := code_word (m := ⟨1, 3⟩) (meth := k1m3) (c := k1c3) (by decide +kernel) rfl rfl rfl (by decide +kernel)
set_option maxRecDepth 65536 in
theorem w_c39 : (Jvm.Cond.code ({ cls := "java/lang/StringUTF16", name := "compress", desc := "([CII)[B" } : Jvm.MethodName) jdk_52_method_16_code (6 : Nat) (Option.some (Jvm.ClassFile.FieldType.array Jvm.ClassFile.FieldType.byte))).before args0 about1 = true := code_word (m := ⟨25, 8⟩) (meth := k25m8) (c := k25c8) (by decide +kernel) rfl rfl rfl (by decide +kernel)
set_option maxRecDepth 65536 in
theorem w_c40 : (Jvm.Cond.code ({ cls := "java/lang/StringUTF16", name := "compress", desc := "([CI[BII)I" } : Jvm.MethodName) jdk_52_method_21_code (7 : Nat) (Option.some Jvm.ClassFile.FieldType.int)).before args0 about1 = true := code_word (m := ⟨25, 9⟩) (meth := k25m9) (c := k25c9) (by decide +kernel) rfl rfl rfl (by decide +kernel)
set_option maxRecDepth 65536 in
theorem w_c41 : (Jvm.Cond.code ({ cls := "java/lang/StringUTF16", name := "coderFromArrayLen", desc := "([BI)B" } : Jvm.MethodName) jdk_52_method_15_code (2 : Nat) (Option.some Jvm.ClassFile.FieldType.byte)).before args0 about1 = true := code_word (m := ⟨25, 7⟩) (meth := k25m7) (c := k25c7) (by decide +kernel) rfl rfl rfl (by decide +kernel)
set_option maxRecDepth 65536 in
theorem w_c42 : (Jvm.Cond.code ({ cls := "com/example/pacerd/pacerd/run/OutcomeFailurePinLaw", name := "put", desc := "([BII)I" } : Jvm.MethodName) method_3_code (3 : Nat) (Option.some Jvm.ClassFile.FieldType.int)).before args0 about1 = true := code_word (m := ⟨1, 2⟩) (meth := k1m2) (c := k1c2) (by decide +kernel) rfl rfl rfl (by decide +kernel)
set_option maxRecDepth 65536 in
theorem w_c43 : (Jvm.Cond.code ({ cls := "java/lang/StringUTF16", name := "newBytesFor", desc := "(I)[B" } : Jvm.MethodName) jdk_52_method_2_code (1 : Nat) (Option.some (Jvm.ClassFile.FieldType.array Jvm.ClassFile.FieldType.byte))).before args0 about1 = true := code_word (m := ⟨25, 1⟩) (meth := k25m1) (c := k25c1) (by decide +kernel) rfl rfl rfl (by decide +kernel)
set_option maxRecDepth 65536 in
theorem w_c44 : (Jvm.Cond.code ({ cls := "java/lang/StringUTF16", name := "newBytesLength", desc := "(I)I" } : Jvm.MethodName) jdk_52_method_3_code (1 : Nat) (Option.some Jvm.ClassFile.FieldType.int)).before args0 about1 = true := code_word (m := ⟨25, 2⟩) (meth := k25m2) (c := k25c2) (by decide +kernel) rfl rfl rfl (by decide +kernel)
set_option maxRecDepth 65536 in
theorem w_c45 : (Jvm.Cond.code ({ cls := "java/util/Arrays", name := "copyOf", desc := "([BI)[B" } : Jvm.MethodName) jdk_65_method_121_code (3 : Nat) (Option.some (Jvm.ClassFile.FieldType.array Jvm.ClassFile.FieldType.byte))).before args0 about1 = true := code_word (m := ⟨14, 1⟩) (meth := k14m1) (c := k14c1) (by decide +kernel) rfl rfl rfl (by decide +kernel)
set_option maxRecDepth 65536 in
theorem w_c46 : (Jvm.Cond.code ({ cls := "java/lang/StringUTF16", name := "toBytes", desc := "([CII)[B" } : Jvm.MethodName) jdk_52_method_14_code (5 : Nat) (Option.some (Jvm.ClassFile.FieldType.array Jvm.ClassFile.FieldType.byte))).before args0 about1 = true := code_word (m := ⟨25, 6⟩) (meth := k25m6) (c := k25c6) (by decide +kernel) rfl rfl rfl (by decide +kernel)
set_option maxRecDepth 65536 in
theorem w_c47 : (Jvm.Cond.code ({ cls := "java/lang/StringUTF16", name := "putChar", desc := "([BII)V" } : Jvm.MethodName) jdk_52_method_4_code (3 : Nat) (Option.none : Option Jvm.ClassFile.FieldType)).before args0 about1 = true := code_word (m := ⟨25, 3⟩) (meth := k25m3) (c := k25c3) (by decide +kernel) rfl rfl rfl (by decide +kernel)
set_option maxRecDepth 65536 in
theorem w_c48 : (Jvm.Cond.code ({ cls := "java/lang/StringUTF16", name := "getChar", desc := "([BI)C" } : Jvm.MethodName) jdk_52_method_5_code (2 : Nat) (Option.some Jvm.ClassFile.FieldType.char)).before args0 about1 = true := code_word (m := ⟨25, 4⟩) (meth := k25m4) (c := k25c4) (by decide +kernel) rfl rfl rfl (by decide +kernel)
set_option maxRecDepth 65536 in
theorem w_c49 : (Jvm.Cond.code ({ cls := "java/lang/AbstractStringBuilder", name := "inflate", desc := "()V" } : Jvm.MethodName) jdk_68_method_11_code (2 : Nat) (Option.none : Option Jvm.ClassFile.FieldType)).before args0 about1 = true := code_word (m := ⟨11, 4⟩) (meth := k11m4) (c := k11c4) (by decide +kernel) rfl rfl rfl (by decide +kernel)
set_option maxRecDepth 65536 in
theorem w_c50 : (Jvm.Cond.code ({ cls := "java/lang/StringLatin1", name := "inflate", desc := "([BI[BII)V" } : Jvm.MethodName) jdk_43_method_50_code (5 : Nat) (Option.none : Option Jvm.ClassFile.FieldType)).before args0 about1 = true := code_word (m := ⟨26, 1⟩) (meth := k26m1) (c := k26c1) (by decide +kernel) rfl rfl rfl (by decide +kernel)
set_option maxRecDepth 65536 in
theorem w_c51 : (Jvm.Cond.code ({ cls := "java/lang/StringUTF16", name := "inflate", desc := "([BI[BII)V" } : Jvm.MethodName) jdk_52_method_86_code (6 : Nat) (Option.none : Option Jvm.ClassFile.FieldType)).before args0 about1 = true := code_word (m := ⟨25, 10⟩) (meth := k25m10) (c := k25c10) (by decide +kernel) rfl rfl rfl (by decide +kernel)
set_option maxRecDepth 65536 in
theorem w_c52 : (Jvm.Cond.code ({ cls := "java/lang/StringUTF16", name := "checkBoundsOffCount", desc := "(II[B)V" } : Jvm.MethodName) jdk_52_method_94_code (3 : Nat) (Option.none : Option Jvm.ClassFile.FieldType)).before args0 about1 = true := code_word (m := ⟨25, 11⟩) (meth := k25m11) (c := k25c11) (by decide +kernel) rfl rfl rfl (by decide +kernel)
set_option maxRecDepth 65536 in
theorem w_c53 : (Jvm.Cond.code ({ cls := "java/lang/StringUTF16", name := "length", desc := "([B)I" } : Jvm.MethodName) jdk_52_method_6_code (1 : Nat) (Option.some Jvm.ClassFile.FieldType.int)).before args0 about1 = true := code_word (m := ⟨25, 5⟩) (meth := k25m5) (c := k25c5) (by decide +kernel) rfl rfl rfl (by decide +kernel)
set_option maxRecDepth 65536 in
theorem w_c54 : (Jvm.Cond.code ({ cls := "java/lang/String", name := "checkBoundsOffCount", desc := "(III)I" } : Jvm.MethodName) jdk_42_method_157_code (3 : Nat) (Option.some Jvm.ClassFile.FieldType.int)).before args0 about1 = true := code_word (m := ⟨7, 12⟩) (meth := k7m12) (c := k7c12) (by decide +kernel) rfl rfl rfl (by decide +kernel)
set_option maxRecDepth 65536 in
theorem w_c55 : (Jvm.Cond.code ({ cls := "jdk/internal/util/Preconditions", name := "checkFromIndexSize", desc := "(IIILjava/util/function/BiFunction;)I" } : Jvm.MethodName) jdk_41_method_13_code (4 : Nat) (Option.some Jvm.ClassFile.FieldType.int)).before args0 about1 = true := code_word (m := ⟨27, 1⟩) (meth := k27m1) (c := k27c1) (by decide +kernel) rfl rfl rfl (by decide +kernel)
set_option maxRecDepth 65536 in
theorem w_c56 : (Jvm.Cond.code ({ cls := "java/lang/String", name := "encodeUTF8_UTF16", desc := "([BZ)[B" } : Jvm.MethodName) jdk_42_method_47_code (9 : Nat) (Option.some (Jvm.ClassFile.FieldType.array Jvm.ClassFile.FieldType.byte))).before args0 about1 = true := code_word (m := ⟨7, 4⟩) (meth := k7m4) (c := k7c4) (by decide +kernel) rfl rfl rfl (by decide +kernel)
set_option maxRecDepth 65536 in
theorem w_c57 : (Jvm.Cond.code ({ cls := "java/lang/Character", name := "isSurrogate", desc := "(C)Z" } : Jvm.MethodName) jdk_89_method_16_code (1 : Nat) (Option.some Jvm.ClassFile.FieldType.boolean)).before args0 about1 = true := code_word (m := ⟨28, 0⟩) (meth := k28m0) (c := k28c0) (by decide +kernel) rfl rfl rfl (by decide +kernel)
def codes1 : List Jvm.Cond := [Jvm.Cond.code x code maxLocals ret, Jvm.Cond.code ({ cls := "com/example/pacerd/pacerd/run/OutcomeFailurePinLaw", name := "draw", desc := "(I)I" } : Jvm.MethodName) method_2_code (2 : Nat) (Option.some Jvm.ClassFile.FieldType.int), Jvm.Cond.code ({ cls := "java/lang/String", name := "<init>", desc := "([C)V" } : Jvm.MethodName) jdk_42_method_3_code (2 : Nat) (Option.none : Option Jvm.ClassFile.FieldType), Jvm.Cond.code ({ cls := "java/lang/String", name := "<init>", desc := "([CIILjava/lang/Void;)V" } : Jvm.MethodName) jdk_42_method_149_code (6 : Nat) (Option.none : Option Jvm.ClassFile.FieldType), Jvm.Cond.code ({ cls := "java/lang/Object", name := "<init>", desc := "()V" } : Jvm.MethodName) object_method_1_code (1 : Nat) (Option.none : Option Jvm.ClassFile.FieldType), Jvm.Cond.code ({ cls := "com/example/pacerd/pacerd/run/Outcome", name := "failure", desc := "(Ljava/lang/String;)Lcom/example/pacerd/pacerd/run/Outcome;" } : Jvm.MethodName) prog_25_method_2_code (2 : Nat) (Option.some (Jvm.ClassFile.FieldType.object "com/example/pacerd/pacerd/run/Outcome")), Jvm.Cond.code ({ cls := "java/lang/StringBuilder", name := "<init>", desc := "()V" } : Jvm.MethodName) jdk_67_method_1_code (1 : Nat) (Option.none : Option Jvm.ClassFile.FieldType), Jvm.Cond.code ({ cls := "java/lang/AbstractStringBuilder", name := "<init>", desc := "(I)V" } : Jvm.MethodName) jdk_68_method_2_code (2 : Nat) (Option.none : Option Jvm.ClassFile.FieldType), Jvm.Cond.code ({ cls := "java/lang/StringBuilder", name := "append", desc := "(Ljava/lang/String;)Ljava/lang/StringBuilder;" } : Jvm.MethodName) jdk_67_method_7_code (2 : Nat) (Option.some (Jvm.ClassFile.FieldType.object "java/lang/StringBuilder")), Jvm.Cond.code ({ cls := "java/lang/AbstractStringBuilder", name := "append", desc := "(Ljava/lang/String;)Ljava/lang/AbstractStringBuilder;" } : Jvm.MethodName) jdk_68_method_22_code (3 : Nat) (Option.some (Jvm.ClassFile.FieldType.object "java/lang/AbstractStringBuilder")), Jvm.Cond.code ({ cls := "java/lang/String", name := "length", desc := "()I" } : Jvm.MethodName) jdk_42_method_54_code (1 : Nat) (Option.some Jvm.ClassFile.FieldType.int), Jvm.Cond.code ({ cls := "java/lang/String", name := "coder", desc := "()B" } : Jvm.MethodName) jdk_42_method_152_code (1 : Nat) (Option.some Jvm.ClassFile.FieldType.byte), Jvm.Cond.code ({ cls := "java/lang/AbstractStringBuilder", name := "ensureCapacityInternal", desc := "(I)V" } : Jvm.MethodName) jdk_68_method_9_code (3 : Nat) (Option.none : Option Jvm.ClassFile.FieldType), Jvm.Cond.code ({ cls := "java/lang/AbstractStringBuilder", name := "putStringAt", desc := "(ILjava/lang/String;)V" } : Jvm.MethodName) jdk_68_method_73_code (3 : Nat) (Option.none : Option Jvm.ClassFile.FieldType), Jvm.Cond.code ({ cls := "java/lang/AbstractStringBuilder", name := "inflateIfNeededFor", desc := "(Ljava/lang/String;)V" } : Jvm.MethodName) jdk_68_method_71_code (2 : Nat) (Option.none : Option Jvm.ClassFile.FieldType), Jvm.Cond.code ({ cls := "java/lang/String", name := "getBytes", desc := "([BIB)V" } : Jvm.MethodName) jdk_42_method_147_code (4 : Nat) (Option.none : Option Jvm.ClassFile.FieldType), Jvm.Cond.code ({ cls := "java/lang/StringBuilder", name := "toString", desc := "()Ljava/lang/String;" } : Jvm.MethodName) jdk_67_method_42_code (1 : Nat) (Option.some (Jvm.ClassFile.FieldType.object "java/lang/String")), Jvm.Cond.code ({ cls := "java/lang/String", name := "<init>", desc := "(Ljava/lang/StringBuilder;)V" } : Jvm.MethodName) jdk_42_method_53_code (2 : Nat) (Option.none : Option Jvm.ClassFile.FieldType), Jvm.Cond.code ({ cls := "java/lang/String", name := "<init>", desc := "(Ljava/lang/AbstractStringBuilder;Ljava/lang/Void;)V" } : Jvm.MethodName) jdk_42_method_150_code (5 : Nat) (Option.none : Option Jvm.ClassFile.FieldType), Jvm.Cond.code ({ cls := "java/lang/AbstractStringBuilder", name := "getValue", desc := "()[B" } : Jvm.MethodName) jdk_68_method_64_code (1 : Nat) (Option.some (Jvm.ClassFile.FieldType.array Jvm.ClassFile.FieldType.byte)), Jvm.Cond.code ({ cls := "java/lang/StringBuilder", name := "length", desc := "()I" } : Jvm.MethodName) jdk_67_method_93_code (1 : Nat) (Option.some Jvm.ClassFile.FieldType.int), Jvm.Cond.code ({ cls := "java/lang/AbstractStringBuilder", name := "length", desc := "()I" } : Jvm.MethodName) jdk_68_method_6_code (1 : Nat) (Option.some Jvm.ClassFile.FieldType.int), Jvm.Cond.code ({ cls := "java/lang/AbstractStringBuilder", name := "isLatin1", desc := "()Z" } : Jvm.MethodName) jdk_68_method_68_code (1 : Nat) (Option.some Jvm.ClassFile.FieldType.boolean), Jvm.Cond.code ({ cls := "java/util/Arrays", name := "copyOfRange", desc := "([BII)[B" } : Jvm.MethodName) jdk_65_method_132_code (3 : Nat) (Option.some (Jvm.ClassFile.FieldType.array Jvm.ClassFile.FieldType.byte)), Jvm.Cond.code ({ cls := "java/util/Arrays", name := "copyOfRangeByte", desc := "([BII)[B" } : Jvm.MethodName) jdk_65_method_133_code (5 : Nat) (Option.some (Jvm.ClassFile.FieldType.array Jvm.ClassFile.FieldType.byte)), Jvm.Cond.code ({ cls := "java/util/Arrays", name := "checkLength", desc := "(II)V" } : Jvm.MethodName) jdk_65_method_131_code (2 : Nat) (Option.none : Option Jvm.ClassFile.FieldType), Jvm.Cond.code ({ cls := "java/lang/Math", name := "min", desc := "(II)I" } : Jvm.MethodName) jdk_29_method_69_code (2 : Nat) (Option.some Jvm.ClassFile.FieldType.int), Jvm.Cond.code ({ cls := "java/lang/String", name := "getBytes", desc := "(Ljava/nio/charset/Charset;)[B" } : Jvm.MethodName) jdk_42_method_64_code (2 : Nat) (Option.some (Jvm.ClassFile.FieldType.array Jvm.ClassFile.FieldType.byte)), Jvm.Cond.code ({ cls := "java/lang/String", name := "encode", desc := "(Ljava/nio/charset/Charset;B[B)[B" } : Jvm.MethodName) jdk_42_method_18_code (3 : Nat) (Option.some (Jvm.ClassFile.FieldType.array Jvm.ClassFile.FieldType.byte)), Jvm.Cond.code ({ cls := "java/lang/String", name := "encodeUTF8", desc := "(B[BZ)[B" } : Jvm.MethodName) jdk_42_method_46_code (9 : Nat) (Option.some (Jvm.ClassFile.FieldType.array Jvm.ClassFile.FieldType.byte)), Jvm.Cond.code ({ cls := "java/lang/StringCoding", name := "hasNegatives", desc := "([BII)Z" } : Jvm.MethodName) jdk_123_method_2_code (3 : Nat) (Option.some Jvm.ClassFile.FieldType.boolean), Jvm.Cond.code ({ cls := "java/lang/StringCoding", name := "countPositives", desc := "([BII)I" } : Jvm.MethodName) jdk_123_method_3_code (5 : Nat) (Option.some Jvm.ClassFile.FieldType.int), Jvm.Cond.code ({ cls := "com/example/pacerd/pacerd/run/Outcome", name := "<init>", desc := "(Lcom/example/pacerd/pacerd/run/RunStatus;Ljava/lang/Integer;Ljava/lang/Integer;[B)V" } : Jvm.MethodName) prog_25_method_1_code (5 : Nat) (Option.none : Option Jvm.ClassFile.FieldType), Jvm.Cond.code ({ cls := "java/lang/Record", name := "<init>", desc := "()V" } : Jvm.MethodName) jdk_30_method_1_code (1 : Nat) (Option.none : Option Jvm.ClassFile.FieldType), Jvm.Cond.code ({ cls := "com/example/pacerd/pacerd/run/Outcome", name := "status", desc := "()Lcom/example/pacerd/pacerd/run/RunStatus;" } : Jvm.MethodName) prog_25_method_7_code (1 : Nat) (Option.some (Jvm.ClassFile.FieldType.object "com/example/pacerd/pacerd/run/RunStatus")), Jvm.Cond.code ({ cls := "com/example/pacerd/pacerd/run/Outcome", name := "exitCode", desc := "()Ljava/lang/Integer;" } : Jvm.MethodName) prog_25_method_8_code (1 : Nat) (Option.some (Jvm.ClassFile.FieldType.object "java/lang/Integer")), Jvm.Cond.code ({ cls := "com/example/pacerd/pacerd/run/Outcome", name := "httpStatus", desc := "()Ljava/lang/Integer;" } : Jvm.MethodName) prog_25_method_9_code (1 : Nat) (Option.some (Jvm.ClassFile.FieldType.object "java/lang/Integer")), Jvm.Cond.code ({ cls := "com/example/pacerd/pacerd/run/Outcome", name := "output", desc := "()[B" } : Jvm.MethodName) prog_25_method_10_code (1 : Nat) (Option.some (Jvm.ClassFile.FieldType.array Jvm.ClassFile.FieldType.byte)), Jvm.Cond.code ({ cls := "com/example/pacerd/pacerd/run/OutcomeFailurePinLaw", name := "eq", desc := "([B[BII)Z" } : Jvm.MethodName) method_4_code (4 : Nat) (Option.some Jvm.ClassFile.FieldType.boolean), Jvm.Cond.code ({ cls := "java/lang/StringUTF16", name := "compress", desc := "([CII)[B" } : Jvm.MethodName) jdk_52_method_16_code (6 : Nat) (Option.some (Jvm.ClassFile.FieldType.array Jvm.ClassFile.FieldType.byte)), Jvm.Cond.code ({ cls := "java/lang/StringUTF16", name := "compress", desc := "([CI[BII)I" } : Jvm.MethodName) jdk_52_method_21_code (7 : Nat) (Option.some Jvm.ClassFile.FieldType.int), Jvm.Cond.code ({ cls := "java/lang/StringUTF16", name := "coderFromArrayLen", desc := "([BI)B" } : Jvm.MethodName) jdk_52_method_15_code (2 : Nat) (Option.some Jvm.ClassFile.FieldType.byte), Jvm.Cond.code ({ cls := "com/example/pacerd/pacerd/run/OutcomeFailurePinLaw", name := "put", desc := "([BII)I" } : Jvm.MethodName) method_3_code (3 : Nat) (Option.some Jvm.ClassFile.FieldType.int), Jvm.Cond.code ({ cls := "java/lang/StringUTF16", name := "newBytesFor", desc := "(I)[B" } : Jvm.MethodName) jdk_52_method_2_code (1 : Nat) (Option.some (Jvm.ClassFile.FieldType.array Jvm.ClassFile.FieldType.byte)), Jvm.Cond.code ({ cls := "java/lang/StringUTF16", name := "newBytesLength", desc := "(I)I" } : Jvm.MethodName) jdk_52_method_3_code (1 : Nat) (Option.some Jvm.ClassFile.FieldType.int), Jvm.Cond.code ({ cls := "java/util/Arrays", name := "copyOf", desc := "([BI)[B" } : Jvm.MethodName) jdk_65_method_121_code (3 : Nat) (Option.some (Jvm.ClassFile.FieldType.array Jvm.ClassFile.FieldType.byte)), Jvm.Cond.code ({ cls := "java/lang/StringUTF16", name := "toBytes", desc := "([CII)[B" } : Jvm.MethodName) jdk_52_method_14_code (5 : Nat) (Option.some (Jvm.ClassFile.FieldType.array Jvm.ClassFile.FieldType.byte)), Jvm.Cond.code ({ cls := "java/lang/StringUTF16", name := "putChar", desc := "([BII)V" } : Jvm.MethodName) jdk_52_method_4_code (3 : Nat) (Option.none : Option Jvm.ClassFile.FieldType), Jvm.Cond.code ({ cls := "java/lang/StringUTF16", name := "getChar", desc := "([BI)C" } : Jvm.MethodName) jdk_52_method_5_code (2 : Nat) (Option.some Jvm.ClassFile.FieldType.char), Jvm.Cond.code ({ cls := "java/lang/AbstractStringBuilder", name := "inflate", desc := "()V" } : Jvm.MethodName) jdk_68_method_11_code (2 : Nat) (Option.none : Option Jvm.ClassFile.FieldType), Jvm.Cond.code ({ cls := "java/lang/StringLatin1", name := "inflate", desc := "([BI[BII)V" } : Jvm.MethodName) jdk_43_method_50_code (5 : Nat) (Option.none : Option Jvm.ClassFile.FieldType), Jvm.Cond.code ({ cls := "java/lang/StringUTF16", name := "inflate", desc := "([BI[BII)V" } : Jvm.MethodName) jdk_52_method_86_code (6 : Nat) (Option.none : Option Jvm.ClassFile.FieldType), Jvm.Cond.code ({ cls := "java/lang/StringUTF16", name := "checkBoundsOffCount", desc := "(II[B)V" } : Jvm.MethodName) jdk_52_method_94_code (3 : Nat) (Option.none : Option Jvm.ClassFile.FieldType), Jvm.Cond.code ({ cls := "java/lang/StringUTF16", name := "length", desc := "([B)I" } : Jvm.MethodName) jdk_52_method_6_code (1 : Nat) (Option.some Jvm.ClassFile.FieldType.int), Jvm.Cond.code ({ cls := "java/lang/String", name := "checkBoundsOffCount", desc := "(III)I" } : Jvm.MethodName) jdk_42_method_157_code (3 : Nat) (Option.some Jvm.ClassFile.FieldType.int), Jvm.Cond.code ({ cls := "jdk/internal/util/Preconditions", name := "checkFromIndexSize", desc := "(IIILjava/util/function/BiFunction;)I" } : Jvm.MethodName) jdk_41_method_13_code (4 : Nat) (Option.some Jvm.ClassFile.FieldType.int), Jvm.Cond.code ({ cls := "java/lang/String", name := "encodeUTF8_UTF16", desc := "([BZ)[B" } : Jvm.MethodName) jdk_42_method_47_code (9 : Nat) (Option.some (Jvm.ClassFile.FieldType.array Jvm.ClassFile.FieldType.byte)), Jvm.Cond.code ({ cls := "java/lang/Character", name := "isSurrogate", desc := "(C)Z" } : Jvm.MethodName) jdk_89_method_16_code (1 : Nat) (Option.some Jvm.ClassFile.FieldType.boolean)]
set_option maxRecDepth 65536 in
theorem codes_eq : words1.filter isCode = codes1 := rfl
theorem w_codes : ∀ c ∈ words1.filter isCode, c.before args0 about1 = true := by
  rw [codes_eq]
  intro c hc
  simp only [codes1, List.mem_cons, List.not_mem_nil, or_false] at hc
  rcases hc with rfl | rfl | rfl | rfl | rfl | rfl | rfl | rfl | rfl | rfl | rfl | rfl | rfl | rfl | rfl | rfl | rfl | rfl | rfl | rfl | rfl | rfl | rfl | rfl | rfl | rfl | rfl | rfl | rfl | rfl | rfl | rfl | rfl | rfl | rfl | rfl | rfl | rfl | rfl | rfl | rfl | rfl | rfl | rfl | rfl | rfl | rfl | rfl | rfl | rfl | rfl | rfl | rfl | rfl | rfl | rfl | rfl | rfl
  · exact w_c0
  · exact w_c1
  · exact w_c2
  · exact w_c3
  · exact w_c4
  · exact w_c5
  · exact w_c6
  · exact w_c7
  · exact w_c8
  · exact w_c9
  · exact w_c10
  · exact w_c11
  · exact w_c12
  · exact w_c13
  · exact w_c14
  · exact w_c15
  · exact w_c16
  · exact w_c17
  · exact w_c18
  · exact w_c19
  · exact w_c20
  · exact w_c21
  · exact w_c22
  · exact w_c23
  · exact w_c24
  · exact w_c25
  · exact w_c26
  · exact w_c27
  · exact w_c28
  · exact w_c29
  · exact w_c30
  · exact w_c31
  · exact w_c32
  · exact w_c33
  · exact w_c34
  · exact w_c35
  · exact w_c36
  · exact w_c37
  · exact w_c38
  · exact w_c39
  · exact w_c40
  · exact w_c41
  · exact w_c42
  · exact w_c43
  · exact w_c44
  · exact w_c45
  · exact w_c46
  · exact w_c47
  · exact w_c48
  · exact w_c49
  · exact w_c50
  · exact w_c51
  · exact w_c52
  · exact w_c53
  · exact w_c54
  · exact w_c55
  · exact w_c56
  · exact w_c57
set_option maxRecDepth 65536 in
theorem w_t1 : (words1.take 24).all (fun c => isCode c || c.before args0 about1) = true := by decide +kernel
set_option maxRecDepth 65536 in
theorem w_t2 : ((words1.drop 24).take 24).all (fun c => isCode c || c.before args0 about1) = true := by decide +kernel
set_option maxRecDepth 65536 in
theorem w_t3 : (((words1.drop 24).drop 24).take 24).all (fun c => isCode c || c.before args0 about1) = true := by decide +kernel
set_option maxRecDepth 65536 in
theorem w_t4 : ((((words1.drop 24).drop 24).drop 24).take 24).all (fun c => isCode c || c.before args0 about1) = true := by decide +kernel
set_option maxRecDepth 65536 in
theorem w_t5 : (((((words1.drop 24).drop 24).drop 24).drop 24).take 24).all (fun c => isCode c || c.before args0 about1) = true := by decide +kernel
set_option maxRecDepth 65536 in
theorem w_t6 : ((((((words1.drop 24).drop 24).drop 24).drop 24).drop 24).take 24).all (fun c => isCode c || c.before args0 about1) = true := by decide +kernel
set_option maxRecDepth 65536 in
theorem w_t7 : (((((((words1.drop 24).drop 24).drop 24).drop 24).drop 24).drop 24).take 24).all (fun c => isCode c || c.before args0 about1) = true := by decide +kernel
set_option maxRecDepth 65536 in
theorem w_t8 : ((((((((words1.drop 24).drop 24).drop 24).drop 24).drop 24).drop 24).drop 24).take 24).all (fun c => isCode c || c.before args0 about1) = true := by decide +kernel
set_option maxRecDepth 65536 in
theorem w_t9 : (((((((((words1.drop 24).drop 24).drop 24).drop 24).drop 24).drop 24).drop 24).drop 24).take 24).all (fun c => isCode c || c.before args0 about1) = true := by decide +kernel
set_option maxRecDepth 65536 in
theorem w_t10 : ((((((((((words1.drop 24).drop 24).drop 24).drop 24).drop 24).drop 24).drop 24).drop 24).drop 24).take 24).all (fun c => isCode c || c.before args0 about1) = true := by decide +kernel
set_option maxRecDepth 65536 in
theorem w_t11 : (((((((((((words1.drop 24).drop 24).drop 24).drop 24).drop 24).drop 24).drop 24).drop 24).drop 24).drop 24).take 24).all (fun c => isCode c || c.before args0 about1) = true := by decide +kernel
set_option maxRecDepth 65536 in
theorem w_t12 : ((((((((((((words1.drop 24).drop 24).drop 24).drop 24).drop 24).drop 24).drop 24).drop 24).drop 24).drop 24).drop 24).take 24).all (fun c => isCode c || c.before args0 about1) = true := by decide +kernel
set_option maxRecDepth 65536 in
theorem w_t13 : ((((((((((((words1.drop 24).drop 24).drop 24).drop 24).drop 24).drop 24).drop 24).drop 24).drop 24).drop 24).drop 24).drop 24).all (fun c => isCode c || c.before args0 about1) = true := by decide +kernel
theorem w_tables : (allAtoms (Jvm.Cond.code x code maxLocals ret :: tables_1)).before args0 about1 = true := by
  rw [allAtoms_all]
  show words1.all (fun c => c.before args0 about1) = true
  refine all_split ?_ w_codes
  rw [← List.take_append_drop 24 words1, List.all_append, w_t1, ← List.take_append_drop 24 (words1.drop 24), List.all_append, w_t2, ← List.take_append_drop 24 ((words1.drop 24).drop 24), List.all_append, w_t3, ← List.take_append_drop 24 (((words1.drop 24).drop 24).drop 24), List.all_append, w_t4, ← List.take_append_drop 24 ((((words1.drop 24).drop 24).drop 24).drop 24), List.all_append, w_t5, ← List.take_append_drop 24 (((((words1.drop 24).drop 24).drop 24).drop 24).drop 24), List.all_append, w_t6, ← List.take_append_drop 24 ((((((words1.drop 24).drop 24).drop 24).drop 24).drop 24).drop 24), List.all_append, w_t7, ← List.take_append_drop 24 (((((((words1.drop 24).drop 24).drop 24).drop 24).drop 24).drop 24).drop 24), List.all_append, w_t8, ← List.take_append_drop 24 ((((((((words1.drop 24).drop 24).drop 24).drop 24).drop 24).drop 24).drop 24).drop 24), List.all_append, w_t9, ← List.take_append_drop 24 (((((((((words1.drop 24).drop 24).drop 24).drop 24).drop 24).drop 24).drop 24).drop 24).drop 24), List.all_append, w_t10, ← List.take_append_drop 24 ((((((((((words1.drop 24).drop 24).drop 24).drop 24).drop 24).drop 24).drop 24).drop 24).drop 24).drop 24), List.all_append, w_t11, ← List.take_append_drop 24 (((((((((((words1.drop 24).drop 24).drop 24).drop 24).drop 24).drop 24).drop 24).drop 24).drop 24).drop 24).drop 24), List.all_append, w_t12, w_t13]
  rfl
set_option maxRecDepth 65536 in
theorem w_rest : rest_1_c.before args0 about1 = true := by decide +kernel
set_option maxRecDepth 65536 in
theorem w_case : (Jvm.Cond.and given_1 narrow_1).before args0 about1 = true := by decide +kernel
set_option maxRecDepth 65536 in
theorem w_consts : constsHeld consts_1 about1 := Jvm.Lit.constsHeldB_iff.mp (by decide +kernel)
theorem w_applies : (headSpec (Jvm.Cond.code x code maxLocals ret :: tables_1) room_1).applies x e0.platform about1 = true :=
  (Spec.applies_iff w_frames).mpr ⟨w_running, w_runnable, w_alone, w_named, w_hears, w_ripe, w_room, w_tables⟩
theorem atStart : AtStart classFile x code maxLocals ret World_1 tables_1 room_1 Calls_1 rest_1 Pre_1 launch0 p0 e0 about1 theMethod args0 below0 :=
  ⟨lists_1, trivial, launch0.admits_env _ _ _, launch0.least_env, fairChoices_fair.cas, fairChoices_fair.clock, w_frames, w_args, w_heap, w_applies, ⟨w_consts, trivial⟩, w_rest, w_case⟩
end start1
theorem witness_1 : WitnessClaimed_1 := ⟨start1.p0, start1.e0, start1.about1, start1.theMethod, start1.args0, start1.below0, start1.atStart⟩
end Jvm.Pilot.@@N@@
