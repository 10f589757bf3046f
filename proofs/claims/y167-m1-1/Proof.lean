import JvmDerived
import JvmDerived.Pilot.@@N@@Statement
import JvmDerived.Pilot.@@N@@Code
set_option linter.unusedVariables false
set_option linter.unusedSimpArgs false
namespace Jvm.RoadKit
open Sem ClassFile Op Lib Jvm.Stand Jvm.Free Jvm.LawKit
section OwnKit
/-- what stands fast while one body is walked -/
def own_Cx (p : Program) (l : Launch) (e : Env) (R : Room) (s : State) (m : MethodId) (args : Array Value) (below : List Frame) (meth : Method) (c : Code) (Z : State) (own nm : String) (bytes : ByteArray) (maxL : Nat) (ret : Option FieldType) : Prop :=
  p.tables.exec = Jvm.exec ∧ Z.Warmed39 s.vm ∧ s.vm.findClass own = some m.cls ∧ c.code = bytes ∧ c.maxLocals = maxL ∧ meth.sig.returnType = ret ∧ meth.locks = false ∧ meth.name = nm
/-- from here the body comes to its end, and Q holds of what it returns and of the heap -/
def own_Go (p : Program) (l : Launch) (e : Env) (R : Room) (s : State) (m : MethodId) (args : Array Value) (below : List Frame) (meth : Method) (c : Code) (n0 : Nat) (Q : Option Value → State → List Loc → Prop) (cells slots : Nat) (h : Heap) (pc : Nat) (Ls : List Slot) (st : List Value) : Prop :=
  ∀ (T : State) (locs : List Loc) (ce sl : Nat), ce ≤ cells → sl ≤ slots → Fr n0 locs → Stand p l e R s m args below meth c T locs ce sl → T.heap = h →
    ∃ s₂ o, Steps p.tables e below (T.setTop (mkF m pc Ls.toArray st)) s₂ ∧ s₂.status = .running ∧ Ended s₂ below o ∧ ∃ v L, o = .returned v ∧ Q v s₂ L
/-- the plain end: what is returned, the heap, what was written, the frame -/
def own_N (s : State) (n0 : Nat) (R : Room) (Q : Option Value → Heap → Prop) (v : Option Value) (t : State) (L : List Loc) : Prop := (Q v t.heap ∧ Fr n0 L) ∧ FrameEnd s (.returned v) t L R.cells R.slots
/-- an instruction and the place behind it -/
def own_D (bytes : ByteArray) (pc : Nat) (i : Instr) (n pn : Nat) : Prop := decode bytes pc = .ok (i, n) ∧ pc + n = pn
/-- where a branch leads -/
def own_T (pc : Nat) (o : Int) (pt : Nat) : Prop := 0 ≤ (pc : Int) + o ∧ ((pc : Int) + o).toNat = pt
/-- a body's contract, over the start's tables Z and the heap h -/
def own_Con (l : Launch) (Z : State) (y : MethodName) (bytes : ByteArray) (maxL : Nat) (ret : Option FieldType) (rm : Room) (n0 : Nat) (as' : List Value) (h : Heap) (Q : Option Value → Heap → Prop) : Prop :=
  ∀ ws : List Jvm.Cond, MetFree l y (head1 (Jvm.Cond.code y bytes maxL ret :: ws) rm) (fun a U => a = as'.toArray ∧ Z.Warmed39 U.vm ∧ U.heap = h) (fun _ _ _ _ _ => True) (fun _ U o U' => ∃ v L, o = .returned v ∧ (Q v U'.heap ∧ Fr n0 L) ∧ FrameEnd U o U' L rm.cells rm.slots)
variable {p : Program} {l : Launch} {e : Env} {R : Room} {s : State} {m : MethodId} {args : Array Value} {below : List Frame} {meth : Method} {c : Code} {Z : State} {a0 : Array Value} {h : Heap} {own nm : String} {bytes : ByteArray} {maxL : Nat} {ret : Option FieldType} {n0 cells slots pc pn pt : Nat} {Q : Option Value → State → List Loc → Prop} {Qn : Option Value → Heap → Prop} {Ls : List Slot} {st rest : List Value}
theorem own_Con.mk {y : MethodName} {rm : Room} {as' : List Value} (hpn : plainFor y = true) (hef : ∀ m, entryFrame m as'.toArray maxL = mkF m 0 Ls.toArray [])
    (body : ∀ p e s m below meth c, own_Cx p l e rm s m as'.toArray below meth c Z y.cls y.name bytes maxL ret → own_Go p l e rm s m as'.toArray below meth c n0 (own_N s n0 rm Qn) 0 0 h 0 Ls []) : own_Con l Z y bytes maxL ret rm n0 as' h Qn := by
  intro ws
  refine MetFree.of_bodySF hpn hisR ?_
  intro p e s m args below meth c s₁ Bd hml0 hP hK
  obtain ⟨rfl, hZ, hh⟩ := hP
  have X0 : Stand p l e rm s m as'.toArray below meth c s₁ [] 0 0 := Stand.of_body Bd
  have e0 : s₁.heap = h := by rw [← hh, Bd.state]; rfl
  obtain ⟨s₂, o, h1, h2, h3, v, L, rfl, h4⟩ := body p e s m below meth c ⟨Bd.exec, hZ, findClass_of_methodNamed Bd.named, Bd.bytes, hml0, Bd.returns, Bd.notSynchronized, (name_of_methodNamed Bd.named Bd.method).1⟩ s₁ [] 0 0 (Nat.le_refl _) (Nat.le_refl _) (Fr.nil n0) X0 e0
  exact ⟨s₂, _, castTop (hef m) h1, h2, h3, v, L, rfl, h4⟩
theorem own_Con.imp {y : MethodName} {rm : Room} {as' : List Value} {Q' : Option Value → Heap → Prop} (K : own_Con l Z y bytes maxL ret rm n0 as' h Qn) (q : ∀ v h', Qn v h' → Q' v h') : own_Con l Z y bytes maxL ret rm n0 as' h Q' := by
  intro ws p e ha hc hk s m args below hf happ hP hK
  obtain ⟨n, o, h1, h2, h3, v, L, h4, h5, h6⟩ := K ws p e ha hc hk s m args below hf happ hP hK
  exact ⟨n, o, h1, h2, h3, v, L, h4, ⟨q _ _ h5.1, h5.2⟩, h6⟩
theorem own_step {pc' : Nat} {Ls' : List Slot} {st' : List Value} (H : ∀ (T : State) (locs : List Loc) (ce sl : Nat), Stand p l e R s m args below meth c T locs ce sl → ∀ target, Steps p.tables e below (T.setTop (mkF m pc' Ls'.toArray st')) target → Steps p.tables e below (T.setTop (mkF m pc Ls.toArray st)) target)
    (k : own_Go p l e R s m args below meth c n0 Q cells slots h pc' Ls' st') : own_Go p l e R s m args below meth c n0 Q cells slots h pc Ls st := by
  intro T locs ce sl hc hs hf X eT
  obtain ⟨s₂, o, h1, h2⟩ := k T locs ce sl hc hs hf X eT
  exact ⟨s₂, o, H T locs ce sl X _ h1, h2⟩
theorem own_warm {pc' : Nat} {Ls' : List Slot} {st' : List Value} (H : ∀ (T : State) (locs : List Loc) (ce sl : Nat), Stand p l e R s m args below meth c T locs ce sl → T.heap = h → ∃ T', Stand p l e R s m args below meth c T' locs ce sl ∧ T'.heap = h ∧ ∀ target, Steps p.tables e below (T'.setTop (mkF m pc' Ls'.toArray st')) target → Steps p.tables e below (T.setTop (mkF m pc Ls.toArray st)) target)
    (k : own_Go p l e R s m args below meth c n0 Q cells slots h pc' Ls' st') : own_Go p l e R s m args below meth c n0 Q cells slots h pc Ls st := by
  intro T locs ce sl hc hs hf X eT
  obtain ⟨T', X', eT', H'⟩ := H T locs ce sl X eT
  obtain ⟨s₂, o, h1, h2⟩ := k T' locs ce sl hc hs hf X' eT'
  exact ⟨s₂, o, H' _ h1, h2⟩
theorem own_Go.more {cells' slots' : Nat} (hc : cells ≤ cells') (hs : slots ≤ slots') (k : own_Go p l e R s m args below meth c n0 Q cells' slots' h pc Ls st) : own_Go p l e R s m args below meth c n0 Q cells slots h pc Ls st :=
  fun T locs ce sl h1 h2 hf X eT => k T locs ce sl (Nat.le_trans h1 hc) (Nat.le_trans h2 hs) hf X eT
theorem own_Go.cast {pc' : Nat} {Ls' : List Slot} {st' : List Value} (k : own_Go p l e R s m args below meth c n0 Q cells slots h pc' Ls' st') (e1 : pc = pc' := by rfl) (e2 : Ls = Ls' := by rfl) (e3 : st = st' := by rfl) : own_Go p l e R s m args below meth c n0 Q cells slots h pc Ls st := by
  subst e1 e2 e3; exact k
theorem own_aloadN (C : own_Cx p l e R s m args below meth c Z own nm bytes maxL ret) {i : Fin 4} {v : Value} (d : own_D bytes pc (.aload_n i) 1 pn) (hl : Ls[i.val]? = some (.val v)) (hv : v.isRef = true) (k : own_Go p l e R s m args below meth c n0 Q cells slots h pn Ls (v :: st)) : own_Go p l e R s m args below meth c n0 Q cells slots h pc Ls st := by
  obtain ⟨hd, rfl⟩ := d
  exact own_step (fun T locs ce sl X t r => XS.aloadN X.here C.1 rfl (hb C.2.2.2.1 hd) (by simpa using hl) hv r) k
theorem own_aload (C : own_Cx p l e R s m args below meth c Z own nm bytes maxL ret) {i : Nat} {v : Value} (d : own_D bytes pc (.aload i) 2 pn) (hl : Ls[i]? = some (.val v)) (hv : v.isRef = true) (k : own_Go p l e R s m args below meth c n0 Q cells slots h pn Ls (v :: st)) : own_Go p l e R s m args below meth c n0 Q cells slots h pc Ls st := by
  obtain ⟨hd, rfl⟩ := d
  exact own_step (fun T locs ce sl X t r => XS.aload X.here C.1 rfl (hb C.2.2.2.1 hd) (by simpa using hl) hv r) k
theorem own_iloadN (C : own_Cx p l e R s m args below meth c Z own nm bytes maxL ret) {i : Fin 4} {v : Int32} (d : own_D bytes pc (.iload_n i) 1 pn) (hl : Ls[i.val]? = some (.val (.int v))) (k : own_Go p l e R s m args below meth c n0 Q cells slots h pn Ls (.int v :: st)) : own_Go p l e R s m args below meth c n0 Q cells slots h pc Ls st := by
  obtain ⟨hd, rfl⟩ := d
  exact own_step (fun T locs ce sl X t r => XS.iloadN X.here C.1 rfl (hb C.2.2.2.1 hd) (by simpa using hl) r) k
theorem own_iload (C : own_Cx p l e R s m args below meth c Z own nm bytes maxL ret) {i : Nat} {v : Int32} (d : own_D bytes pc (.iload i) 2 pn) (hl : Ls[i]? = some (.val (.int v))) (k : own_Go p l e R s m args below meth c n0 Q cells slots h pn Ls (.int v :: st)) : own_Go p l e R s m args below meth c n0 Q cells slots h pc Ls st := by
  obtain ⟨hd, rfl⟩ := d
  exact own_step (fun T locs ce sl X t r => XS.iload X.here C.1 rfl (hb C.2.2.2.1 hd) (by simpa using hl) r) k
theorem own_lloadN (C : own_Cx p l e R s m args below meth c Z own nm bytes maxL ret) {i : Fin 4} {v : Int64} (d : own_D bytes pc (.lload_n i) 1 pn) (hl : Ls[i.val]? = some (.val (.long v))) (k : own_Go p l e R s m args below meth c n0 Q cells slots h pn Ls (.long v :: st)) : own_Go p l e R s m args below meth c n0 Q cells slots h pc Ls st := by
  obtain ⟨hd, rfl⟩ := d
  exact own_step (fun T locs ce sl X t r => XS.lloadN X.here C.1 rfl (hb C.2.2.2.1 hd) (by simpa using hl) r) k
theorem own_lload (C : own_Cx p l e R s m args below meth c Z own nm bytes maxL ret) {i : Nat} {v : Int64} (d : own_D bytes pc (.lload i) 2 pn) (hl : Ls[i]? = some (.val (.long v))) (k : own_Go p l e R s m args below meth c n0 Q cells slots h pn Ls (.long v :: st)) : own_Go p l e R s m args below meth c n0 Q cells slots h pc Ls st := by
  obtain ⟨hd, rfl⟩ := d
  exact own_step (fun T locs ce sl X t r => XS.lload X.here C.1 rfl (hb C.2.2.2.1 hd) (by simpa using hl) r) k
theorem own_iconst (C : own_Cx p l e R s m args below meth c Z own nm bytes maxL ret) {i : Int} (v : Int32) (d : own_D bytes pc (.iconst i) 1 pn) (hv : Int32.ofInt i = v) (k : own_Go p l e R s m args below meth c n0 Q cells slots h pn Ls (.int v :: st)) : own_Go p l e R s m args below meth c n0 Q cells slots h pc Ls st := by
  obtain ⟨hd, rfl⟩ := d
  exact own_step (fun T locs ce sl X t r => XS.iconst X.here C.1 rfl (hb C.2.2.2.1 hd) (by rw [hv]; exact r)) k
theorem own_bipush (C : own_Cx p l e R s m args below meth c Z own nm bytes maxL ret) {i : Int} (v : Int32) (d : own_D bytes pc (.bipush i) 2 pn) (hv : (Int8.ofInt i).toInt32 = v) (k : own_Go p l e R s m args below meth c n0 Q cells slots h pn Ls (.int v :: st)) : own_Go p l e R s m args below meth c n0 Q cells slots h pc Ls st := by
  obtain ⟨hd, rfl⟩ := d
  exact own_step (fun T locs ce sl X t r => XS.bipush X.here C.1 rfl (hb C.2.2.2.1 hd) (by rw [hv]; exact r)) k
theorem own_sipush (C : own_Cx p l e R s m args below meth c Z own nm bytes maxL ret) {i : Int} (v : Int32) (d : own_D bytes pc (.sipush i) 3 pn) (hv : (Int16.ofInt i).toInt32 = v) (k : own_Go p l e R s m args below meth c n0 Q cells slots h pn Ls (.int v :: st)) : own_Go p l e R s m args below meth c n0 Q cells slots h pc Ls st := by
  obtain ⟨hd, rfl⟩ := d
  exact own_step (fun T locs ce sl X t r => XS.sipush X.here C.1 rfl (hb C.2.2.2.1 hd) (by rw [hv]; exact r)) k
theorem own_lconst (C : own_Cx p l e R s m args below meth c Z own nm bytes maxL ret) {i : Fin 2} (v : Int64) (d : own_D bytes pc (.lconst i) 1 pn) (hv : Int64.ofNat i = v) (k : own_Go p l e R s m args below meth c n0 Q cells slots h pn Ls (.long v :: st)) : own_Go p l e R s m args below meth c n0 Q cells slots h pc Ls st := by
  obtain ⟨hd, rfl⟩ := d
  exact own_step (fun T locs ce sl X t r => XS.lconst X.here C.1 rfl (hb C.2.2.2.1 hd) (by rw [hv]; exact r)) k
theorem own_aconst_null (C : own_Cx p l e R s m args below meth c Z own nm bytes maxL ret)  (d : own_D bytes pc (.aconst_null) 1 pn)  (k : own_Go p l e R s m args below meth c n0 Q cells slots h pn Ls (.null :: st)) : own_Go p l e R s m args below meth c n0 Q cells slots h pc Ls st := by
  obtain ⟨hd, rfl⟩ := d
  exact own_step (fun T locs ce sl X t r => XS.aconstNull X.here C.1 rfl (hb C.2.2.2.1 hd) r) k
theorem own_iadd (C : own_Cx p l e R s m args below meth c Z own nm bytes maxL ret) {x y : Int32} (d : own_D bytes pc (.iadd) 1 pn)  (k : own_Go p l e R s m args below meth c n0 Q cells slots h pn Ls (.int (x + y) :: st)) : own_Go p l e R s m args below meth c n0 Q cells slots h pc Ls (.int y :: .int x :: st) := by
  obtain ⟨hd, rfl⟩ := d
  exact own_step (fun T locs ce sl X t r => XS.iadd X.here C.1 rfl (hb C.2.2.2.1 hd) rfl r) k
theorem own_isub (C : own_Cx p l e R s m args below meth c Z own nm bytes maxL ret) {x y : Int32} (d : own_D bytes pc (.isub) 1 pn)  (k : own_Go p l e R s m args below meth c n0 Q cells slots h pn Ls (.int (x - y) :: st)) : own_Go p l e R s m args below meth c n0 Q cells slots h pc Ls (.int y :: .int x :: st) := by
  obtain ⟨hd, rfl⟩ := d
  exact own_step (fun T locs ce sl X t r => XS.isub X.here C.1 rfl (hb C.2.2.2.1 hd) rfl r) k
theorem own_imul (C : own_Cx p l e R s m args below meth c Z own nm bytes maxL ret) {x y : Int32} (d : own_D bytes pc (.imul) 1 pn)  (k : own_Go p l e R s m args below meth c n0 Q cells slots h pn Ls (.int (x * y) :: st)) : own_Go p l e R s m args below meth c n0 Q cells slots h pc Ls (.int y :: .int x :: st) := by
  obtain ⟨hd, rfl⟩ := d
  exact own_step (fun T locs ce sl X t r => XS.imul X.here C.1 rfl (hb C.2.2.2.1 hd) rfl r) k
theorem own_iand (C : own_Cx p l e R s m args below meth c Z own nm bytes maxL ret) {x y : Int32} (d : own_D bytes pc (.iand) 1 pn)  (k : own_Go p l e R s m args below meth c n0 Q cells slots h pn Ls (.int (x &&& y) :: st)) : own_Go p l e R s m args below meth c n0 Q cells slots h pc Ls (.int y :: .int x :: st) := by
  obtain ⟨hd, rfl⟩ := d
  exact own_step (fun T locs ce sl X t r => XS.iand X.here C.1 rfl (hb C.2.2.2.1 hd) rfl r) k
theorem own_ior (C : own_Cx p l e R s m args below meth c Z own nm bytes maxL ret) {x y : Int32} (d : own_D bytes pc (.ior) 1 pn)  (k : own_Go p l e R s m args below meth c n0 Q cells slots h pn Ls (.int (x ||| y) :: st)) : own_Go p l e R s m args below meth c n0 Q cells slots h pc Ls (.int y :: .int x :: st) := by
  obtain ⟨hd, rfl⟩ := d
  exact own_step (fun T locs ce sl X t r => XS.ior X.here C.1 rfl (hb C.2.2.2.1 hd) rfl r) k
theorem own_ixor (C : own_Cx p l e R s m args below meth c Z own nm bytes maxL ret) {x y : Int32} (d : own_D bytes pc (.ixor) 1 pn)  (k : own_Go p l e R s m args below meth c n0 Q cells slots h pn Ls (.int (x ^^^ y) :: st)) : own_Go p l e R s m args below meth c n0 Q cells slots h pc Ls (.int y :: .int x :: st) := by
  obtain ⟨hd, rfl⟩ := d
  exact own_step (fun T locs ce sl X t r => XS.ixor X.here C.1 rfl (hb C.2.2.2.1 hd) rfl r) k
theorem own_ladd (C : own_Cx p l e R s m args below meth c Z own nm bytes maxL ret) {x y : Int64} (d : own_D bytes pc (.ladd) 1 pn)  (k : own_Go p l e R s m args below meth c n0 Q cells slots h pn Ls (.long (x + y) :: st)) : own_Go p l e R s m args below meth c n0 Q cells slots h pc Ls (.long y :: .long x :: st) := by
  obtain ⟨hd, rfl⟩ := d
  exact own_step (fun T locs ce sl X t r => XS.ladd X.here C.1 rfl (hb C.2.2.2.1 hd) rfl r) k
theorem own_lsub (C : own_Cx p l e R s m args below meth c Z own nm bytes maxL ret) {x y : Int64} (d : own_D bytes pc (.lsub) 1 pn)  (k : own_Go p l e R s m args below meth c n0 Q cells slots h pn Ls (.long (x - y) :: st)) : own_Go p l e R s m args below meth c n0 Q cells slots h pc Ls (.long y :: .long x :: st) := by
  obtain ⟨hd, rfl⟩ := d
  exact own_step (fun T locs ce sl X t r => XS.lsub X.here C.1 rfl (hb C.2.2.2.1 hd) rfl r) k
theorem own_land (C : own_Cx p l e R s m args below meth c Z own nm bytes maxL ret) {x y : Int64} (d : own_D bytes pc (.land) 1 pn)  (k : own_Go p l e R s m args below meth c n0 Q cells slots h pn Ls (.long (x &&& y) :: st)) : own_Go p l e R s m args below meth c n0 Q cells slots h pc Ls (.long y :: .long x :: st) := by
  obtain ⟨hd, rfl⟩ := d
  exact own_step (fun T locs ce sl X t r => XS.land X.here C.1 rfl (hb C.2.2.2.1 hd) rfl r) k
theorem own_lor (C : own_Cx p l e R s m args below meth c Z own nm bytes maxL ret) {x y : Int64} (d : own_D bytes pc (.lor) 1 pn)  (k : own_Go p l e R s m args below meth c n0 Q cells slots h pn Ls (.long (x ||| y) :: st)) : own_Go p l e R s m args below meth c n0 Q cells slots h pc Ls (.long y :: .long x :: st) := by
  obtain ⟨hd, rfl⟩ := d
  exact own_step (fun T locs ce sl X t r => XS.lor X.here C.1 rfl (hb C.2.2.2.1 hd) rfl r) k
theorem own_lxor (C : own_Cx p l e R s m args below meth c Z own nm bytes maxL ret) {x y : Int64} (d : own_D bytes pc (.lxor) 1 pn)  (k : own_Go p l e R s m args below meth c n0 Q cells slots h pn Ls (.long (x ^^^ y) :: st)) : own_Go p l e R s m args below meth c n0 Q cells slots h pc Ls (.long y :: .long x :: st) := by
  obtain ⟨hd, rfl⟩ := d
  exact own_step (fun T locs ce sl X t r => XS.lxor X.here C.1 rfl (hb C.2.2.2.1 hd) rfl r) k
theorem own_ishl (C : own_Cx p l e R s m args below meth c Z own nm bytes maxL ret) {x y : Int32} (d : own_D bytes pc (.ishl) 1 pn)  (k : own_Go p l e R s m args below meth c n0 Q cells slots h pn Ls (.int (x <<< (y &&& 31)) :: st)) : own_Go p l e R s m args below meth c n0 Q cells slots h pc Ls (.int y :: .int x :: st) := by
  obtain ⟨hd, rfl⟩ := d
  exact own_step (fun T locs ce sl X t r => XS.ishl X.here C.1 rfl (hb C.2.2.2.1 hd) rfl r) k
theorem own_ishr (C : own_Cx p l e R s m args below meth c Z own nm bytes maxL ret) {x y : Int32} (d : own_D bytes pc (.ishr) 1 pn)  (k : own_Go p l e R s m args below meth c n0 Q cells slots h pn Ls (.int (x >>> (y &&& 31)) :: st)) : own_Go p l e R s m args below meth c n0 Q cells slots h pc Ls (.int y :: .int x :: st) := by
  obtain ⟨hd, rfl⟩ := d
  exact own_step (fun T locs ce sl X t r => XS.ishr X.here C.1 rfl (hb C.2.2.2.1 hd) rfl r) k
theorem own_iushr (C : own_Cx p l e R s m args below meth c Z own nm bytes maxL ret) {x y : Int32} (d : own_D bytes pc (.iushr) 1 pn)  (k : own_Go p l e R s m args below meth c n0 Q cells slots h pn Ls (.int ((x.toUInt32 >>> (y &&& 31).toUInt32).toInt32) :: st)) : own_Go p l e R s m args below meth c n0 Q cells slots h pc Ls (.int y :: .int x :: st) := by
  obtain ⟨hd, rfl⟩ := d
  exact own_step (fun T locs ce sl X t r => XS.iushr X.here C.1 rfl (hb C.2.2.2.1 hd) rfl r) k
theorem own_ineg (C : own_Cx p l e R s m args below meth c Z own nm bytes maxL ret) {x : Int32} (d : own_D bytes pc (.ineg) 1 pn)  (k : own_Go p l e R s m args below meth c n0 Q cells slots h pn Ls (.int (-x) :: st)) : own_Go p l e R s m args below meth c n0 Q cells slots h pc Ls (.int x :: st) := by
  obtain ⟨hd, rfl⟩ := d
  exact own_step (fun T locs ce sl X t r => XS.ineg X.here C.1 rfl (hb C.2.2.2.1 hd) rfl r) k
theorem own_irem (C : own_Cx p l e R s m args below meth c Z own nm bytes maxL ret) {x y : Int32} (d : own_D bytes pc (.irem) 1 pn) (hy : y ≠ 0) (k : own_Go p l e R s m args below meth c n0 Q cells slots h pn Ls (.int (x % y) :: st)) : own_Go p l e R s m args below meth c n0 Q cells slots h pc Ls (.int y :: .int x :: st) := by
  obtain ⟨hd, rfl⟩ := d
  exact own_step (fun T locs ce sl X t r => iremM X C.1 rfl (hb C.2.2.2.1 hd) rfl hy r) k
theorem own_lcmp (C : own_Cx p l e R s m args below meth c Z own nm bytes maxL ret) {x y : Int64} (d : own_D bytes pc (.lcmp) 1 pn)  (k : own_Go p l e R s m args below meth c n0 Q cells slots h pn Ls (.int (lcmpW x y) :: st)) : own_Go p l e R s m args below meth c n0 Q cells slots h pc Ls (.long y :: .long x :: st) := by
  obtain ⟨hd, rfl⟩ := d
  exact own_step (fun T locs ce sl X t r => XS.lcmp X.here C.1 rfl (hb C.2.2.2.1 hd) rfl r) k
theorem own_dup (C : own_Cx p l e R s m args below meth c Z own nm bytes maxL ret) {x : Value} (d : own_D bytes pc (.dup) 1 pn) (hc : x.category = 1) (k : own_Go p l e R s m args below meth c n0 Q cells slots h pn Ls (x :: x :: st)) : own_Go p l e R s m args below meth c n0 Q cells slots h pc Ls (x :: st) := by
  obtain ⟨hd, rfl⟩ := d
  exact own_step (fun T locs ce sl X t r => XS.dup X.here C.1 rfl (hb C.2.2.2.1 hd) rfl hc r) k
theorem own_dupX1 (C : own_Cx p l e R s m args below meth c Z own nm bytes maxL ret) {x y : Value} (d : own_D bytes pc (.dup_x1) 1 pn) (hc : x.category = 1) (hc' : y.category = 1) (k : own_Go p l e R s m args below meth c n0 Q cells slots h pn Ls (x :: y :: x :: st)) : own_Go p l e R s m args below meth c n0 Q cells slots h pc Ls (x :: y :: st) := by
  obtain ⟨hd, rfl⟩ := d
  exact own_step (fun T locs ce sl X t r => XS.dupX1 X.here C.1 rfl (hb C.2.2.2.1 hd) rfl hc hc' r) k
theorem own_dup2 (C : own_Cx p l e R s m args below meth c Z own nm bytes maxL ret) {x y : Value} (d : own_D bytes pc (.dup2) 1 pn) (hc : x.category = 1) (hc' : y.category = 1) (k : own_Go p l e R s m args below meth c n0 Q cells slots h pn Ls (x :: y :: x :: y :: st)) : own_Go p l e R s m args below meth c n0 Q cells slots h pc Ls (x :: y :: st) := by
  obtain ⟨hd, rfl⟩ := d
  exact own_step (fun T locs ce sl X t r => XT.dup2 X.here C.1 rfl (hb C.2.2.2.1 hd) rfl hc hc' r) k
theorem own_pop (C : own_Cx p l e R s m args below meth c Z own nm bytes maxL ret) {x : Value} (d : own_D bytes pc (.pop) 1 pn) (hc : x.category = 1) (k : own_Go p l e R s m args below meth c n0 Q cells slots h pn Ls st) : own_Go p l e R s m args below meth c n0 Q cells slots h pc Ls (x :: st) := by
  obtain ⟨hd, rfl⟩ := d
  exact own_step (fun T locs ce sl X t r => XS.pop X.here C.1 rfl (hb C.2.2.2.1 hd) rfl hc r) k
/-- a slot that one word may be laid over -/
def own_one : Slot → Bool
  | .unset => true
  | .second => false
  | .val w => w.category == 1
theorem own_one_spec {o : Slot} (q : own_one o = true) : o = .unset ∨ ∃ w, o = .val w ∧ w.category = 1 := by
  cases o with
  | unset => exact Or.inl rfl
  | second => cases q
  | val w => exact Or.inr ⟨w, rfl, by simpa [own_one] using q⟩
theorem own_store {k : Nat} {v : Value} {o : Slot} (hold : Ls[k]? = some o) (ho : own_one o = true) (hv : v.category = 1) : storeLocals Ls.toArray k v = some (Ls.set k (.val v)).toArray := by
  rw [XS.store1 (o := o) (by simpa using hold) (own_one_spec ho) hv]; simp
theorem own_istoreN (C : own_Cx p l e R s m args below meth c Z own nm bytes maxL ret) {i : Fin 4} {x : Int32} {o : Slot} (j : Nat) (d : own_D bytes pc (.istore_n i) 1 pn) (hj : i.val = j) (hl : Ls[j]? = some o) (ho : own_one o = true) (k : own_Go p l e R s m args below meth c n0 Q cells slots h pn (Ls.set j (.val (.int x))) st) : own_Go p l e R s m args below meth c n0 Q cells slots h pc Ls (.int x :: st) := by
  obtain ⟨hd, rfl⟩ := d
  exact own_step (fun T locs ce sl X t r => XS.istoreN X.here C.1 rfl (hb C.2.2.2.1 hd) rfl (by rw [hj]; exact own_store hl ho rfl) r) k
theorem own_istore (C : own_Cx p l e R s m args below meth c Z own nm bytes maxL ret) {i : Nat} {x : Int32} {o : Slot} (j : Nat) (d : own_D bytes pc (.istore i) 2 pn) (hj : i = j) (hl : Ls[j]? = some o) (ho : own_one o = true) (k : own_Go p l e R s m args below meth c n0 Q cells slots h pn (Ls.set j (.val (.int x))) st) : own_Go p l e R s m args below meth c n0 Q cells slots h pc Ls (.int x :: st) := by
  obtain ⟨hd, rfl⟩ := d
  exact own_step (fun T locs ce sl X t r => XS.istore X.here C.1 rfl (hb C.2.2.2.1 hd) rfl (by rw [hj]; exact own_store hl ho rfl) r) k
theorem own_astoreN (C : own_Cx p l e R s m args below meth c Z own nm bytes maxL ret) {i : Fin 4} {x : Value} {o : Slot} (j : Nat) (d : own_D bytes pc (.astore_n i) 1 pn) (hj : i.val = j) (hl : Ls[j]? = some o) (ho : own_one o = true) (hv : x.isRef = true) (k : own_Go p l e R s m args below meth c n0 Q cells slots h pn (Ls.set j (.val x)) st) : own_Go p l e R s m args below meth c n0 Q cells slots h pc Ls (x :: st) := by
  obtain ⟨hd, rfl⟩ := d
  exact own_step (fun T locs ce sl X t r => XS.astoreN X.here C.1 rfl (hb C.2.2.2.1 hd) rfl hv (by rw [hj]; exact own_store hl ho (XT.cat1 hv)) r) k
theorem own_astore (C : own_Cx p l e R s m args below meth c Z own nm bytes maxL ret) {i : Nat} {x : Value} {o : Slot} (j : Nat) (d : own_D bytes pc (.astore i) 2 pn) (hj : i = j) (hl : Ls[j]? = some o) (ho : own_one o = true) (hv : x.isRef = true) (k : own_Go p l e R s m args below meth c n0 Q cells slots h pn (Ls.set j (.val x)) st) : own_Go p l e R s m args below meth c n0 Q cells slots h pc Ls (x :: st) := by
  obtain ⟨hd, rfl⟩ := d
  exact own_step (fun T locs ce sl X t r => XS.astore X.here C.1 rfl (hb C.2.2.2.1 hd) rfl hv (by rw [hj]; exact own_store hl ho (XT.cat1 hv)) r) k
theorem own_lstoreN (C : own_Cx p l e R s m args below meth c Z own nm bytes maxL ret) {i : Fin 4} {x : Int64} {Ls' : List Slot} (d : own_D bytes pc (.lstore_n i) 1 pn) (hl : storeLocals Ls.toArray i.val (.long x) = some Ls'.toArray) (k : own_Go p l e R s m args below meth c n0 Q cells slots h pn Ls' st) : own_Go p l e R s m args below meth c n0 Q cells slots h pc Ls (.long x :: st) := by
  obtain ⟨hd, rfl⟩ := d
  exact own_step (fun T locs ce sl X t r => XS.lstoreN X.here C.1 rfl (hb C.2.2.2.1 hd) rfl hl r) k
theorem own_lstore (C : own_Cx p l e R s m args below meth c Z own nm bytes maxL ret) {i : Nat} {x : Int64} {Ls' : List Slot} (d : own_D bytes pc (.lstore i) 2 pn) (hl : storeLocals Ls.toArray i (.long x) = some Ls'.toArray) (k : own_Go p l e R s m args below meth c n0 Q cells slots h pn Ls' st) : own_Go p l e R s m args below meth c n0 Q cells slots h pc Ls (.long x :: st) := by
  obtain ⟨hd, rfl⟩ := d
  exact own_step (fun T locs ce sl X t r => XS.lstore X.here C.1 rfl (hb C.2.2.2.1 hd) rfl hl r) k
theorem own_iinc (C : own_Cx p l e R s m args below meth c Z own nm bytes maxL ret) {i : Nat} {cst : Int} {x : Int32} (v : Int32) (d : own_D bytes pc (.iinc i cst) 3 pn) (hv : Int32.ofInt cst = v) (hl : Ls[i]? = some (.val (.int x))) (k : own_Go p l e R s m args below meth c n0 Q cells slots h pn (Ls.set i (.val (.int (x + v)))) st) : own_Go p l e R s m args below meth c n0 Q cells slots h pc Ls st := by
  obtain ⟨hd, rfl⟩ := d
  exact own_step (fun T locs ce sl X t r => XS.iinc X.here C.1 rfl (hb C.2.2.2.1 hd) (by simpa using hl) (by rw [hv]; exact own_store hl rfl rfl) r) k
theorem own_goto (C : own_Cx p l e R s m args below meth c Z own nm bytes maxL ret) {o : Int} (d : own_D bytes pc (.goto o) 3 pn) (ht : own_T pc o pt) (k : own_Go p l e R s m args below meth c n0 Q cells slots h pt Ls st) : own_Go p l e R s m args below meth c n0 Q cells slots h pc Ls st := by
  obtain ⟨hd, rfl⟩ := d
  exact own_step (fun T locs ce sl X t r => XS.goto X.here C.1 rfl rfl (hb C.2.2.2.1 hd) ht.1 ht.2 r) k
theorem own_icmplt (C : own_Cx p l e R s m args below meth c Z own nm bytes maxL ret) {o : Int} {x y : Int32} (d : own_D bytes pc (.if_icmp .lt o) 3 pn) (ht : own_T pc o pt) (ky : x < y → own_Go p l e R s m args below meth c n0 Q cells slots h pt Ls st) (kn : ¬ x < y → own_Go p l e R s m args below meth c n0 Q cells slots h pn Ls st) : own_Go p l e R s m args below meth c n0 Q cells slots h pc Ls (.int y :: .int x :: st) := by
  obtain ⟨hd, rfl⟩ := d
  by_cases h' : x < y
  · exact own_step (fun T locs ce sl X t r => XS.icmpYes X.here C.1 rfl rfl (hb C.2.2.2.1 hd) rfl (tlt h').1 ht.1 ht.2 r) (ky h')
  · exact own_step (fun T locs ce sl X t r => XS.icmpNo X.here C.1 rfl (hb C.2.2.2.1 hd) rfl (flt h').1 r) (kn h')
theorem own_iflt (C : own_Cx p l e R s m args below meth c Z own nm bytes maxL ret) {o : Int} {x : Int32} (d : own_D bytes pc (.ifCond .lt o) 3 pn) (ht : own_T pc o pt) (ky : x < (0 : Int32) → own_Go p l e R s m args below meth c n0 Q cells slots h pt Ls st) (kn : ¬ x < (0 : Int32) → own_Go p l e R s m args below meth c n0 Q cells slots h pn Ls st) : own_Go p l e R s m args below meth c n0 Q cells slots h pc Ls (.int x :: st) := by
  obtain ⟨hd, rfl⟩ := d
  by_cases h' : x < (0 : Int32)
  · exact own_step (fun T locs ce sl X t r => XS.ifYes X.here C.1 rfl rfl (hb C.2.2.2.1 hd) rfl ((if0 _ _).trans (tlt h').1) ht.1 ht.2 r) (ky h')
  · exact own_step (fun T locs ce sl X t r => XS.ifNo X.here C.1 rfl (hb C.2.2.2.1 hd) rfl ((if0 _ _).trans (flt h').1) r) (kn h')
theorem own_icmpge (C : own_Cx p l e R s m args below meth c Z own nm bytes maxL ret) {o : Int} {x y : Int32} (d : own_D bytes pc (.if_icmp .ge o) 3 pn) (ht : own_T pc o pt) (ky : ¬ x < y → own_Go p l e R s m args below meth c n0 Q cells slots h pt Ls st) (kn : x < y → own_Go p l e R s m args below meth c n0 Q cells slots h pn Ls st) : own_Go p l e R s m args below meth c n0 Q cells slots h pc Ls (.int y :: .int x :: st) := by
  obtain ⟨hd, rfl⟩ := d
  by_cases h' : x < y
  · exact own_step (fun T locs ce sl X t r => XS.icmpNo X.here C.1 rfl (hb C.2.2.2.1 hd) rfl (tlt h').2.1 r) (kn h')
  · exact own_step (fun T locs ce sl X t r => XS.icmpYes X.here C.1 rfl rfl (hb C.2.2.2.1 hd) rfl (flt h').2.1 ht.1 ht.2 r) (ky h')
theorem own_ifge (C : own_Cx p l e R s m args below meth c Z own nm bytes maxL ret) {o : Int} {x : Int32} (d : own_D bytes pc (.ifCond .ge o) 3 pn) (ht : own_T pc o pt) (ky : ¬ x < (0 : Int32) → own_Go p l e R s m args below meth c n0 Q cells slots h pt Ls st) (kn : x < (0 : Int32) → own_Go p l e R s m args below meth c n0 Q cells slots h pn Ls st) : own_Go p l e R s m args below meth c n0 Q cells slots h pc Ls (.int x :: st) := by
  obtain ⟨hd, rfl⟩ := d
  by_cases h' : x < (0 : Int32)
  · exact own_step (fun T locs ce sl X t r => XS.ifNo X.here C.1 rfl (hb C.2.2.2.1 hd) rfl ((if0 _ _).trans (tlt h').2.1) r) (kn h')
  · exact own_step (fun T locs ce sl X t r => XS.ifYes X.here C.1 rfl rfl (hb C.2.2.2.1 hd) rfl ((if0 _ _).trans (flt h').2.1) ht.1 ht.2 r) (ky h')
theorem own_icmpgt (C : own_Cx p l e R s m args below meth c Z own nm bytes maxL ret) {o : Int} {x y : Int32} (d : own_D bytes pc (.if_icmp .gt o) 3 pn) (ht : own_T pc o pt) (ky : y < x → own_Go p l e R s m args below meth c n0 Q cells slots h pt Ls st) (kn : ¬ y < x → own_Go p l e R s m args below meth c n0 Q cells slots h pn Ls st) : own_Go p l e R s m args below meth c n0 Q cells slots h pc Ls (.int y :: .int x :: st) := by
  obtain ⟨hd, rfl⟩ := d
  by_cases h' : y < x
  · exact own_step (fun T locs ce sl X t r => XS.icmpYes X.here C.1 rfl rfl (hb C.2.2.2.1 hd) rfl (tlt h').2.2.1 ht.1 ht.2 r) (ky h')
  · exact own_step (fun T locs ce sl X t r => XS.icmpNo X.here C.1 rfl (hb C.2.2.2.1 hd) rfl (flt h').2.2.1 r) (kn h')
theorem own_ifgt (C : own_Cx p l e R s m args below meth c Z own nm bytes maxL ret) {o : Int} {x : Int32} (d : own_D bytes pc (.ifCond .gt o) 3 pn) (ht : own_T pc o pt) (ky : (0 : Int32) < x → own_Go p l e R s m args below meth c n0 Q cells slots h pt Ls st) (kn : ¬ (0 : Int32) < x → own_Go p l e R s m args below meth c n0 Q cells slots h pn Ls st) : own_Go p l e R s m args below meth c n0 Q cells slots h pc Ls (.int x :: st) := by
  obtain ⟨hd, rfl⟩ := d
  by_cases h' : (0 : Int32) < x
  · exact own_step (fun T locs ce sl X t r => XS.ifYes X.here C.1 rfl rfl (hb C.2.2.2.1 hd) rfl ((if0 _ _).trans (tlt h').2.2.1) ht.1 ht.2 r) (ky h')
  · exact own_step (fun T locs ce sl X t r => XS.ifNo X.here C.1 rfl (hb C.2.2.2.1 hd) rfl ((if0 _ _).trans (flt h').2.2.1) r) (kn h')
theorem own_icmple (C : own_Cx p l e R s m args below meth c Z own nm bytes maxL ret) {o : Int} {x y : Int32} (d : own_D bytes pc (.if_icmp .le o) 3 pn) (ht : own_T pc o pt) (ky : ¬ y < x → own_Go p l e R s m args below meth c n0 Q cells slots h pt Ls st) (kn : y < x → own_Go p l e R s m args below meth c n0 Q cells slots h pn Ls st) : own_Go p l e R s m args below meth c n0 Q cells slots h pc Ls (.int y :: .int x :: st) := by
  obtain ⟨hd, rfl⟩ := d
  by_cases h' : y < x
  · exact own_step (fun T locs ce sl X t r => XS.icmpNo X.here C.1 rfl (hb C.2.2.2.1 hd) rfl (tlt h').2.2.2 r) (kn h')
  · exact own_step (fun T locs ce sl X t r => XS.icmpYes X.here C.1 rfl rfl (hb C.2.2.2.1 hd) rfl (flt h').2.2.2 ht.1 ht.2 r) (ky h')
theorem own_ifle (C : own_Cx p l e R s m args below meth c Z own nm bytes maxL ret) {o : Int} {x : Int32} (d : own_D bytes pc (.ifCond .le o) 3 pn) (ht : own_T pc o pt) (ky : ¬ (0 : Int32) < x → own_Go p l e R s m args below meth c n0 Q cells slots h pt Ls st) (kn : (0 : Int32) < x → own_Go p l e R s m args below meth c n0 Q cells slots h pn Ls st) : own_Go p l e R s m args below meth c n0 Q cells slots h pc Ls (.int x :: st) := by
  obtain ⟨hd, rfl⟩ := d
  by_cases h' : (0 : Int32) < x
  · exact own_step (fun T locs ce sl X t r => XS.ifNo X.here C.1 rfl (hb C.2.2.2.1 hd) rfl ((if0 _ _).trans (tlt h').2.2.2) r) (kn h')
  · exact own_step (fun T locs ce sl X t r => XS.ifYes X.here C.1 rfl rfl (hb C.2.2.2.1 hd) rfl ((if0 _ _).trans (flt h').2.2.2) ht.1 ht.2 r) (ky h')
theorem own_icmpeq (C : own_Cx p l e R s m args below meth c Z own nm bytes maxL ret) {o : Int} {x y : Int32} (d : own_D bytes pc (.if_icmp .eq o) 3 pn) (ht : own_T pc o pt) (ky : x = y → own_Go p l e R s m args below meth c n0 Q cells slots h pt Ls st) (kn : ¬ x = y → own_Go p l e R s m args below meth c n0 Q cells slots h pn Ls st) : own_Go p l e R s m args below meth c n0 Q cells slots h pc Ls (.int y :: .int x :: st) := by
  obtain ⟨hd, rfl⟩ := d
  by_cases h' : x = y
  · exact own_step (fun T locs ce sl X t r => XS.icmpYes X.here C.1 rfl rfl (hb C.2.2.2.1 hd) rfl (teq h').1 ht.1 ht.2 r) (ky h')
  · exact own_step (fun T locs ce sl X t r => XS.icmpNo X.here C.1 rfl (hb C.2.2.2.1 hd) rfl (feq h').1 r) (kn h')
theorem own_ifeq (C : own_Cx p l e R s m args below meth c Z own nm bytes maxL ret) {o : Int} {x : Int32} (d : own_D bytes pc (.ifCond .eq o) 3 pn) (ht : own_T pc o pt) (ky : x = (0 : Int32) → own_Go p l e R s m args below meth c n0 Q cells slots h pt Ls st) (kn : ¬ x = (0 : Int32) → own_Go p l e R s m args below meth c n0 Q cells slots h pn Ls st) : own_Go p l e R s m args below meth c n0 Q cells slots h pc Ls (.int x :: st) := by
  obtain ⟨hd, rfl⟩ := d
  by_cases h' : x = (0 : Int32)
  · exact own_step (fun T locs ce sl X t r => XS.ifYes X.here C.1 rfl rfl (hb C.2.2.2.1 hd) rfl ((if0 _ _).trans (teq h').1) ht.1 ht.2 r) (ky h')
  · exact own_step (fun T locs ce sl X t r => XS.ifNo X.here C.1 rfl (hb C.2.2.2.1 hd) rfl ((if0 _ _).trans (feq h').1) r) (kn h')
theorem own_icmpne (C : own_Cx p l e R s m args below meth c Z own nm bytes maxL ret) {o : Int} {x y : Int32} (d : own_D bytes pc (.if_icmp .ne o) 3 pn) (ht : own_T pc o pt) (ky : ¬ x = y → own_Go p l e R s m args below meth c n0 Q cells slots h pt Ls st) (kn : x = y → own_Go p l e R s m args below meth c n0 Q cells slots h pn Ls st) : own_Go p l e R s m args below meth c n0 Q cells slots h pc Ls (.int y :: .int x :: st) := by
  obtain ⟨hd, rfl⟩ := d
  by_cases h' : x = y
  · exact own_step (fun T locs ce sl X t r => XS.icmpNo X.here C.1 rfl (hb C.2.2.2.1 hd) rfl (teq h').2 r) (kn h')
  · exact own_step (fun T locs ce sl X t r => XS.icmpYes X.here C.1 rfl rfl (hb C.2.2.2.1 hd) rfl (feq h').2 ht.1 ht.2 r) (ky h')
theorem own_ifne (C : own_Cx p l e R s m args below meth c Z own nm bytes maxL ret) {o : Int} {x : Int32} (d : own_D bytes pc (.ifCond .ne o) 3 pn) (ht : own_T pc o pt) (ky : ¬ x = (0 : Int32) → own_Go p l e R s m args below meth c n0 Q cells slots h pt Ls st) (kn : x = (0 : Int32) → own_Go p l e R s m args below meth c n0 Q cells slots h pn Ls st) : own_Go p l e R s m args below meth c n0 Q cells slots h pc Ls (.int x :: st) := by
  obtain ⟨hd, rfl⟩ := d
  by_cases h' : x = (0 : Int32)
  · exact own_step (fun T locs ce sl X t r => XS.ifNo X.here C.1 rfl (hb C.2.2.2.1 hd) rfl ((if0 _ _).trans (teq h').2) r) (kn h')
  · exact own_step (fun T locs ce sl X t r => XS.ifYes X.here C.1 rfl rfl (hb C.2.2.2.1 hd) rfl ((if0 _ _).trans (feq h').2) ht.1 ht.2 r) (ky h')
theorem own_acmpeq (C : own_Cx p l e R s m args below meth c Z own nm bytes maxL ret) {o : Int} {x y : Value} (d : own_D bytes pc (.if_acmp .eq o) 3 pn) (ht : own_T pc o pt) (hx' : x.isRef = true) (hy' : y.isRef = true) (ky : x = y → own_Go p l e R s m args below meth c n0 Q cells slots h pt Ls st) (kn : ¬ x = y → own_Go p l e R s m args below meth c n0 Q cells slots h pn Ls st) : own_Go p l e R s m args below meth c n0 Q cells slots h pc Ls (y :: x :: st) := by
  obtain ⟨hd, rfl⟩ := d
  by_cases h' : x = y
  · exact own_step (fun T locs ce sl X t r => XT.acmpYes X.here C.1 rfl rfl (hb C.2.2.2.1 hd) rfl hx' hy' (XT.aa_eq_t h') ht.1 ht.2 r) (ky h')
  · exact own_step (fun T locs ce sl X t r => XT.acmpNo X.here C.1 rfl (hb C.2.2.2.1 hd) rfl hx' hy' (XT.aa_eq_f h') r) (kn h')
theorem own_acmpne (C : own_Cx p l e R s m args below meth c Z own nm bytes maxL ret) {o : Int} {x y : Value} (d : own_D bytes pc (.if_acmp .ne o) 3 pn) (ht : own_T pc o pt) (hx' : x.isRef = true) (hy' : y.isRef = true) (ky : ¬ x = y → own_Go p l e R s m args below meth c n0 Q cells slots h pt Ls st) (kn : x = y → own_Go p l e R s m args below meth c n0 Q cells slots h pn Ls st) : own_Go p l e R s m args below meth c n0 Q cells slots h pc Ls (y :: x :: st) := by
  obtain ⟨hd, rfl⟩ := d
  by_cases h' : x = y
  · exact own_step (fun T locs ce sl X t r => XT.acmpNo X.here C.1 rfl (hb C.2.2.2.1 hd) rfl hx' hy' (XT.aa_ne_f h') r) (kn h')
  · exact own_step (fun T locs ce sl X t r => XT.acmpYes X.here C.1 rfl rfl (hb C.2.2.2.1 hd) rfl hx' hy' (XT.aa_ne_t h') ht.1 ht.2 r) (ky h')
theorem own_ifnull (C : own_Cx p l e R s m args below meth c Z own nm bytes maxL ret) {o : Int} {v : Value} (d : own_D bytes pc (.ifnull o) 3 pn) (ht : own_T pc o pt) (hv : v.isRef = true) (ky : v = .null → own_Go p l e R s m args below meth c n0 Q cells slots h pt Ls st) (kn : ¬ v = .null → own_Go p l e R s m args below meth c n0 Q cells slots h pn Ls st) : own_Go p l e R s m args below meth c n0 Q cells slots h pc Ls (v :: st) := by
  obtain ⟨hd, rfl⟩ := d
  by_cases h' : v = .null
  · exact own_step (fun T locs ce sl X t r => XT.nullYes X.here C.1 rfl rfl (hb C.2.2.2.1 hd) rfl h' ht.1 ht.2 r) (ky h')
  · exact own_step (fun T locs ce sl X t r => XT.nullNo X.here C.1 rfl (hb C.2.2.2.1 hd) rfl hv h' r) (kn h')
theorem own_ifnonnull (C : own_Cx p l e R s m args below meth c Z own nm bytes maxL ret) {o : Int} {v : Value} (d : own_D bytes pc (.ifnonnull o) 3 pn) (ht : own_T pc o pt) (hv : v.isRef = true) (ky : ¬ v = .null → own_Go p l e R s m args below meth c n0 Q cells slots h pt Ls st) (kn : v = .null → own_Go p l e R s m args below meth c n0 Q cells slots h pn Ls st) : own_Go p l e R s m args below meth c n0 Q cells slots h pc Ls (v :: st) := by
  obtain ⟨hd, rfl⟩ := d
  by_cases h' : v = .null
  · exact own_step (fun T locs ce sl X t r => XT.nonnullNo X.here C.1 rfl (hb C.2.2.2.1 hd) rfl h' r) (kn h')
  · exact own_step (fun T locs ce sl X t r => XT.nonnullYes X.here C.1 rfl rfl (hb C.2.2.2.1 hd) rfl hv h' ht.1 ht.2 r) (ky h')
theorem own_ldc (C : own_Cx p l e R s m args below meth c Z own nm bytes maxL ret) {i : Nat} {v : Int32} (d : own_D bytes pc (.ldc i) 2 pn) (w1 : (Jvm.Cond.constant own i v).before a0 Z = true) (k : own_Go p l e R s m args below meth c n0 Q cells slots h pn Ls (.int v :: st)) : own_Go p l e R s m args below meth c n0 Q cells slots h pc Ls st := by
  obtain ⟨hd, rfl⟩ := d
  exact own_step (fun T locs ce sl X t r => ldcI X C.1 C.2.2.1 (mv C.2.1 w1) rfl (hb C.2.2.2.1 hd) r) k
theorem own_ldc2 (C : own_Cx p l e R s m args below meth c Z own nm bytes maxL ret) {i : Nat} {v : Int64} (d : own_D bytes pc (.ldc2_w i) 3 pn) (w1 : (Jvm.Cond.constantLong own i v).before a0 Z = true) (k : own_Go p l e R s m args below meth c n0 Q cells slots h pn Ls (.long v :: st)) : own_Go p l e R s m args below meth c n0 Q cells slots h pc Ls st := by
  obtain ⟨hd, rfl⟩ := d
  exact own_step (fun T locs ce sl X t r => ldc2J X C.1 C.2.2.1 (mv C.2.1 w1) rfl (hb C.2.2.2.1 hd) r) k
theorem own_getS (C : own_Cx p l e R s m args below meth c Z own nm bytes maxL ret) {O n dd : String} {i : Nat} {v : Value} (d : own_D bytes pc (.getstatic i) 3 pn) (w1 : (Jvm.Cond.fieldLink own i O n dd).before a0 Z = true) (F : Sta Z h O n dd v) (k : own_Go p l e R s m args below meth c n0 Q cells slots h pn Ls (v :: st)) : own_Go p l e R s m args below meth c n0 Q cells slots h pc Ls st := by
  obtain ⟨hd, rfl⟩ := d
  refine own_warm (fun T locs ce sl X eT => ?_) k
  obtain ⟨T', X', e', st'⟩ := getS2 X C.1 C.2.1 C.2.2.1 (host := "") (Or.inl w1) Via.refl eT F (g := mkF m pc Ls.toArray st) rfl (hb C.2.2.2.1 hd)
  exact ⟨T', X', e', st'⟩
theorem own_getF (C : own_Cx p l e R s m args below meth c Z own nm bytes maxL ret) {R0 O n dd : String} {i : Nat} {a : Addr} {v : Value} (d : own_D bytes pc (.getfield i) 3 pn) (w1 : (Jvm.Cond.fieldLink own i R0 n dd).before a0 Z = true) (via : Via Z R0 O n dd) (F : Fld Z h a O n dd v) (k : own_Go p l e R s m args below meth c n0 Q cells slots h pn Ls (v :: st)) : own_Go p l e R s m args below meth c n0 Q cells slots h pc Ls (.ref a :: st) := by
  obtain ⟨hd, rfl⟩ := d
  refine own_warm (fun T locs ce sl X eT => ?_) k
  obtain ⟨T', X', e', st'⟩ := getF X C.1 C.2.1 C.2.2.1 (host := "") (Or.inl w1) via eT F (g := mkF m pc Ls.toArray (.ref a :: st)) rfl rfl (hb C.2.2.2.1 hd)
  exact ⟨T', X', e', st'⟩
theorem own_cast (C : own_Cx p l e R s m args below meth c Z own nm bytes maxL ret) {K : String} {i : Nat} {a : Addr} (d : own_D bytes pc (.checkcast i) 3 pn) (w1 : (Jvm.Cond.classLink own i K).before a0 Z = true) (F : Ins Z h a K true) (k : own_Go p l e R s m args below meth c n0 Q cells slots h pn Ls (.ref a :: st)) : own_Go p l e R s m args below meth c n0 Q cells slots h pc Ls (.ref a :: st) := by
  obtain ⟨hd, rfl⟩ := d
  refine own_warm (fun T locs ce sl X eT => ?_) k
  obtain ⟨T', X', e', st'⟩ := castY X C.1 C.2.1 C.2.2.1 w1 eT F (g := mkF m pc Ls.toArray (.ref a :: st)) rfl rfl (hb C.2.2.2.1 hd)
  exact ⟨T', X', e', st'⟩
theorem own_instY (C : own_Cx p l e R s m args below meth c Z own nm bytes maxL ret) {K : String} {i : Nat} {a : Addr} (d : own_D bytes pc (.instanceof i) 3 pn) (w1 : (Jvm.Cond.classLink own i K).before a0 Z = true) (F : Ins Z h a K true) (k : own_Go p l e R s m args below meth c n0 Q cells slots h pn Ls (.int 1 :: st)) : own_Go p l e R s m args below meth c n0 Q cells slots h pc Ls (.ref a :: st) := by
  obtain ⟨hd, rfl⟩ := d
  refine own_warm (fun T locs ce sl X eT => ?_) k
  obtain ⟨T', X', e', st'⟩ := instY X C.1 C.2.1 C.2.2.1 w1 eT F (g := mkF m pc Ls.toArray (.ref a :: st)) rfl rfl (hb C.2.2.2.1 hd)
  exact ⟨T', X', e', st'⟩
theorem own_write {pc' : Nat} {Ls' : List Slot} {st' : List Value} {a : Addr} {j : Nat} {v : Value} (ha : n0 ≤ a) (H : ∀ (T : State) (locs : List Loc) (ce sl : Nat), Stand p l e R s m args below meth c T locs ce sl → T.heap = h → ∃ T' h', Stand p l e R s m args below meth c T' (locs ++ [⟨a, j⟩]) ce sl ∧ T'.heap = h' ∧ Wr h h' a j v ∧ ∀ target, Steps p.tables e below (T'.setTop (mkF m pc' Ls'.toArray st')) target → Steps p.tables e below (T.setTop (mkF m pc Ls.toArray st)) target)
    (k : ∀ h', Wr h h' a j v → own_Go p l e R s m args below meth c n0 Q cells slots h' pc' Ls' st') : own_Go p l e R s m args below meth c n0 Q cells slots h pc Ls st := by
  intro T locs ce sl hc hs hf X eT
  obtain ⟨T', h', X', eT', W, H'⟩ := H T locs ce sl X eT
  obtain ⟨s₂, o, h1, h2⟩ := k h' W T' _ ce sl hc hs (Fr.snoc X' hf ha) X' eT'
  exact ⟨s₂, o, H' _ h1, h2⟩
theorem own_putF (C : own_Cx p l e R s m args below meth c Z own nm bytes maxL ret) {R0 O n dd K : String} {i kk : Nat} {ty : FieldType} {a : Addr} {v old : Value} (d : own_D bytes pc (.putfield i) 3 pn) (w1 : (Jvm.Cond.fieldLink own i R0 n dd).before a0 Z = true) (via : Via Z R0 O n dd) (F : Fld Z h a O n dd old) (E : Exa Z h a K)
    (L : (Jvm.Cond.lays K O n dd).before a0 Z = true ∨ ((Jvm.Cond.laysFinal K O n dd).before a0 Z = true ∧ own = O ∧ nm = "<init>")) (wi : (Jvm.Cond.instantiable K kk).before a0 Z = true) (hty : parseFieldDescriptor dd = some ty) (hn : narrow ty v = v) (hf : fits ty v = true) (ha : n0 ≤ a)
    (k : ∀ h', Wr h h' a (slotOf Z O n dd) v → own_Go p l e R s m args below meth c n0 Q cells slots h' pn Ls st) : own_Go p l e R s m args below meth c n0 Q cells slots h pc Ls (v :: .ref a :: st) := by
  obtain ⟨hd, rfl⟩ := d
  refine own_write ha (fun T locs ce sl X eT => ?_) k
  obtain ⟨T', h', X', e', W, st'⟩ := putF X C.1 C.2.1 C.2.2.1 (host := "") (Or.inl w1) via eT F E (L.imp id fun q => ⟨q.1, q.2.1, C.2.2.2.2.2.2.2.trans q.2.2⟩) wi hty hn hf (g := mkF m pc Ls.toArray (v :: .ref a :: st)) rfl rfl (hb C.2.2.2.1 hd)
  exact ⟨T', h', X', e', W, st'⟩
theorem own_stR (C : own_Cx p l e R s m args below meth c Z own nm bytes maxL ret) {ty : FieldType} {a : Addr} {v : Value} {cl : Cell} {j : Int32} (d : own_D bytes pc .aastore 1 pn) (A : Arr Z h a cl ty) (hj : ¬ (j < 0 ∨ cl.slots.size ≤ j.toNatClampNeg)) (hty : ty.isReference = true) (F : Sto Z h a v) (ha : n0 ≤ a)
    (k : ∀ h', Wr h h' a j.toNatClampNeg v → own_Go p l e R s m args below meth c n0 Q cells slots h' pn Ls st) : own_Go p l e R s m args below meth c n0 Q cells slots h pc Ls (v :: .int j :: .ref a :: st) := by
  obtain ⟨hd, rfl⟩ := d
  refine own_write ha (fun T locs ce sl X eT => ?_) k
  obtain ⟨T', h', X', e', W, st'⟩ := stR X C.1 C.2.1 eT A hj hty F (g := mkF m pc Ls.toArray (v :: .int j :: .ref a :: st)) rfl rfl (hb C.2.2.2.1 hd)
  exact ⟨T', h', X', e', W, st'⟩
theorem own_newO (C : own_Cx p l e R s m args below meth c Z own nm bytes maxL ret) {K : String} {i n : Nat} (d : own_D bytes pc (.new i) 3 pn) (w1 : (Jvm.Cond.classLink own i K).before a0 Z = true) (w2 : (Jvm.Cond.instantiable K n).before a0 Z = true) (w3 : (Jvm.Cond.initialized K).before a0 Z = true) (hc : cells + 1 ≤ R.cells) (hs : slots + n ≤ R.slots)
    (k : ∀ (h' : Heap) (a : Addr), a = h.size → Ext h h' → Exa Z h' a K → (∀ {O fn dd : String} {ty : FieldType}, Laid Z a0 K O fn dd → parseFieldDescriptor dd = some ty → Fld Z h' a O fn dd (defaultValue ty)) → own_Go p l e R s m args below meth c n0 Q (cells + 1) (slots + n) h' pn Ls (.ref a :: st)) : own_Go p l e R s m args below meth c n0 Q cells slots h pc Ls st := by
  obtain ⟨hd, rfl⟩ := d
  intro T locs ce sl h1 h2 hf X eT
  obtain ⟨T', h', X', e', E', A', D', -, st'⟩ := newO X C.1 C.2.1 C.2.2.1 w1 w2 w3 eT (g := mkF m pc Ls.toArray st) rfl (hb C.2.2.2.1 hd) (Nat.le_trans (Nat.add_le_add_right h1 1) hc) (Nat.le_trans (Nat.add_le_add_right h2 n) hs)
  obtain ⟨s₂, o, g1, g2⟩ := k h' h.size rfl E' A' D' T' locs _ _ (Nat.add_le_add_right h1 1) (Nat.add_le_add_right h2 n) hf X' e'
  exact ⟨s₂, o, st' _ g1, g2⟩
theorem own_newR (C : own_Cx p l e R s m args below meth c Z own nm bytes maxL ret) {K : String} {i : Nat} {n : Int32} (d : own_D bytes pc (.anewarray i) 3 pn) (w1 : (Jvm.Cond.classLink own i K).before a0 Z = true) (w2 : (Jvm.Cond.arrayOver (.object K)).before a0 Z = true) (hn : ¬ n < 0) (cap : Nat) (hcap : n.toNatClampNeg ≤ cap) (hb8 : cap * 8 ≤ 536870912) (hc : cells + 1 ≤ R.cells) (hs : slots + cap ≤ R.slots)
    (k : ∀ (h' : Heap) (a : Addr) (cA : ClassId), a = h.size → Ext h h' → Arr Z h' a (newA cA (.object K) n) (.object K) → Ovr Z cA K → own_Go p l e R s m args below meth c n0 Q (cells + 1) (slots + cap) h' pn Ls (.ref a :: st)) : own_Go p l e R s m args below meth c n0 Q cells slots h pc Ls (.int n :: st) := by
  obtain ⟨hd, rfl⟩ := d
  intro T locs ce sl h1 h2 hf X eT
  obtain ⟨T', h', cA, X', e', E', A', O', st'⟩ := newR X C.1 C.2.1 C.2.2.1 w1 w2 eT (g := mkF m pc Ls.toArray (.int n :: st)) rfl (hb C.2.2.2.1 hd) rfl hn hcap hb8 (Nat.le_trans (Nat.add_le_add_right h1 1) hc) (Nat.le_trans (Nat.add_le_add_right h2 cap) hs)
  obtain ⟨s₂, o, g1, g2⟩ := k h' h.size cA rfl E' A' O' T' locs _ _ (Nat.add_le_add_right h1 1) (Nat.add_le_add_right h2 cap) hf X' e'
  exact ⟨s₂, o, st' _ g1, g2⟩
theorem own_aaload (C : own_Cx p l e R s m args below meth c Z own nm bytes maxL ret) {ty : FieldType} {a : Addr} {v : Value} {cl : Cell} {j : Int32} (d : own_D bytes pc .aaload 1 pn) (A : Arr Z h a cl ty) (hty : ty.isReference = true) (hj : ¬ (j < 0 ∨ cl.slots.size ≤ j.toNatClampNeg)) (hat : cl.slots[j.toNatClampNeg]? = some v)
    (k : own_Go p l e R s m args below meth c n0 Q cells slots h pn Ls (v :: st)) : own_Go p l e R s m args below meth c n0 Q cells slots h pc Ls (.int j :: .ref a :: st) := by
  obtain ⟨hd, rfl⟩ := d
  refine own_warm (fun T locs ce sl X eT => ⟨T, X, eT, ?_⟩) k
  exact X.aaload C.1 (by rw [eT]; exact A.1) (State.isArrayOf_alike C.2.1.alike A.2.1) hty A.2.2 hj hat (g := mkF m pc Ls.toArray (.int j :: .ref a :: st)) rfl rfl (hb C.2.2.2.1 hd)
theorem own_arraylength (C : own_Cx p l e R s m args below meth c Z own nm bytes maxL ret) {ty : FieldType} {a : Addr} {cl : Cell} (d : own_D bytes pc .arraylength 1 pn) (A : Arr Z h a cl ty)
    (k : own_Go p l e R s m args below meth c n0 Q cells slots h pn Ls (.int cl.slots.size.toInt32 :: st)) : own_Go p l e R s m args below meth c n0 Q cells slots h pc Ls (.ref a :: st) := by
  obtain ⟨hd, rfl⟩ := d
  refine own_warm (fun T locs ce sl X eT => ⟨T, X, eT, ?_⟩) k
  exact X.arraylength C.1 (by rw [eT]; exact A.1) (State.isArrayOf_alike C.2.1.alike A.2.1) (g := mkF m pc Ls.toArray (.ref a :: st)) rfl rfl (hb C.2.2.2.1 hd)
theorem own_ret {t : FieldType} (C : own_Cx p l e R s m args below meth c Z own nm bytes maxL (some t)) {w : Value} {i : Instr} (d : own_D bytes pc i 1 pn) (hn : narrow t w = w)
    (hi : (i = .ireturn ∧ (t = .int ∨ t = .boolean ∨ t = .byte ∨ t = .char ∨ t = .short) ∧ ∃ z, w = .int z) ∨ (i = .lreturn ∧ t = .long ∧ ∃ z, w = .long z) ∨ (i = .dreturn ∧ t = .double ∧ ∃ z, w = .double z) ∨ (i = .freturn ∧ t = .float ∧ ∃ z, w = .float z) ∨ (i = .areturn ∧ t.isReference = true ∧ w.isRef = true))
    (hc : cells ≤ R.cells) (hs : slots ≤ R.slots) (q : Qn (some w) h) : own_Go p l e R s m args below meth c n0 (own_N s n0 R Qn) cells slots h pc Ls (w :: st) := by
  obtain ⟨hd, rfl⟩ := d
  intro T locs ce sl h1 h2 hf X eT
  obtain ⟨fs, hr, hrun, hended, hW, hsame⟩ := X.leave (v := some w) (fun h => by rw [C.2.2.2.2.2.1] at h; cases h) C.2.2.2.2.2.2.1
  exact ⟨_, _, retOut X C.1 C.2.2.2.2.2.1 hn hi (hb C.2.2.2.1 hd) hr, hrun, hended, _, locs, rfl, ⟨by show Qn (some w) T.heap; rw [eT]; exact q, hf⟩, ⟨_, rfl⟩, hW, hsame.mono (Nat.le_trans h1 hc) (Nat.le_trans h2 hs)⟩
theorem own_retA {t : FieldType} (C : own_Cx p l e R s m args below meth c Z own nm bytes maxL (some t)) {w : Value} (d : own_D bytes pc .areturn 1 pn) (ht : t.isReference = true) (hw : w.isRef = true) (hc : cells ≤ R.cells) (hs : slots ≤ R.slots) (q : Qn (some w) h) : own_Go p l e R s m args below meth c n0 (own_N s n0 R Qn) cells slots h pc Ls (w :: st) := by
  refine own_ret C d ?_ (Or.inr (Or.inr (Or.inr (Or.inr ⟨rfl, ht, hw⟩)))) hc hs q
  cases t <;> first | (cases ht; done) | rfl
theorem own_retI (C : own_Cx p l e R s m args below meth c Z own nm bytes maxL (some .int)) {z : Int32} (d : own_D bytes pc .ireturn 1 pn) (hc : cells ≤ R.cells) (hs : slots ≤ R.slots) (q : Qn (some (.int z)) h) : own_Go p l e R s m args below meth c n0 (own_N s n0 R Qn) cells slots h pc Ls (.int z :: st) :=
  own_ret C d rfl (Or.inl ⟨rfl, Or.inl rfl, z, rfl⟩) hc hs q
theorem own_retZ (C : own_Cx p l e R s m args below meth c Z own nm bytes maxL (some .boolean)) {z : Int32} (d : own_D bytes pc .ireturn 1 pn) (hz : z = 0 ∨ z = 1) (hc : cells ≤ R.cells) (hs : slots ≤ R.slots) (q : Qn (some (.int z)) h) : own_Go p l e R s m args below meth c n0 (own_N s n0 R Qn) cells slots h pc Ls (.int z :: st) :=
  own_ret C d (by rcases hz with rfl | rfl <;> rfl) (Or.inl ⟨rfl, Or.inr (Or.inl rfl), z, rfl⟩) hc hs q
theorem own_retJ (C : own_Cx p l e R s m args below meth c Z own nm bytes maxL (some .long)) {z : Int64} (d : own_D bytes pc .lreturn 1 pn) (hc : cells ≤ R.cells) (hs : slots ≤ R.slots) (q : Qn (some (.long z)) h) : own_Go p l e R s m args below meth c n0 (own_N s n0 R Qn) cells slots h pc Ls (.long z :: st) :=
  own_ret C d rfl (Or.inr (Or.inl ⟨rfl, rfl, z, rfl⟩)) hc hs q
theorem own_retV (C : own_Cx p l e R s m args below meth c Z own nm bytes maxL none) (d : own_D bytes pc .return_ 1 pn) (hc : cells ≤ R.cells) (hs : slots ≤ R.slots) (q : Qn none h) : own_Go p l e R s m args below meth c n0 (own_N s n0 R Qn) cells slots h pc Ls [] := by
  obtain ⟨hd, rfl⟩ := d
  intro T locs ce sl h1 h2 hf X eT
  obtain ⟨fs, hr, hrun, hended, hW, hsame⟩ := X.leave (v := none) (fun _ => rfl) C.2.2.2.2.2.2.1
  exact ⟨_, _, X.returnOut C.1 C.2.2.2.2.2.1 (hb C.2.2.2.1 hd) hr, hrun, hended, _, locs, rfl, ⟨by show Qn none T.heap; rw [eT]; exact q, hf⟩, ⟨_, rfl⟩, hW, hsame.mono (Nat.le_trans h1 hc) (Nat.le_trans h2 hs)⟩
theorem own_hlen {dsc : String} {ps : List FieldType} {r : Option FieldType} {L : List Value} (hd : parseMethodDescriptor dsc = some ⟨ps, r⟩) (hl : L.length = ps.length) : ∀ sig, parseMethodDescriptor dsc = some sig → L.length = sig.parameters.length := lenOf hd hl
theorem own_callS (C : own_Cx p l e R s m args below meth c Z own nm bytes maxL ret) {i : Nat} {y : MethodName} {bytes' : ByteArray} {maxL' : Nat} {ret' : Option FieldType} {rm : Room} {as' : List Value} {Qc : Option Value → Heap → Prop} (K : own_Con l Z y bytes' maxL' ret' rm n0 as' h Qc) (d : own_D bytes pc (.invokestatic i) 3 pn) (w1 : (Jvm.Cond.methodLink own i y).before a0 Z = true) (w2 : (Jvm.Cond.static y).before a0 Z = true) (w3 : (Jvm.Cond.initialized y.cls).before a0 Z = true) (w4 : (Jvm.Cond.code y bytes' maxL' ret').before a0 Z = true)
    (hy : y.cls ≠ "java/lang/invoke/MethodHandle" ∧ y.cls ≠ "java/lang/invoke/VarHandle") {ps : List FieldType} {r : Option FieldType} (hp : parseMethodDescriptor y.desc = some ⟨ps, r⟩) (hn : as'.length = ps.length) (hst : st = as'.reverse ++ rest) (hLs : Ls.length = maxL) (hfr : rm.frames + 1 ≤ R.frames) (hlo : (rest.map fun v => v.category).sum + (maxL' + 11) + rm.locals ≤ R.locals) (hc : cells + rm.cells ≤ R.cells) (hs : slots + rm.slots ≤ R.slots)
    (k : ∀ v h', Qc v h' → own_Go p l e R s m args below meth c n0 Q (cells + rm.cells) (slots + rm.slots) h' pn Ls (v.toList ++ rest)) : own_Go p l e R s m args below meth c n0 Q cells slots h pc Ls st := by
  obtain ⟨hd, rfl⟩ := d
  intro T locs ce sl h1 h2 hf X eT
  obtain ⟨v, _, ⟨T', L', k', n'⟩, -, X', ⟨Lc, hq, l', y', z'⟩, st'⟩ := Jvm.LawKit.callS X C.1 (y := y) C.2.2.1 (mvT C.2.1 w1) (mvT C.2.1 w2) (mvT C.2.1 w3) (mvT C.2.1 w4) hy (backOf (W := (rest.map fun v => v.category).sum) (Q := fun v h L => Qc v h ∧ Fr n0 L) (K []) C.2.1 w4 w3 hfr hlo) (g := mkF m pc Ls.toArray st) rfl (by rw [C.2.2.2.2.1]; simpa using hLs) (argsL := as') (rest := rest) (lenOf hp hn) hst (by simp) (hb C.2.2.2.1 hd) (fun _ _ => ⟨rfl, eT, Nat.le_trans (Nat.add_le_add_right h1 _) hc, Nat.le_trans (Nat.add_le_add_right h2 _) hs⟩)
  dsimp only [Pt.U, Pt.locs, Pt.cells, Pt.slots] at X' l' y' z' st' hq
  subst l' y' z'
  obtain ⟨s₂, o, g1, g2⟩ := k v T'.heap hq.1 T' _ _ _ (by omega) (by omega) (Fr.app hf hq.2) X' rfl
  exact ⟨s₂, o, st' _ g1, g2⟩
theorem own_callV (C : own_Cx p l e R s m args below meth c Z own nm bytes maxL ret) {i : Nat} {a : Addr} {Kc : String} {z : MethodName} {y : MethodName} {bytes' : ByteArray} {maxL' : Nat} {ret' : Option FieldType} {rm : Room} {as' : List Value} {Qc : Option Value → Heap → Prop} (K : own_Con l Z z bytes' maxL' ret' rm n0 (.ref a :: as') h Qc) (E : Exa Z h a Kc) (d : own_D bytes pc (.invokevirtual i) 3 pn) (w1 : (Jvm.Cond.methodLink own i y).before a0 Z = true) (w2 : (Jvm.Cond.declares y).before a0 Z = true) (w3 : (Jvm.Cond.selects Kc y z).before a0 Z = true) (nf : NotFace s y) (w4 : (Jvm.Cond.instanceMethod z).before a0 Z = true) (w5 : (Jvm.Cond.code z bytes' maxL' ret').before a0 Z = true) (w6 : (Jvm.Cond.initialized z.cls).before a0 Z = true)
    (hy : y.cls ≠ "java/lang/invoke/MethodHandle" ∧ y.cls ≠ "java/lang/invoke/VarHandle") {ps : List FieldType} {r : Option FieldType} (hp : parseMethodDescriptor y.desc = some ⟨ps, r⟩) (hn : as'.length = ps.length) (hst : st = as'.reverse ++ .ref a :: rest) (hLs : Ls.length = maxL) (hfr : rm.frames + 1 ≤ R.frames) (hlo : (rest.map fun v => v.category).sum + (maxL' + 11) + rm.locals ≤ R.locals) (hc : cells + rm.cells ≤ R.cells) (hs : slots + rm.slots ≤ R.slots)
    (k : ∀ v h', Qc v h' → own_Go p l e R s m args below meth c n0 Q (cells + rm.cells) (slots + rm.slots) h' pn Ls (v.toList ++ rest)) : own_Go p l e R s m args below meth c n0 Q cells slots h pc Ls st := by
  obtain ⟨hd, rfl⟩ := d
  intro T locs ce sl h1 h2 hf X eT
  obtain ⟨cB, kB, qa, qb, qc⟩ := isOf C.2.1 eT E
  obtain ⟨v, _, ⟨T', L', k', n'⟩, -, X', ⟨Lc, hq, l', y', z'⟩, st'⟩ := X.virtualBack C.1 (y := y) (z := z) C.2.2.1 (mvT C.2.1 w1) (mvT C.2.1 w2) nf (mvT C.2.1 w3) (mvT C.2.1 w4) hy (backOf (W := (rest.map fun v => v.category).sum) (Q := fun v h L => Qc v h ∧ Fr n0 L) (K []) C.2.1 w5 w6 hfr hlo) qa qc (g := mkF m pc Ls.toArray st) rfl (by rw [C.2.2.2.2.1]; simpa using hLs) (Steps.refl _) (argsL := as') (rest := rest) (lenOf hp hn) hst (by simp) (hb C.2.2.2.1 hd) (fun _ _ => ⟨rfl, eT, Nat.le_trans (Nat.add_le_add_right h1 _) hc, Nat.le_trans (Nat.add_le_add_right h2 _) hs⟩)
  dsimp only [Pt.U, Pt.locs, Pt.cells, Pt.slots] at X' l' y' z' st' hq
  subst l' y' z'
  obtain ⟨s₂, o, g1, g2⟩ := k v T'.heap hq.1 T' _ _ _ (by omega) (by omega) (Fr.app hf hq.2) X' rfl
  exact ⟨s₂, o, st'.trans g1, g2⟩
theorem own_callI (C : own_Cx p l e R s m args below meth c Z own nm bytes maxL ret) {i : Nat} {a : Addr} {y : MethodName} {bytes' : ByteArray} {maxL' : Nat} {ret' : Option FieldType} {rm : Room} {as' : List Value} {Qc : Option Value → Heap → Prop} (K : own_Con l Z y bytes' maxL' none rm n0 (.ref a :: as') h Qc) (d : own_D bytes pc (.invokespecial i) 3 pn) (hi : y.name = "<init>") (w1 : (Jvm.Cond.methodLink own i y).before a0 Z = true) (w4 : (Jvm.Cond.instanceMethod y).before a0 Z = true) (w5 : (Jvm.Cond.code y bytes' maxL' none).before a0 Z = true) (w6 : (Jvm.Cond.initialized y.cls).before a0 Z = true)
    (hy : y.cls ≠ "java/lang/invoke/MethodHandle" ∧ y.cls ≠ "java/lang/invoke/VarHandle") {ps : List FieldType} {r : Option FieldType} (hp : parseMethodDescriptor y.desc = some ⟨ps, r⟩) (hn : as'.length = ps.length) (hst : st = as'.reverse ++ .ref a :: rest) (hLs : Ls.length = maxL) (hfr : rm.frames + 1 ≤ R.frames) (hlo : (rest.map fun v => v.category).sum + (maxL' + 11) + rm.locals ≤ R.locals) (hc : cells + rm.cells ≤ R.cells) (hs : slots + rm.slots ≤ R.slots)
    (k : ∀ v h', Qc v h' → own_Go p l e R s m args below meth c n0 Q (cells + rm.cells) (slots + rm.slots) h' pn Ls (v.toList ++ rest)) : own_Go p l e R s m args below meth c n0 Q cells slots h pc Ls st := by
  obtain ⟨hd, rfl⟩ := d
  intro T locs ce sl h1 h2 hf X eT
  obtain ⟨v, _, ⟨T', L', k', n'⟩, -, X', ⟨Lc, hq, l', y', z'⟩, st'⟩ := X.specialBack C.1 (y := y) hi C.2.2.1 (mvT C.2.1 w1) (mvT C.2.1 w4) (mvT C.2.1 w5) hy (backOf (W := (rest.map fun v => v.category).sum) (Q := fun v h L => Qc v h ∧ Fr n0 L) (K []) C.2.1 w5 w6 hfr hlo) (g := mkF m pc Ls.toArray st) rfl (by rw [C.2.2.2.2.1]; simpa using hLs) (Steps.refl _) (argsL := as') (rest := rest) (lenOf hp hn) hst (by simp) (hb C.2.2.2.1 hd) (fun _ _ => ⟨rfl, eT, Nat.le_trans (Nat.add_le_add_right h1 _) hc, Nat.le_trans (Nat.add_le_add_right h2 _) hs⟩)
  dsimp only [Pt.U, Pt.locs, Pt.cells, Pt.slots] at X' l' y' z' st' hq
  subst l' y' z'
  obtain ⟨s₂, o, g1, g2⟩ := k v T'.heap hq.1 T' _ _ _ (by omega) (by omega) (Fr.app hf hq.2) X' rfl
  exact ⟨s₂, o, st'.trans g1, g2⟩
theorem own_nf {args : Array Value} {y : MethodName} {K : String} (hZ : Z.Warmed39 s.vm) (w : (Jvm.Cond.selects K y y).before a0 Z = true) : NotFace s y := notFace_of_selects (args := args) (mvT hZ w)
/-- from the words of a case to facts -/
theorem own_fld {t u : Term} {O n dd : String} {a : Addr} {v : Value} (hw : (Jvm.Cond.eq (Term.field t O n dd) u).value args Z none Z [] = some true) (ht : t.eval args Z none [] Z = some (.ref a)) (hu : u.eval args Z none [] Z = some v) : Fld Z Z.heap a O n dd v := by
  refine Fld.start ?_
  rw [← fld_at ht]
  obtain ⟨x, y, e1, e2, k1, k2⟩ := cmp_v (Or.inl hw)
  cases hu.symm.trans e2
  rw [e1]
  simp only [Jvm.Cond.value, e1, e2] at hw
  cases x <;> cases v <;> simp_all [Kin, Value.isRef]
theorem own_main {y : MethodName} {rm : Room} {as' : List Value} {ws : List Jvm.Cond} (K : own_Con l Z y bytes maxL ret rm n0 as' h Qn) : MetFree l y (head1 (Jvm.Cond.code y bytes maxL ret :: ws) rm) (fun a U => a = as'.toArray ∧ Z.Warmed39 U.vm ∧ U.heap = h) (fun _ _ _ _ _ => True) (fun _ U o U' => ∃ v L, o = .returned v ∧ (Qn v U'.heap ∧ Fr n0 L) ∧ FrameEnd U o U' L rm.cells rm.slots) := K ws
theorem own_ext_ext {h0 h' : Heap} (E : Ext h0 h) (E' : Ext h h') : Ext h0 h' := ⟨Nat.le_trans E.1 E'.1, fun a c q => E'.2 a c (E.2 a c q)⟩
theorem own_ext_wr {h0 h' : Heap} {a : Addr} {j : Nat} {v : Value} (E : Ext h0 h) (W : Wr h h' a j v) (q : h0.size ≤ a) : Ext h0 h' := by
  refine ⟨by rw [W.size]; exact E.1, fun b c hb => ?_⟩
  obtain ⟨c', e1, -, -, -, e5, -⟩ := wr_at W (E.2 b c hb)
  have ne : b ≠ a := fun e => absurd (Array.getElem?_eq_some_iff.mp hb).1 (by rw [e]; exact Nat.not_lt.mpr q)
  rw [e1, e5 ne]
theorem own_ext_keep {h0 h' : Heap} {ws : List Addr} (E : Ext h0 h) (K : Keep h h' ws) (q : ∀ x ∈ ws, h0.size ≤ x) : Ext h0 h' := ⟨Nat.le_trans E.1 K.1, fun b c hb => K.2.1 b c (E.2 b c hb) fun z => absurd (Array.getElem?_eq_some_iff.mp hb).1 (Nat.not_lt.mpr (q b z))⟩
theorem own_ext_refl (h : Heap) : Ext h h := ⟨Nat.le_refl _, fun _ _ q => q⟩
/-- an array of references and all that lies in it -/
def own_Av (Z : State) (h : Heap) (a : Addr) (ty : FieldType) (cA : ClassId) (vs : List Value) : Prop := ∃ c : Cell, Arr Z h a c ty ∧ c.cls = cA ∧ c.slots = vs.toArray
theorem own_Av.ext {h' : Heap} {a : Addr} {ty : FieldType} {cA : ClassId} {vs : List Value} (A : own_Av Z h a ty cA vs) (E : Ext h h') : own_Av Z h' a ty cA vs := by obtain ⟨c, A, r⟩ := A; exact ⟨c, A.ext E, r⟩
theorem own_newA (C : own_Cx p l e R s m args below meth c Z own nm bytes maxL ret) {K : String} {i : Nat} {n : Int32} (d : own_D bytes pc (.anewarray i) 3 pn) (w1 : (Jvm.Cond.classLink own i K).before a0 Z = true) (w2 : (Jvm.Cond.arrayOver (.object K)).before a0 Z = true) (hn : ¬ n < 0) (cap : Nat) (hcap : n.toNatClampNeg = cap) (hb8 : cap * 8 ≤ 536870912) (hc : cells + 1 ≤ R.cells) (hs : slots + cap ≤ R.slots)
    (k : ∀ (h' : Heap) (a : Addr) (cA : ClassId), a = h.size → Ext h h' → own_Av Z h' a (.object K) cA (List.replicate cap .null) → Ovr Z cA K → own_Go p l e R s m args below meth c n0 Q (cells + 1) (slots + cap) h' pn Ls (.ref a :: st)) : own_Go p l e R s m args below meth c n0 Q cells slots h pc Ls (.int n :: st) :=
  own_newR C d w1 w2 hn cap (Nat.le_of_eq hcap) hb8 hc hs fun h' a cA e1 E A O => k h' a cA e1 E ⟨_, A, rfl, by subst hcap; simp [newA, defaultValue]⟩ O
theorem own_stA (C : own_Cx p l e R s m args below meth c Z own nm bytes maxL ret) {K : String} {a b : Addr} {cA : ClassId} {vs : List Value} {j : Int32} (d : own_D bytes pc .aastore 1 pn) (A : own_Av Z h a (.object K) cA vs) (O : Ovr Z cA K) (I : Ins Z h b K true) (i : Nat) (hj : ¬ j < 0) (hi : j.toNatClampNeg = i) (hl : i < vs.length) (ha : n0 ≤ a)
    (k : ∀ h', Wr h h' a i (.ref b) → own_Av Z h' a (.object K) cA (vs.set i (.ref b)) → own_Go p l e R s m args below meth c n0 Q cells slots h' pn Ls st) : own_Go p l e R s m args below meth c n0 Q cells slots h pc Ls (.ref b :: .int j :: .ref a :: st) := by
  obtain ⟨cl, A, rfl, hv⟩ := A
  subst hi
  have hsz : cl.slots.size = vs.length := by rw [hv]; simp
  refine own_stR C d A (by rw [hsz]; intro q; rcases q with q | q; exact hj q; omega) rfl (Sto.of A O I) ha fun h' W => k h' W ⟨_, A.same W, rfl, ?_⟩
  simp [Cell.setSlot, hv]
theorem own_ldA (C : own_Cx p l e R s m args below meth c Z own nm bytes maxL ret) {ty : FieldType} {a : Addr} {v : Value} {cA : ClassId} {vs : List Value} {j : Int32} (d : own_D bytes pc .aaload 1 pn) (A : own_Av Z h a ty cA vs) (hty : ty.isReference = true) (i : Nat) (hj : ¬ j < 0) (hi : j.toNatClampNeg = i) (hat : vs[i]? = some v)
    (k : own_Go p l e R s m args below meth c n0 Q cells slots h pn Ls (v :: st)) : own_Go p l e R s m args below meth c n0 Q cells slots h pc Ls (.int j :: .ref a :: st) := by
  obtain ⟨cl, A, rfl, hv⟩ := A
  subst hi
  have hl : j.toNatClampNeg < vs.length := (List.getElem?_eq_some_iff.mp hat).1
  have hsz : cl.slots.size = vs.length := by rw [hv]; simp
  exact own_aaload C d A hty (by rw [hsz]; intro q; rcases q with q | q; exact hj q; omega) (by rw [hv]; simpa using hat) k
theorem own_lenA (C : own_Cx p l e R s m args below meth c Z own nm bytes maxL ret) {ty : FieldType} {a : Addr} {cA : ClassId} {vs : List Value} (d : own_D bytes pc .arraylength 1 pn) (A : own_Av Z h a ty cA vs) {z : Int32} (hz : vs.length.toInt32 = z)
    (k : own_Go p l e R s m args below meth c n0 Q cells slots h pn Ls (.int z :: st)) : own_Go p l e R s m args below meth c n0 Q cells slots h pc Ls (.ref a :: st) := by
  obtain ⟨cl, A, rfl, hv⟩ := A
  refine own_arraylength C d A ?_
  have hsz : cl.slots.size = vs.length := by rw [hv]; simp
  rw [hsz, hz]; exact k
theorem own_getClass (C : own_Cx p l e R s m args below meth c Z own nm bytes maxL ret) {i : Nat} {K : String} {a mir : Addr} (d : own_D bytes pc (.invokevirtual i) 3 pn) (w1 : (Jvm.Cond.methodLink own i ⟨"java/lang/Object", "getClass", "()Ljava/lang/Class;"⟩).before a0 Z = true) (w2 : (Jvm.Cond.declares ⟨"java/lang/Object", "getClass", "()Ljava/lang/Class;"⟩).before a0 Z = true) (w3 : (Jvm.Cond.selects K ⟨"java/lang/Object", "getClass", "()Ljava/lang/Class;"⟩ ⟨"java/lang/Object", "getClass", "()Ljava/lang/Class;"⟩).before a0 Z = true)
    (w4 : (Jvm.Cond.instanceMethod ⟨"java/lang/Object", "getClass", "()Ljava/lang/Class;"⟩).before a0 Z = true) (w5 : (Jvm.Cond.native ⟨"java/lang/Object", "getClass", "()Ljava/lang/Class;"⟩).before a0 Z = true) (E : Exa Z h a K) (M : ∃ (cc : ClassId) (kc : Class), Z.vm.findClass K = some cc ∧ Z.vm.classes[cc]? = some kc ∧ kc.mirror = some mir) (hLs : Ls.length = maxL) (hfr : 1 ≤ R.frames) (hlo : (st.map fun v => v.category).sum + (nativeFrameWords "java/lang/Object" "getClass" 1 + 11) ≤ R.locals)
    (k : own_Go p l e R s m args below meth c n0 Q cells slots h pn Ls (.ref mir :: st)) : own_Go p l e R s m args below meth c n0 Q cells slots h pc Ls (.ref a :: st) := by
  obtain ⟨hd, rfl⟩ := d
  refine own_warm (fun T locs ce sl X eT => ?_) k
  obtain ⟨cB, kB, i1, i2, i3⟩ := isOf C.2.1 eT E
  obtain ⟨cc, kc, m1, m2, m3⟩ := M
  rw [C.2.1.alike.findClass] at i1
  cases i1.symm.trans m1
  obtain ⟨k', q, ek⟩ := C.2.1.alike.2.2 _ _ m2
  obtain ⟨vm', X', st'⟩ := X.getClassOf C.1 C.2.2.1 (mvT C.2.1 w1) (mvT C.2.1 w2) (own_nf (args := #[]) C.2.1 w3) (mvT C.2.1 w3) (mvT C.2.1 w4) (mvT C.2.1 w5) (by rw [C.2.1.alike.findClass]; exact m1) i3 q (by rw [ek]; exact m3) (g := mkF m pc Ls.toArray (.ref a :: st)) rfl (by rw [C.2.2.2.2.1]; simpa using hLs) rfl (hb C.2.2.2.1 hd) hfr (by simpa using hlo)
  exact ⟨_, X', eT, st'⟩
theorem own_len {t : Term} {a : Addr} {cl : Cell} {ty : FieldType} {n : Int32} {k : Nat} (hn : n.toNatClampNeg = k) (hw : (Jvm.Cond.eq (Term.length t) (Term.int n)).value args Z none Z [] = some true) (ht : t.eval args Z none [] Z = some (.ref a)) (A : Arr Z Z.heap a cl ty) : cl.slots.size = k := by
  obtain ⟨x, y, e1, e2, -, -⟩ := cmp_v (Or.inl hw)
  have hx := e1
  simp only [Term.eval, ht, Option.bind_eq_bind, Option.bind_some] at e1
  rw [A.fin (Vm.Alike.refl _)] at e1
  simp only [Option.bind_some] at e1
  split at e1
  · rename_i q
    cases e1
    have h2 := gotT (Cond.eq_ints hx (show (Term.int n).eval args Z none [] Z = some (.int n) from rfl)) hw
    have h3 : cl.slots.size.toInt32.toNatClampNeg = cl.slots.size := by
      show (cl.slots.size.toInt32.toInt).toNat = cl.slots.size
      rw [len_toInt q]; rfl
    rw [h2, hn] at h3
    exact h3.symm
  · cases e1
theorem own_elem {t u : Term} {a b : Addr} {cl : Cell} {ty : FieldType} {j : Int32} {k : Nat} (hk : j.toNatClampNeg = k) (hw : (Jvm.Cond.eq (Term.elem t (Term.int j)) u).value args Z none Z [] = some true) (ht : t.eval args Z none [] Z = some (.ref a)) (A : Arr Z Z.heap a cl ty) (hu : u.eval args Z none [] Z = some (.ref b)) : cl.slots[k]? = some (.ref b) := by
  subst hk
  obtain ⟨x, y, e1, e2, k1, k2⟩ := cmp_v (Or.inl hw)
  cases hu.symm.trans e2
  obtain ⟨-, e4⟩ := elem_in e1 ht rfl A.1
  rw [e4]
  simp only [Jvm.Cond.value, e1, e2] at hw
  cases x <;> simp_all [Kin, Value.isRef]
theorem own_callU (C : own_Cx p l e R s m args below meth c Z own nm bytes maxL ret) {i : Nat} {a : Addr} {Kc owner : String} {z : MethodName} {y : MethodName} {bytes' : ByteArray} {maxL' : Nat} {ret' : Option FieldType} {rm : Room} {as' : List Value} {Qc : Option Value → Heap → Prop} (K : own_Con l Z z bytes' maxL' ret' rm n0 (.ref a :: as') h Qc) (E : Exa Z h a Kc) (d : own_D bytes pc (.invokevirtual i) 3 pn) (w1 : (Jvm.Cond.methodLink own i y).before a0 Z = true) (w2 : (Jvm.Cond.sameMethod y.cls owner y.name y.desc).before a0 Z = true) (w2' : (Jvm.Cond.declares ⟨owner, y.name, y.desc⟩).before a0 Z = true) (w3 : (Jvm.Cond.selects Kc y z).before a0 Z = true) (w4 : (Jvm.Cond.instanceMethod z).before a0 Z = true) (w5 : (Jvm.Cond.code z bytes' maxL' ret').before a0 Z = true) (w6 : (Jvm.Cond.initialized z.cls).before a0 Z = true)
    (hy : owner ≠ "java/lang/invoke/MethodHandle" ∧ owner ≠ "java/lang/invoke/VarHandle") {ps : List FieldType} {r : Option FieldType} (hp : parseMethodDescriptor y.desc = some ⟨ps, r⟩) (hn : as'.length = ps.length) (hst : st = as'.reverse ++ .ref a :: rest) (hLs : Ls.length = maxL) (hfr : rm.frames + 1 ≤ R.frames) (hlo : (rest.map fun v => v.category).sum + (maxL' + 11) + rm.locals ≤ R.locals) (hc : cells + rm.cells ≤ R.cells) (hs : slots + rm.slots ≤ R.slots)
    (k : ∀ v h', Qc v h' → own_Go p l e R s m args below meth c n0 Q (cells + rm.cells) (slots + rm.slots) h' pn Ls (v.toList ++ rest)) : own_Go p l e R s m args below meth c n0 Q cells slots h pc Ls st := by
  obtain ⟨hd, rfl⟩ := d
  intro T locs ce sl h1 h2 hf X eT
  obtain ⟨cB, kB, qa, qb, qc⟩ := isOf C.2.1 eT E
  obtain ⟨v, _, ⟨T', L', k', n'⟩, -, X', ⟨Lc, hq, l', y', z'⟩, st'⟩ := X.virtualBackUp C.1 (x := y) (y := z) C.2.2.1 (mvT C.2.1 w1) (mvT C.2.1 w2) (mvT C.2.1 w2') hy (mvT C.2.1 w3) (mvT C.2.1 w4) (backOf (W := (rest.map fun v => v.category).sum) (Q := fun v h L => Qc v h ∧ Fr n0 L) (K []) C.2.1 w5 w6 hfr hlo) qa qc (g := mkF m pc Ls.toArray st) rfl (by rw [C.2.2.2.2.1]; simpa using hLs) (Steps.refl _) (argsL := as') (rest := rest) (lenOf hp hn) hst (by simp) (hb C.2.2.2.1 hd) (fun _ _ => ⟨rfl, eT, Nat.le_trans (Nat.add_le_add_right h1 _) hc, Nat.le_trans (Nat.add_le_add_right h2 _) hs⟩)
  dsimp only [Pt.U, Pt.locs, Pt.cells, Pt.slots] at X' l' y' z' st' hq
  subst l' y' z'
  obtain ⟨s₂, o, g1, g2⟩ := k v T'.heap hq.1 T' _ _ _ (by omega) (by omega) (Fr.app hf hq.2) X' rfl
  exact ⟨s₂, o, st'.trans g1, g2⟩
theorem own_callF (C : own_Cx p l e R s m args below meth c Z own nm bytes maxL ret) {i n : Nat} {a : Addr} {Kc : String} {z : MethodName} {y : MethodName} {bytes' : ByteArray} {maxL' : Nat} {ret' : Option FieldType} {rm : Room} {as' : List Value} {Qc : Option Value → Heap → Prop} (K : own_Con l Z z bytes' maxL' ret' rm n0 (.ref a :: as') h Qc) (E : Exa Z h a Kc) (d : own_D bytes pc (.invokeinterface i n) 5 pn) (w1 : (Jvm.Cond.methodLink own i y).before a0 Z = true) (w2 : (Jvm.Cond.declares y).before a0 Z = true) (w2' : (Jvm.Cond.interfaceMethod y.cls y.cls y.name y.desc).before a0 Z = true) (hfa : ((Jvm.Cond.interfaceMethod y.cls y.cls y.name y.desc).onTables && (Jvm.Cond.interfaceMethod y.cls y.cls y.name y.desc).keepsFace) = true) (w3 : (Jvm.Cond.selects Kc y z).before a0 Z = true) (w4 : (Jvm.Cond.instanceMethod z).before a0 Z = true) (w7 : (Jvm.Cond.publicMethod z).before a0 Z = true) (w8 : (Jvm.Cond.unhidden Kc y.name y.desc).before a0 Z = true) (w9 : (Jvm.Cond.castable Kc y.cls).before a0 Z = true) (w5 : (Jvm.Cond.code z bytes' maxL' ret').before a0 Z = true) (w6 : (Jvm.Cond.initialized z.cls).before a0 Z = true)
    (hy : y.cls ≠ "java/lang/invoke/MethodHandle" ∧ y.cls ≠ "java/lang/invoke/VarHandle") {ps : List FieldType} {r : Option FieldType} (hp : parseMethodDescriptor y.desc = some ⟨ps, r⟩) (hn : as'.length = ps.length) (hst : st = as'.reverse ++ .ref a :: rest) (hLs : Ls.length = maxL) (hfr : rm.frames + 1 ≤ R.frames) (hlo : (rest.map fun v => v.category).sum + (maxL' + 11) + rm.locals ≤ R.locals) (hc : cells + rm.cells ≤ R.cells) (hs : slots + rm.slots ≤ R.slots)
    (k : ∀ v h', Qc v h' → own_Go p l e R s m args below meth c n0 Q (cells + rm.cells) (slots + rm.slots) h' pn Ls (v.toList ++ rest)) : own_Go p l e R s m args below meth c n0 Q cells slots h pc Ls st := by
  obtain ⟨hd, rfl⟩ := d
  intro T locs ce sl h1 h2 hf X eT
  obtain ⟨cB, kB, qa, qb, qc⟩ := isOf C.2.1 eT E
  obtain ⟨v, _, ⟨T', L', k', n'⟩, -, X', ⟨Lc, hq, l', y', z'⟩, st'⟩ := X.interfaceBack C.1 (xi := y) (y := z) C.2.2.1 (mvT C.2.1 w1) (mvT C.2.1 w2) (mvT C.2.1 w2' hfa) (mvT C.2.1 w3) (mvT C.2.1 w4) (mvT C.2.1 w7) (mvT C.2.1 w8) (mvT C.2.1 w9) hy (backOf (W := (rest.map fun v => v.category).sum) (Q := fun v h L => Qc v h ∧ Fr n0 L) (K []) C.2.1 w5 w6 hfr hlo) qa qb qc (g := mkF m pc Ls.toArray st) rfl (by rw [C.2.2.2.2.1]; simpa using hLs) (Steps.refl _) (argsL := as') (rest := rest) (lenOf hp hn) hst (by simp) (hb C.2.2.2.1 hd) (fun _ _ => ⟨rfl, eT, Nat.le_trans (Nat.add_le_add_right h1 _) hc, Nat.le_trans (Nat.add_le_add_right h2 _) hs⟩)
  dsimp only [Pt.U, Pt.locs, Pt.cells, Pt.slots] at X' l' y' z' st' hq
  subst l' y' z'
  obtain ⟨s₂, o, g1, g2⟩ := k v T'.heap hq.1 T' _ _ _ (by omega) (by omega) (Fr.app hf hq.2) X' rfl
  exact ⟨s₂, o, st'.trans g1, g2⟩
end OwnKit
end Jvm.RoadKit
namespace Jvm.Pilot.@@N@@
open Jvm Jvm.ClassFile Sem Op Lib Jvm.Free Jvm.Stand Jvm.LawKit Jvm.RoadKit Bundle Jvm.Pilot.@@N@@.Jvm.D

theorem d0_0 : own_D code 0 (.iload_n 0) 1 1 := ⟨at_0, rfl⟩
theorem d0_1 : own_D code 1 (.ldc 7) 2 3 := ⟨at_1, rfl⟩
theorem d0_3 : own_D code 3 (.iand) 1 4 := ⟨at_3, rfl⟩
theorem d0_4 : own_D code 4 (.bipush 7) 2 6 := ⟨at_4, rfl⟩
theorem d0_6 : own_D code 6 (.irem) 1 7 := ⟨at_6, rfl⟩
theorem d0_7 : own_D code 7 (.istore_n 1) 1 8 := ⟨at_7, rfl⟩
theorem d0_8 : own_D code 8 (.aconst_null) 1 9 := ⟨at_8, rfl⟩
theorem d0_9 : own_D code 9 (.astore_n 3) 1 10 := ⟨at_9, rfl⟩
theorem d0_10 : own_D code 10 (.aconst_null) 1 11 := ⟨at_10, rfl⟩
theorem d0_11 : own_D code 11 (.astore 4) 2 13 := ⟨at_11, rfl⟩
theorem d0_13 : own_D code 13 (.iload_n 1) 1 14 := ⟨at_13, rfl⟩
theorem d0_14 : own_D code 14 (.ifCond .ne 13) 3 17 := ⟨at_14, rfl⟩
theorem t0_14 : own_T 14 (13) 27 := ⟨by decide, by decide⟩
theorem d0_17 : own_D code 17 (.getstatic 8) 3 20 := ⟨at_17, rfl⟩
theorem d0_20 : own_D code 20 (.astore_n 2) 1 21 := ⟨at_20, rfl⟩
theorem d0_21 : own_D code 21 (.iconst 0) 1 22 := ⟨at_21, rfl⟩
theorem d0_22 : own_D code 22 (.istore 5) 2 24 := ⟨at_22, rfl⟩
theorem d0_24 : own_D code 24 (.goto 114) 3 27 := ⟨at_24, rfl⟩
theorem t0_24 : own_T 24 (114) 138 := ⟨by decide, by decide⟩
theorem d0_27 : own_D code 27 (.iload_n 1) 1 28 := ⟨at_27, rfl⟩
theorem d0_28 : own_D code 28 (.iconst 1) 1 29 := ⟨at_28, rfl⟩
theorem d0_29 : own_D code 29 (.if_icmp .ne 17) 3 32 := ⟨at_29, rfl⟩
theorem t0_29 : own_T 29 (17) 46 := ⟨by decide, by decide⟩
theorem d0_32 : own_D code 32 (.getstatic 14) 3 35 := ⟨at_32, rfl⟩
theorem d0_35 : own_D code 35 (.astore_n 2) 1 36 := ⟨at_35, rfl⟩
theorem d0_36 : own_D code 36 (.iconst 1) 1 37 := ⟨at_36, rfl⟩
theorem d0_37 : own_D code 37 (.istore 5) 2 39 := ⟨at_37, rfl⟩
theorem d0_39 : own_D code 39 (.getstatic 14) 3 42 := ⟨at_39, rfl⟩
theorem d0_42 : own_D code 42 (.astore_n 3) 1 43 := ⟨at_42, rfl⟩
theorem d0_43 : own_D code 43 (.goto 95) 3 46 := ⟨at_43, rfl⟩
theorem t0_43 : own_T 43 (95) 138 := ⟨by decide, by decide⟩
theorem d0_46 : own_D code 46 (.iload_n 1) 1 47 := ⟨at_46, rfl⟩
theorem d0_47 : own_D code 47 (.iconst 2) 1 48 := ⟨at_47, rfl⟩
theorem d0_48 : own_D code 48 (.if_icmp .ne 17) 3 51 := ⟨at_48, rfl⟩
theorem t0_48 : own_T 48 (17) 65 := ⟨by decide, by decide⟩
theorem d0_51 : own_D code 51 (.getstatic 17) 3 54 := ⟨at_51, rfl⟩
theorem d0_54 : own_D code 54 (.astore_n 2) 1 55 := ⟨at_54, rfl⟩
theorem d0_55 : own_D code 55 (.iconst 1) 1 56 := ⟨at_55, rfl⟩
theorem d0_56 : own_D code 56 (.istore 5) 2 58 := ⟨at_56, rfl⟩
theorem d0_58 : own_D code 58 (.getstatic 17) 3 61 := ⟨at_58, rfl⟩
theorem d0_61 : own_D code 61 (.astore_n 3) 1 62 := ⟨at_61, rfl⟩
theorem d0_62 : own_D code 62 (.goto 76) 3 65 := ⟨at_62, rfl⟩
theorem t0_62 : own_T 62 (76) 138 := ⟨by decide, by decide⟩
theorem d0_65 : own_D code 65 (.iload_n 1) 1 66 := ⟨at_65, rfl⟩
theorem d0_66 : own_D code 66 (.iconst 3) 1 67 := ⟨at_66, rfl⟩
theorem d0_67 : own_D code 67 (.if_icmp .ne 17) 3 70 := ⟨at_67, rfl⟩
theorem t0_67 : own_T 67 (17) 84 := ⟨by decide, by decide⟩
theorem d0_70 : own_D code 70 (.getstatic 20) 3 73 := ⟨at_70, rfl⟩
theorem d0_73 : own_D code 73 (.astore_n 2) 1 74 := ⟨at_73, rfl⟩
theorem d0_74 : own_D code 74 (.iconst 1) 1 75 := ⟨at_74, rfl⟩
theorem d0_75 : own_D code 75 (.istore 5) 2 77 := ⟨at_75, rfl⟩
theorem d0_77 : own_D code 77 (.getstatic 20) 3 80 := ⟨at_77, rfl⟩
theorem d0_80 : own_D code 80 (.astore_n 3) 1 81 := ⟨at_80, rfl⟩
theorem d0_81 : own_D code 81 (.goto 57) 3 84 := ⟨at_81, rfl⟩
theorem t0_81 : own_T 81 (57) 138 := ⟨by decide, by decide⟩
theorem d0_84 : own_D code 84 (.iload_n 1) 1 85 := ⟨at_84, rfl⟩
theorem d0_85 : own_D code 85 (.iconst 4) 1 86 := ⟨at_85, rfl⟩
theorem d0_86 : own_D code 86 (.if_icmp .ne 22) 3 89 := ⟨at_86, rfl⟩
theorem t0_86 : own_T 86 (22) 108 := ⟨by decide, by decide⟩
theorem d0_89 : own_D code 89 (.getstatic 23) 3 92 := ⟨at_89, rfl⟩
theorem d0_92 : own_D code 92 (.astore_n 2) 1 93 := ⟨at_92, rfl⟩
theorem d0_93 : own_D code 93 (.iconst 2) 1 94 := ⟨at_93, rfl⟩
theorem d0_94 : own_D code 94 (.istore 5) 2 96 := ⟨at_94, rfl⟩
theorem d0_96 : own_D code 96 (.getstatic 17) 3 99 := ⟨at_96, rfl⟩
theorem d0_99 : own_D code 99 (.astore_n 3) 1 100 := ⟨at_99, rfl⟩
theorem d0_100 : own_D code 100 (.getstatic 14) 3 103 := ⟨at_100, rfl⟩
theorem d0_103 : own_D code 103 (.astore 4) 2 105 := ⟨at_103, rfl⟩
theorem d0_105 : own_D code 105 (.goto 33) 3 108 := ⟨at_105, rfl⟩
theorem t0_105 : own_T 105 (33) 138 := ⟨by decide, by decide⟩
theorem d0_108 : own_D code 108 (.iload_n 1) 1 109 := ⟨at_108, rfl⟩
theorem d0_109 : own_D code 109 (.iconst 5) 1 110 := ⟨at_109, rfl⟩
theorem d0_110 : own_D code 110 (.if_icmp .ne 17) 3 113 := ⟨at_110, rfl⟩
theorem t0_110 : own_T 110 (17) 127 := ⟨by decide, by decide⟩
theorem d0_113 : own_D code 113 (.getstatic 26) 3 116 := ⟨at_113, rfl⟩
theorem d0_116 : own_D code 116 (.astore_n 2) 1 117 := ⟨at_116, rfl⟩
theorem d0_117 : own_D code 117 (.iconst 1) 1 118 := ⟨at_117, rfl⟩
theorem d0_118 : own_D code 118 (.istore 5) 2 120 := ⟨at_118, rfl⟩
theorem d0_120 : own_D code 120 (.getstatic 26) 3 123 := ⟨at_120, rfl⟩
theorem d0_123 : own_D code 123 (.astore_n 3) 1 124 := ⟨at_123, rfl⟩
theorem d0_124 : own_D code 124 (.goto 14) 3 127 := ⟨at_124, rfl⟩
theorem t0_124 : own_T 124 (14) 138 := ⟨by decide, by decide⟩
theorem d0_127 : own_D code 127 (.getstatic 29) 3 130 := ⟨at_127, rfl⟩
theorem d0_130 : own_D code 130 (.astore_n 2) 1 131 := ⟨at_130, rfl⟩
theorem d0_131 : own_D code 131 (.iconst 1) 1 132 := ⟨at_131, rfl⟩
theorem d0_132 : own_D code 132 (.istore 5) 2 134 := ⟨at_132, rfl⟩
theorem d0_134 : own_D code 134 (.getstatic 29) 3 137 := ⟨at_134, rfl⟩
theorem d0_137 : own_D code 137 (.astore_n 3) 1 138 := ⟨at_137, rfl⟩
theorem d0_138 : own_D code 138 (.aload_n 2) 1 139 := ⟨at_138, rfl⟩
theorem d0_139 : own_D code 139 (.invokevirtual 32) 3 142 := ⟨at_139, rfl⟩
theorem d0_142 : own_D code 142 (.astore 6) 2 144 := ⟨at_142, rfl⟩
theorem d0_144 : own_D code 144 (.aload 6) 2 146 := ⟨at_144, rfl⟩
theorem d0_146 : own_D code 146 (.ifnull 11) 3 149 := ⟨at_146, rfl⟩
theorem t0_146 : own_T 146 (11) 157 := ⟨by decide, by decide⟩
theorem d0_149 : own_D code 149 (.aload 6) 2 151 := ⟨at_149, rfl⟩
theorem d0_151 : own_D code 151 (.arraylength) 1 152 := ⟨at_151, rfl⟩
theorem d0_152 : own_D code 152 (.iload 5) 2 154 := ⟨at_152, rfl⟩
theorem d0_154 : own_D code 154 (.if_icmp .eq 5) 3 157 := ⟨at_154, rfl⟩
theorem t0_154 : own_T 154 (5) 159 := ⟨by decide, by decide⟩
theorem d0_157 : own_D code 157 (.iconst 0) 1 158 := ⟨at_157, rfl⟩
theorem d0_158 : own_D code 158 (.ireturn) 1 159 := ⟨at_158, rfl⟩
theorem d0_159 : own_D code 159 (.iload 5) 2 161 := ⟨at_159, rfl⟩
theorem d0_161 : own_D code 161 (.iconst 1) 1 162 := ⟨at_161, rfl⟩
theorem d0_162 : own_D code 162 (.if_icmp .lt 13) 3 165 := ⟨at_162, rfl⟩
theorem t0_162 : own_T 162 (13) 175 := ⟨by decide, by decide⟩
theorem d0_165 : own_D code 165 (.aload 6) 2 167 := ⟨at_165, rfl⟩
theorem d0_167 : own_D code 167 (.iconst 0) 1 168 := ⟨at_167, rfl⟩
theorem d0_168 : own_D code 168 (.aaload) 1 169 := ⟨at_168, rfl⟩
theorem d0_169 : own_D code 169 (.aload_n 3) 1 170 := ⟨at_169, rfl⟩
theorem d0_170 : own_D code 170 (.if_acmp .eq 5) 3 173 := ⟨at_170, rfl⟩
theorem t0_170 : own_T 170 (5) 175 := ⟨by decide, by decide⟩
theorem d0_173 : own_D code 173 (.iconst 0) 1 174 := ⟨at_173, rfl⟩
theorem d0_174 : own_D code 174 (.ireturn) 1 175 := ⟨at_174, rfl⟩
theorem d0_175 : own_D code 175 (.iload 5) 2 177 := ⟨at_175, rfl⟩
theorem d0_177 : own_D code 177 (.iconst 2) 1 178 := ⟨at_177, rfl⟩
theorem d0_178 : own_D code 178 (.if_icmp .lt 14) 3 181 := ⟨at_178, rfl⟩
theorem t0_178 : own_T 178 (14) 192 := ⟨by decide, by decide⟩
theorem d0_181 : own_D code 181 (.aload 6) 2 183 := ⟨at_181, rfl⟩
theorem d0_183 : own_D code 183 (.iconst 1) 1 184 := ⟨at_183, rfl⟩
theorem d0_184 : own_D code 184 (.aaload) 1 185 := ⟨at_184, rfl⟩
theorem d0_185 : own_D code 185 (.aload 4) 2 187 := ⟨at_185, rfl⟩
theorem d0_187 : own_D code 187 (.if_acmp .eq 5) 3 190 := ⟨at_187, rfl⟩
theorem t0_187 : own_T 187 (5) 192 := ⟨by decide, by decide⟩
theorem d0_190 : own_D code 190 (.iconst 0) 1 191 := ⟨at_190, rfl⟩
theorem d0_191 : own_D code 191 (.ireturn) 1 192 := ⟨at_191, rfl⟩
theorem d0_192 : own_D code 192 (.iconst 1) 1 193 := ⟨at_192, rfl⟩
theorem d0_193 : own_D code 193 (.ireturn) 1 194 := ⟨at_193, rfl⟩
theorem pd0 : parseMethodDescriptor "(I)Z" = some ⟨[.int], some .boolean⟩ := by decide +kernel
theorem pn0 : plainFor x = true := plainFor_of_name (x := x) (show plainName "com/example/medwacht/medwacht/bench/MadeRouteSinglesPinLaw" = true by first | (simp [plainName, overriddenIn]; done) | decide +kernel)
theorem d1_0 : own_D prog_15_method_7_code 0 (.aload_n 0) 1 1 := ⟨by decide +kernel, rfl⟩
theorem d1_1 : own_D prog_15_method_7_code 1 (.getstatic 3) 3 4 := ⟨by decide +kernel, rfl⟩
theorem d1_4 : own_D prog_15_method_7_code 4 (.if_acmp .ne 8) 3 7 := ⟨by decide +kernel, rfl⟩
theorem t1_4 : own_T 4 (8) 12 := ⟨by decide, by decide⟩
theorem d1_7 : own_D prog_15_method_7_code 7 (.iconst 0) 1 8 := ⟨by decide +kernel, rfl⟩
theorem d1_8 : own_D prog_15_method_7_code 8 (.anewarray 1) 3 11 := ⟨by decide +kernel, rfl⟩
theorem d1_11 : own_D prog_15_method_7_code 11 (.areturn) 1 12 := ⟨by decide +kernel, rfl⟩
theorem d1_12 : own_D prog_15_method_7_code 12 (.aload_n 0) 1 13 := ⟨by decide +kernel, rfl⟩
theorem d1_13 : own_D prog_15_method_7_code 13 (.getfield 52) 3 16 := ⟨by decide +kernel, rfl⟩
theorem d1_16 : own_D prog_15_method_7_code 16 (.ifCond .eq 22) 3 19 := ⟨by decide +kernel, rfl⟩
theorem t1_16 : own_T 16 (22) 38 := ⟨by decide, by decide⟩
theorem d1_19 : own_D prog_15_method_7_code 19 (.iconst 2) 1 20 := ⟨by decide +kernel, rfl⟩
theorem d1_20 : own_D prog_15_method_7_code 20 (.anewarray 1) 3 23 := ⟨by decide +kernel, rfl⟩
theorem d1_23 : own_D prog_15_method_7_code 23 (.dup) 1 24 := ⟨by decide +kernel, rfl⟩
theorem d1_24 : own_D prog_15_method_7_code 24 (.iconst 0) 1 25 := ⟨by decide +kernel, rfl⟩
theorem d1_25 : own_D prog_15_method_7_code 25 (.getstatic 10) 3 28 := ⟨by decide +kernel, rfl⟩
theorem d1_28 : own_D prog_15_method_7_code 28 (.aastore) 1 29 := ⟨by decide +kernel, rfl⟩
theorem d1_29 : own_D prog_15_method_7_code 29 (.dup) 1 30 := ⟨by decide +kernel, rfl⟩
theorem d1_30 : own_D prog_15_method_7_code 30 (.iconst 1) 1 31 := ⟨by decide +kernel, rfl⟩
theorem d1_31 : own_D prog_15_method_7_code 31 (.getstatic 7) 3 34 := ⟨by decide +kernel, rfl⟩
theorem d1_34 : own_D prog_15_method_7_code 34 (.aastore) 1 35 := ⟨by decide +kernel, rfl⟩
theorem d1_35 : own_D prog_15_method_7_code 35 (.goto 11) 3 38 := ⟨by decide +kernel, rfl⟩
theorem t1_35 : own_T 35 (11) 46 := ⟨by decide, by decide⟩
theorem d1_38 : own_D prog_15_method_7_code 38 (.iconst 1) 1 39 := ⟨by decide +kernel, rfl⟩
theorem d1_39 : own_D prog_15_method_7_code 39 (.anewarray 1) 3 42 := ⟨by decide +kernel, rfl⟩
theorem d1_42 : own_D prog_15_method_7_code 42 (.dup) 1 43 := ⟨by decide +kernel, rfl⟩
theorem d1_43 : own_D prog_15_method_7_code 43 (.iconst 0) 1 44 := ⟨by decide +kernel, rfl⟩
theorem d1_44 : own_D prog_15_method_7_code 44 (.aload_n 0) 1 45 := ⟨by decide +kernel, rfl⟩
theorem d1_45 : own_D prog_15_method_7_code 45 (.aastore) 1 46 := ⟨by decide +kernel, rfl⟩
theorem d1_46 : own_D prog_15_method_7_code 46 (.areturn) 1 47 := ⟨by decide +kernel, rfl⟩
theorem pd1 : parseMethodDescriptor "()[Lcom/example/medwacht/medwacht/bench/MadeRoute;" = some ⟨[], some (.array (.object "com/example/medwacht/medwacht/bench/MadeRoute"))⟩ := by decide +kernel
theorem pn1 : plainFor (⟨"com/example/medwacht/medwacht/bench/MadeRoute", "singles", "()[Lcom/example/medwacht/medwacht/bench/MadeRoute;"⟩ : MethodName) = true := plainFor_of_name (x := (⟨"com/example/medwacht/medwacht/bench/MadeRoute", "singles", "()[Lcom/example/medwacht/medwacht/bench/MadeRoute;"⟩ : MethodName)) (show plainName "com/example/medwacht/medwacht/bench/MadeRoute" = true by first | (simp [plainName, overriddenIn]; done) | decide +kernel)
set_option maxRecDepth 65536 in
set_option maxHeartbeats 40000000 in
theorem own_sng_none (l : Launch) (Z : State) (a0 : Array Value) (hw : ∀ d ∈ tables_1, d.before a0 Z = true) (n0 : Nat) (h : Heap) (Z0 : n0 ≤ h.size) (a : Addr) (S_NOT_APPLICABLE : Sta Z h "com/example/medwacht/medwacht/bench/MadeRoute" "NOT_APPLICABLE" "Lcom/example/medwacht/medwacht/bench/MadeRoute;" (.ref a)) : own_Con l Z (⟨"com/example/medwacht/medwacht/bench/MadeRoute", "singles", "()[Lcom/example/medwacht/medwacht/bench/MadeRoute;"⟩ : MethodName) prog_15_method_7_code 1 (some (.array (.object "com/example/medwacht/medwacht/bench/MadeRoute"))) ({ frames := 0, cells := 1, slots := 2, locals := 0 } : Room) n0 [(.ref a)] h (fun v h' => ∃ (b : Addr) (cA : ClassId), v = some (.ref b) ∧ own_Av Z h' b (.object "com/example/medwacht/medwacht/bench/MadeRoute") cA []) := by
  refine own_Con.mk (Ls := [.val (.ref a)]) pn1 (fun m => by first | (simp [entryFrame, mkF, argsToLocals, Value.category]; done) | rfl) ?_
  intro p e s m below meth c C
  refine own_aloadN C d1_0 rfl rfl ?_
  refine own_getS C d1_1 (hw _ (List.mem_of_getElem? (i := 9) rfl)) S_NOT_APPLICABLE ?_
  refine own_acmpne C d1_4 t1_4 rfl rfl (fun h' => absurd h' (fun z => z rfl)) (fun _ => ?_)
  refine own_iconst C (0 : Int32) d1_7 rfl ?_
  refine own_newA C d1_8 (hw _ (List.mem_of_getElem? (i := 10) rfl)) (hw _ (List.mem_of_getElem? (i := 11) rfl)) (by decide) 0 rfl (by decide) (by decide) (by decide) ?_
  intro h1 b cA eb E1 A1 O1
  exact own_retA C d1_11 rfl rfl (by decide) (by decide) ⟨b, cA, rfl, A1⟩
set_option maxRecDepth 65536 in
set_option maxHeartbeats 40000000 in
theorem own_sng_both (l : Launch) (Z : State) (a0 : Array Value) (hw : ∀ d ∈ tables_1, d.before a0 Z = true) (n0 : Nat) (h : Heap) (Z0 : n0 ≤ h.size) (a a1 a2 a3 : Addr) (S_NOT_APPLICABLE : Sta Z h "com/example/medwacht/medwacht/bench/MadeRoute" "NOT_APPLICABLE" "Lcom/example/medwacht/medwacht/bench/MadeRoute;" (.ref a1))(S_INTRAVENOUS : Sta Z h "com/example/medwacht/medwacht/bench/MadeRoute" "INTRAVENOUS" "Lcom/example/medwacht/medwacht/bench/MadeRoute;" (.ref a2))(S_INTRAMUSCULAR : Sta Z h "com/example/medwacht/medwacht/bench/MadeRoute" "INTRAMUSCULAR" "Lcom/example/medwacht/medwacht/bench/MadeRoute;" (.ref a3)) (q : ¬ a = a1) (F : Fld Z h a "com/example/medwacht/medwacht/bench/MadeRoute" "multiple" "Z" (.int (1 : Int32))) (E_2 : Exa Z h a2 "com/example/medwacht/medwacht/bench/MadeRoute") (E_3 : Exa Z h a3 "com/example/medwacht/medwacht/bench/MadeRoute") : own_Con l Z (⟨"com/example/medwacht/medwacht/bench/MadeRoute", "singles", "()[Lcom/example/medwacht/medwacht/bench/MadeRoute;"⟩ : MethodName) prog_15_method_7_code 1 (some (.array (.object "com/example/medwacht/medwacht/bench/MadeRoute"))) ({ frames := 0, cells := 1, slots := 2, locals := 0 } : Room) n0 [(.ref a)] h (fun v h' => ∃ (b : Addr) (cA : ClassId), v = some (.ref b) ∧ own_Av Z h' b (.object "com/example/medwacht/medwacht/bench/MadeRoute") cA [.ref a2, .ref a3]) := by
  refine own_Con.mk (Ls := [.val (.ref a)]) pn1 (fun m => by first | (simp [entryFrame, mkF, argsToLocals, Value.category]; done) | rfl) ?_
  intro p e s m below meth c C
  refine own_aloadN C d1_0 rfl rfl ?_
  refine own_getS C d1_1 (hw _ (List.mem_of_getElem? (i := 9) rfl)) S_NOT_APPLICABLE ?_
  refine own_acmpne C d1_4 t1_4 rfl rfl (fun _ => ?_) (fun h' => absurd h' (fun z => q (Value.ref.inj z)))
  refine own_aloadN C d1_12 rfl rfl ?_
  refine own_getF C d1_13 (hw _ (List.mem_of_getElem? (i := 14) rfl)) Via.refl F ?_
  refine own_ifeq C d1_16 t1_16 (fun h' => absurd h' (by decide)) (fun _ => ?_)
  refine own_iconst C (2 : Int32) d1_19 rfl ?_
  refine own_newA C d1_20 (hw _ (List.mem_of_getElem? (i := 10) rfl)) (hw _ (List.mem_of_getElem? (i := 11) rfl)) (by decide) 2 rfl (by decide) (by decide) (by decide) ?_
  intro h1 b cA eb E1 A1 O1
  refine own_dup C d1_23 rfl ?_
  refine own_iconst C (0 : Int32) d1_24 rfl ?_
  refine own_getS C d1_25 (hw _ (List.mem_of_getElem? (i := 27) rfl)) (S_INTRAVENOUS.ext E1) ?_
  refine own_stA C d1_28 A1 O1 (Ins.self (E_2.ext E1)) 0 (by decide) rfl (by simp) (by rw [eb]; exact Z0) ?_
  intro h2 W2 A2
  refine own_dup C d1_29 rfl ?_
  refine own_iconst C (1 : Int32) d1_30 rfl ?_
  refine own_getS C d1_31 (hw _ (List.mem_of_getElem? (i := 28) rfl)) ((S_INTRAMUSCULAR.ext E1).wr W2) ?_
  refine own_stA C d1_34 A2 O1 (Ins.self ((E_3.ext E1).wr W2)) 1 (by decide) rfl (by simp) (by rw [eb]; exact Z0) ?_
  intro h3 W3 A3
  refine own_goto C d1_35 t1_35 ?_
  exact own_retA C d1_46 rfl rfl (by decide) (by decide) ⟨b, cA, rfl, A3⟩
set_option maxRecDepth 65536 in
set_option maxHeartbeats 40000000 in
theorem own_sng_self (l : Launch) (Z : State) (a0 : Array Value) (hw : ∀ d ∈ tables_1, d.before a0 Z = true) (n0 : Nat) (h : Heap) (Z0 : n0 ≤ h.size) (a a1 : Addr) (S_NOT_APPLICABLE : Sta Z h "com/example/medwacht/medwacht/bench/MadeRoute" "NOT_APPLICABLE" "Lcom/example/medwacht/medwacht/bench/MadeRoute;" (.ref a1)) (q : ¬ a = a1) (F : Fld Z h a "com/example/medwacht/medwacht/bench/MadeRoute" "multiple" "Z" (.int (0 : Int32))) (E_1 : Exa Z h a "com/example/medwacht/medwacht/bench/MadeRoute") : own_Con l Z (⟨"com/example/medwacht/medwacht/bench/MadeRoute", "singles", "()[Lcom/example/medwacht/medwacht/bench/MadeRoute;"⟩ : MethodName) prog_15_method_7_code 1 (some (.array (.object "com/example/medwacht/medwacht/bench/MadeRoute"))) ({ frames := 0, cells := 1, slots := 2, locals := 0 } : Room) n0 [(.ref a)] h (fun v h' => ∃ (b : Addr) (cA : ClassId), v = some (.ref b) ∧ own_Av Z h' b (.object "com/example/medwacht/medwacht/bench/MadeRoute") cA [.ref a]) := by
  refine own_Con.mk (Ls := [.val (.ref a)]) pn1 (fun m => by first | (simp [entryFrame, mkF, argsToLocals, Value.category]; done) | rfl) ?_
  intro p e s m below meth c C
  refine own_aloadN C d1_0 rfl rfl ?_
  refine own_getS C d1_1 (hw _ (List.mem_of_getElem? (i := 9) rfl)) S_NOT_APPLICABLE ?_
  refine own_acmpne C d1_4 t1_4 rfl rfl (fun _ => ?_) (fun h' => absurd h' (fun z => q (Value.ref.inj z)))
  refine own_aloadN C d1_12 rfl rfl ?_
  refine own_getF C d1_13 (hw _ (List.mem_of_getElem? (i := 14) rfl)) Via.refl F ?_
  refine own_ifeq C d1_16 t1_16 (fun _ => ?_) (fun h' => absurd h' (by decide))
  refine own_iconst C (1 : Int32) d1_38 rfl ?_
  refine own_newA C d1_39 (hw _ (List.mem_of_getElem? (i := 10) rfl)) (hw _ (List.mem_of_getElem? (i := 11) rfl)) (by decide) 1 rfl (by decide) (by decide) (by decide) ?_
  intro h1 b cA eb E1 A1 O1
  refine own_dup C d1_42 rfl ?_
  refine own_iconst C (0 : Int32) d1_43 rfl ?_
  refine own_aloadN C d1_44 rfl rfl ?_
  refine own_stA C d1_45 A1 O1 (Ins.self (E_1.ext E1)) 0 (by decide) rfl (by simp) (by rw [eb]; exact Z0) ?_
  intro h2 W2 A2
  exact own_retA C d1_46 rfl rfl (by decide) (by decide) ⟨b, cA, rfl, A2⟩
theorem own_seven (x : Int32) : (x &&& 2147483647) % 7 = 0 ∨ (x &&& 2147483647) % 7 = 1 ∨ (x &&& 2147483647) % 7 = 2 ∨ (x &&& 2147483647) % 7 = 3 ∨ (x &&& 2147483647) % 7 = 4 ∨ (x &&& 2147483647) % 7 = 5 ∨ (x &&& 2147483647) % 7 = 6 := by
  have h1 := (c_andS x 2147483647).2.2 (by decide)
  have h2 := (c_irem (x &&& 2147483647) 7 7 rfl).1 h1
  simp only [← Int32.toInt_inj]
  have e0 : (0 : Int32).toInt = 0 := rfl
  have e1 : (1 : Int32).toInt = 1 := rfl
  have e2 : (2 : Int32).toInt = 2 := rfl
  have e3 : (3 : Int32).toInt = 3 := rfl
  have e4 : (4 : Int32).toInt = 4 := rfl
  have e5 : (5 : Int32).toInt = 5 := rfl
  have e6 : (6 : Int32).toInt = 6 := rfl
  rw [h2, e0, e1, e2, e3, e4, e5, e6]
  omega
set_option maxRecDepth 65536 in
set_option maxHeartbeats 40000000 in
theorem own_law (l : Launch) (Z : State) (a0 : Array Value) (hw : ∀ d ∈ tables_1, d.before a0 Z = true) (n0 : Nat) (h : Heap) (i0 : Int32) (Z0 : n0 ≤ h.size) (a_NOT_APPLICABLE : Addr) (S_NOT_APPLICABLE : Sta Z h "com/example/medwacht/medwacht/bench/MadeRoute" "NOT_APPLICABLE" "Lcom/example/medwacht/medwacht/bench/MadeRoute;" (.ref a_NOT_APPLICABLE)) (E_NOT_APPLICABLE : Exa Z h a_NOT_APPLICABLE "com/example/medwacht/medwacht/bench/MadeRoute") (a_ORAL : Addr) (S_ORAL : Sta Z h "com/example/medwacht/medwacht/bench/MadeRoute" "ORAL" "Lcom/example/medwacht/medwacht/bench/MadeRoute;" (.ref a_ORAL)) (E_ORAL : Exa Z h a_ORAL "com/example/medwacht/medwacht/bench/MadeRoute") (a_SUBCUTANEOUS : Addr) (S_SUBCUTANEOUS : Sta Z h "com/example/medwacht/medwacht/bench/MadeRoute" "SUBCUTANEOUS" "Lcom/example/medwacht/medwacht/bench/MadeRoute;" (.ref a_SUBCUTANEOUS)) (E_SUBCUTANEOUS : Exa Z h a_SUBCUTANEOUS "com/example/medwacht/medwacht/bench/MadeRoute") (a_RECTAL : Addr) (S_RECTAL : Sta Z h "com/example/medwacht/medwacht/bench/MadeRoute" "RECTAL" "Lcom/example/medwacht/medwacht/bench/MadeRoute;" (.ref a_RECTAL)) (E_RECTAL : Exa Z h a_RECTAL "com/example/medwacht/medwacht/bench/MadeRoute") (a_PARENTERAL : Addr) (S_PARENTERAL : Sta Z h "com/example/medwacht/medwacht/bench/MadeRoute" "PARENTERAL" "Lcom/example/medwacht/medwacht/bench/MadeRoute;" (.ref a_PARENTERAL)) (E_PARENTERAL : Exa Z h a_PARENTERAL "com/example/medwacht/medwacht/bench/MadeRoute") (a_INTRAVENOUS : Addr) (S_INTRAVENOUS : Sta Z h "com/example/medwacht/medwacht/bench/MadeRoute" "INTRAVENOUS" "Lcom/example/medwacht/medwacht/bench/MadeRoute;" (.ref a_INTRAVENOUS)) (E_INTRAVENOUS : Exa Z h a_INTRAVENOUS "com/example/medwacht/medwacht/bench/MadeRoute") (a_INTRAMUSCULAR : Addr) (S_INTRAMUSCULAR : Sta Z h "com/example/medwacht/medwacht/bench/MadeRoute" "INTRAMUSCULAR" "Lcom/example/medwacht/medwacht/bench/MadeRoute;" (.ref a_INTRAMUSCULAR)) (E_INTRAMUSCULAR : Exa Z h a_INTRAMUSCULAR "com/example/medwacht/medwacht/bench/MadeRoute") (F_ORAL_ordinal : Fld Z h a_ORAL "java/lang/Enum" "ordinal" "I" (.int (3 : Int32))) (F_NOT_APPLICABLE_ordinal : Fld Z h a_NOT_APPLICABLE "java/lang/Enum" "ordinal" "I" (.int (0 : Int32))) (F_ORAL_multiple : Fld Z h a_ORAL "com/example/medwacht/medwacht/bench/MadeRoute" "multiple" "Z" (.int (0 : Int32))) (F_SUBCUTANEOUS_ordinal : Fld Z h a_SUBCUTANEOUS "java/lang/Enum" "ordinal" "I" (.int (5 : Int32))) (F_SUBCUTANEOUS_multiple : Fld Z h a_SUBCUTANEOUS "com/example/medwacht/medwacht/bench/MadeRoute" "multiple" "Z" (.int (0 : Int32))) (F_RECTAL_ordinal : Fld Z h a_RECTAL "java/lang/Enum" "ordinal" "I" (.int (6 : Int32))) (F_RECTAL_multiple : Fld Z h a_RECTAL "com/example/medwacht/medwacht/bench/MadeRoute" "multiple" "Z" (.int (0 : Int32))) (F_PARENTERAL_ordinal : Fld Z h a_PARENTERAL "java/lang/Enum" "ordinal" "I" (.int (4 : Int32))) (F_PARENTERAL_multiple : Fld Z h a_PARENTERAL "com/example/medwacht/medwacht/bench/MadeRoute" "multiple" "Z" (.int (1 : Int32))) (F_INTRAVENOUS_ordinal : Fld Z h a_INTRAVENOUS "java/lang/Enum" "ordinal" "I" (.int (2 : Int32))) (F_INTRAVENOUS_multiple : Fld Z h a_INTRAVENOUS "com/example/medwacht/medwacht/bench/MadeRoute" "multiple" "Z" (.int (0 : Int32))) (F_INTRAMUSCULAR_ordinal : Fld Z h a_INTRAMUSCULAR "java/lang/Enum" "ordinal" "I" (.int (1 : Int32))) (F_INTRAMUSCULAR_multiple : Fld Z h a_INTRAMUSCULAR "com/example/medwacht/medwacht/bench/MadeRoute" "multiple" "Z" (.int (0 : Int32))) (F_NOT_APPLICABLE_multiple : Fld Z h a_NOT_APPLICABLE "com/example/medwacht/medwacht/bench/MadeRoute" "multiple" "Z" (.int (0 : Int32)))  : own_Con l Z x code maxLocals ret room_1 n0 [(.int i0)] h (fun v h' => v = some (.int (1 : Int32))) := by
  refine own_Con.mk (Ls := [.val (.int i0), .unset, .unset, .unset, .unset, .unset, .unset]) pn0 (fun m => by first | (simp [entryFrame, mkF, argsToLocals, Value.category, maxLocals]; done) | rfl) ?_
  intro p e s m below meth c C
  refine own_iloadN C d0_0 rfl ?_
  refine own_ldc C d0_1 (hw _ (List.mem_of_getElem? (i := 0) rfl)) ?_
  refine own_iand C d0_3 ?_
  refine own_bipush C (7 : Int32) d0_4 rfl ?_
  refine own_irem C d0_6 (by decide) ?_
  refine own_istoreN C 1 d0_7 rfl rfl rfl ?_
  refine own_aconst_null C d0_8 ?_
  refine own_astoreN C 3 d0_9 rfl rfl rfl rfl ?_
  refine own_aconst_null C d0_10 ?_
  refine own_astore C 4 d0_11 rfl rfl rfl rfl ?_
  refine own_iloadN C d0_13 rfl ?_
  have hk := own_seven i0
  generalize (i0 &&& 2147483647) % 7 = k at hk ⊢
  rcases hk with rfl | rfl | rfl | rfl | rfl | rfl | rfl
  · refine own_ifne C d0_14 t0_14 (fun h' => absurd h' (by decide)) (fun _ => ?_)
    refine own_getS C d0_17 (hw _ (List.mem_of_getElem? (i := 1) rfl)) S_NOT_APPLICABLE ?_
    refine own_astoreN C 2 d0_20 rfl rfl rfl rfl ?_
    refine own_iconst C (0 : Int32) d0_21 rfl ?_
    refine own_istore C 5 d0_22 rfl rfl rfl ?_
    refine own_goto C d0_24 t0_24 ?_
    refine own_aloadN C d0_138 rfl rfl ?_
    refine own_callV C (own_sng_none l Z a0 hw n0 _ Z0 _ S_NOT_APPLICABLE) E_NOT_APPLICABLE d0_139 (hw _ (List.mem_of_getElem? (i := 4) rfl)) (hw _ (List.mem_of_getElem? (i := 5) rfl)) (hw _ (List.mem_of_getElem? (i := 7) rfl)) (own_nf (args := #[]) C.2.1 (hw _ (List.mem_of_getElem? (i := 7) rfl))) (hw _ (List.mem_of_getElem? (i := 6) rfl)) (hw _ (List.mem_of_getElem? (i := 8) rfl)) (hw _ (List.mem_of_getElem? (i := 2) rfl)) (by decide) pd1 rfl rfl rfl (by decide) (Nat.le_of_ble_eq_true rfl) (by decide) (by decide) ?_
    rintro _ h1 ⟨b, cA, rfl, A⟩
    refine own_astore C 6 d0_142 rfl rfl rfl rfl ?_
    refine own_aload C d0_144 rfl rfl ?_
    refine own_ifnull C d0_146 t0_146 rfl (fun h' => absurd h' nofun) (fun _ => ?_)
    refine own_aload C d0_149 rfl rfl ?_
    refine own_lenA C d0_151 A (z := 0) rfl ?_
    refine own_iload C d0_152 rfl ?_
    refine own_icmpeq C d0_154 t0_154 (fun _ => ?_) (fun h' => absurd h' (by decide))
    refine own_iload C d0_159 rfl ?_
    refine own_iconst C (1 : Int32) d0_161 rfl ?_
    refine own_icmplt C d0_162 t0_162 (fun _ => ?_) (fun h' => absurd h' (by decide))
    refine own_iload C d0_175 rfl ?_
    refine own_iconst C (2 : Int32) d0_177 rfl ?_
    refine own_icmplt C d0_178 t0_178 (fun _ => ?_) (fun h' => absurd h' (by decide))
    refine own_iconst C (1 : Int32) d0_192 rfl ?_
    exact own_retZ C d0_193 (Or.inr rfl) (by decide) (by decide) rfl
  · refine own_ifne C d0_14 t0_14 (fun _ => ?_) (fun h' => absurd h' (by decide))
    refine own_iloadN C d0_27 rfl ?_
    refine own_iconst C (1 : Int32) d0_28 rfl ?_
    refine own_icmpne C d0_29 t0_29 (fun h' => absurd h' (by decide)) (fun _ => ?_)
    refine own_getS C d0_32 (hw _ (List.mem_of_getElem? (i := 25) rfl)) S_INTRAMUSCULAR ?_
    refine own_astoreN C 2 d0_35 rfl rfl rfl rfl ?_
    refine own_iconst C (1 : Int32) d0_36 rfl ?_
    refine own_istore C 5 d0_37 rfl rfl rfl ?_
    refine own_getS C d0_39 (hw _ (List.mem_of_getElem? (i := 25) rfl)) S_INTRAMUSCULAR ?_
    refine own_astoreN C 3 d0_42 rfl rfl rfl rfl ?_
    refine own_goto C d0_43 t0_43 ?_
    refine own_aloadN C d0_138 rfl rfl ?_
    refine own_callV C (own_sng_self l Z a0 hw n0 _ Z0 _ _ S_NOT_APPLICABLE (F_INTRAMUSCULAR_ordinal.ne F_NOT_APPLICABLE_ordinal (by decide)) F_INTRAMUSCULAR_multiple E_INTRAMUSCULAR) E_INTRAMUSCULAR d0_139 (hw _ (List.mem_of_getElem? (i := 4) rfl)) (hw _ (List.mem_of_getElem? (i := 5) rfl)) (hw _ (List.mem_of_getElem? (i := 7) rfl)) (own_nf (args := #[]) C.2.1 (hw _ (List.mem_of_getElem? (i := 7) rfl))) (hw _ (List.mem_of_getElem? (i := 6) rfl)) (hw _ (List.mem_of_getElem? (i := 8) rfl)) (hw _ (List.mem_of_getElem? (i := 2) rfl)) (by decide) pd1 rfl rfl rfl (by decide) (Nat.le_of_ble_eq_true rfl) (by decide) (by decide) ?_
    rintro _ h1 ⟨b, cA, rfl, A⟩
    refine own_astore C 6 d0_142 rfl rfl rfl rfl ?_
    refine own_aload C d0_144 rfl rfl ?_
    refine own_ifnull C d0_146 t0_146 rfl (fun h' => absurd h' nofun) (fun _ => ?_)
    refine own_aload C d0_149 rfl rfl ?_
    refine own_lenA C d0_151 A (z := 1) rfl ?_
    refine own_iload C d0_152 rfl ?_
    refine own_icmpeq C d0_154 t0_154 (fun _ => ?_) (fun h' => absurd h' (by decide))
    refine own_iload C d0_159 rfl ?_
    refine own_iconst C (1 : Int32) d0_161 rfl ?_
    refine own_icmplt C d0_162 t0_162 (fun h' => absurd h' (by decide)) (fun _ => ?_)
    refine own_aload C d0_165 rfl rfl ?_
    refine own_iconst C (0 : Int32) d0_167 rfl ?_
    refine own_ldA C d0_168 A rfl 0 (by decide) rfl rfl ?_
    refine own_aloadN C d0_169 rfl rfl ?_
    refine own_acmpeq C d0_170 t0_170 rfl rfl (fun _ => ?_) (fun h' => absurd h' (fun z => z rfl))
    refine own_iload C d0_175 rfl ?_
    refine own_iconst C (2 : Int32) d0_177 rfl ?_
    refine own_icmplt C d0_178 t0_178 (fun _ => ?_) (fun h' => absurd h' (by decide))
    refine own_iconst C (1 : Int32) d0_192 rfl ?_
    exact own_retZ C d0_193 (Or.inr rfl) (by decide) (by decide) rfl
  · refine own_ifne C d0_14 t0_14 (fun _ => ?_) (fun h' => absurd h' (by decide))
    refine own_iloadN C d0_27 rfl ?_
    refine own_iconst C (1 : Int32) d0_28 rfl ?_
    refine own_icmpne C d0_29 t0_29 (fun _ => ?_) (fun h' => absurd h' (by decide))
    refine own_iloadN C d0_46 rfl ?_
    refine own_iconst C (2 : Int32) d0_47 rfl ?_
    refine own_icmpne C d0_48 t0_48 (fun h' => absurd h' (by decide)) (fun _ => ?_)
    refine own_getS C d0_51 (hw _ (List.mem_of_getElem? (i := 23) rfl)) S_INTRAVENOUS ?_
    refine own_astoreN C 2 d0_54 rfl rfl rfl rfl ?_
    refine own_iconst C (1 : Int32) d0_55 rfl ?_
    refine own_istore C 5 d0_56 rfl rfl rfl ?_
    refine own_getS C d0_58 (hw _ (List.mem_of_getElem? (i := 23) rfl)) S_INTRAVENOUS ?_
    refine own_astoreN C 3 d0_61 rfl rfl rfl rfl ?_
    refine own_goto C d0_62 t0_62 ?_
    refine own_aloadN C d0_138 rfl rfl ?_
    refine own_callV C (own_sng_self l Z a0 hw n0 _ Z0 _ _ S_NOT_APPLICABLE (F_INTRAVENOUS_ordinal.ne F_NOT_APPLICABLE_ordinal (by decide)) F_INTRAVENOUS_multiple E_INTRAVENOUS) E_INTRAVENOUS d0_139 (hw _ (List.mem_of_getElem? (i := 4) rfl)) (hw _ (List.mem_of_getElem? (i := 5) rfl)) (hw _ (List.mem_of_getElem? (i := 7) rfl)) (own_nf (args := #[]) C.2.1 (hw _ (List.mem_of_getElem? (i := 7) rfl))) (hw _ (List.mem_of_getElem? (i := 6) rfl)) (hw _ (List.mem_of_getElem? (i := 8) rfl)) (hw _ (List.mem_of_getElem? (i := 2) rfl)) (by decide) pd1 rfl rfl rfl (by decide) (Nat.le_of_ble_eq_true rfl) (by decide) (by decide) ?_
    rintro _ h1 ⟨b, cA, rfl, A⟩
    refine own_astore C 6 d0_142 rfl rfl rfl rfl ?_
    refine own_aload C d0_144 rfl rfl ?_
    refine own_ifnull C d0_146 t0_146 rfl (fun h' => absurd h' nofun) (fun _ => ?_)
    refine own_aload C d0_149 rfl rfl ?_
    refine own_lenA C d0_151 A (z := 1) rfl ?_
    refine own_iload C d0_152 rfl ?_
    refine own_icmpeq C d0_154 t0_154 (fun _ => ?_) (fun h' => absurd h' (by decide))
    refine own_iload C d0_159 rfl ?_
    refine own_iconst C (1 : Int32) d0_161 rfl ?_
    refine own_icmplt C d0_162 t0_162 (fun h' => absurd h' (by decide)) (fun _ => ?_)
    refine own_aload C d0_165 rfl rfl ?_
    refine own_iconst C (0 : Int32) d0_167 rfl ?_
    refine own_ldA C d0_168 A rfl 0 (by decide) rfl rfl ?_
    refine own_aloadN C d0_169 rfl rfl ?_
    refine own_acmpeq C d0_170 t0_170 rfl rfl (fun _ => ?_) (fun h' => absurd h' (fun z => z rfl))
    refine own_iload C d0_175 rfl ?_
    refine own_iconst C (2 : Int32) d0_177 rfl ?_
    refine own_icmplt C d0_178 t0_178 (fun _ => ?_) (fun h' => absurd h' (by decide))
    refine own_iconst C (1 : Int32) d0_192 rfl ?_
    exact own_retZ C d0_193 (Or.inr rfl) (by decide) (by decide) rfl
  · refine own_ifne C d0_14 t0_14 (fun _ => ?_) (fun h' => absurd h' (by decide))
    refine own_iloadN C d0_27 rfl ?_
    refine own_iconst C (1 : Int32) d0_28 rfl ?_
    refine own_icmpne C d0_29 t0_29 (fun _ => ?_) (fun h' => absurd h' (by decide))
    refine own_iloadN C d0_46 rfl ?_
    refine own_iconst C (2 : Int32) d0_47 rfl ?_
    refine own_icmpne C d0_48 t0_48 (fun _ => ?_) (fun h' => absurd h' (by decide))
    refine own_iloadN C d0_65 rfl ?_
    refine own_iconst C (3 : Int32) d0_66 rfl ?_
    refine own_icmpne C d0_67 t0_67 (fun h' => absurd h' (by decide)) (fun _ => ?_)
    refine own_getS C d0_70 (hw _ (List.mem_of_getElem? (i := 12) rfl)) S_ORAL ?_
    refine own_astoreN C 2 d0_73 rfl rfl rfl rfl ?_
    refine own_iconst C (1 : Int32) d0_74 rfl ?_
    refine own_istore C 5 d0_75 rfl rfl rfl ?_
    refine own_getS C d0_77 (hw _ (List.mem_of_getElem? (i := 12) rfl)) S_ORAL ?_
    refine own_astoreN C 3 d0_80 rfl rfl rfl rfl ?_
    refine own_goto C d0_81 t0_81 ?_
    refine own_aloadN C d0_138 rfl rfl ?_
    refine own_callV C (own_sng_self l Z a0 hw n0 _ Z0 _ _ S_NOT_APPLICABLE (F_ORAL_ordinal.ne F_NOT_APPLICABLE_ordinal (by decide)) F_ORAL_multiple E_ORAL) E_ORAL d0_139 (hw _ (List.mem_of_getElem? (i := 4) rfl)) (hw _ (List.mem_of_getElem? (i := 5) rfl)) (hw _ (List.mem_of_getElem? (i := 7) rfl)) (own_nf (args := #[]) C.2.1 (hw _ (List.mem_of_getElem? (i := 7) rfl))) (hw _ (List.mem_of_getElem? (i := 6) rfl)) (hw _ (List.mem_of_getElem? (i := 8) rfl)) (hw _ (List.mem_of_getElem? (i := 2) rfl)) (by decide) pd1 rfl rfl rfl (by decide) (Nat.le_of_ble_eq_true rfl) (by decide) (by decide) ?_
    rintro _ h1 ⟨b, cA, rfl, A⟩
    refine own_astore C 6 d0_142 rfl rfl rfl rfl ?_
    refine own_aload C d0_144 rfl rfl ?_
    refine own_ifnull C d0_146 t0_146 rfl (fun h' => absurd h' nofun) (fun _ => ?_)
    refine own_aload C d0_149 rfl rfl ?_
    refine own_lenA C d0_151 A (z := 1) rfl ?_
    refine own_iload C d0_152 rfl ?_
    refine own_icmpeq C d0_154 t0_154 (fun _ => ?_) (fun h' => absurd h' (by decide))
    refine own_iload C d0_159 rfl ?_
    refine own_iconst C (1 : Int32) d0_161 rfl ?_
    refine own_icmplt C d0_162 t0_162 (fun h' => absurd h' (by decide)) (fun _ => ?_)
    refine own_aload C d0_165 rfl rfl ?_
    refine own_iconst C (0 : Int32) d0_167 rfl ?_
    refine own_ldA C d0_168 A rfl 0 (by decide) rfl rfl ?_
    refine own_aloadN C d0_169 rfl rfl ?_
    refine own_acmpeq C d0_170 t0_170 rfl rfl (fun _ => ?_) (fun h' => absurd h' (fun z => z rfl))
    refine own_iload C d0_175 rfl ?_
    refine own_iconst C (2 : Int32) d0_177 rfl ?_
    refine own_icmplt C d0_178 t0_178 (fun _ => ?_) (fun h' => absurd h' (by decide))
    refine own_iconst C (1 : Int32) d0_192 rfl ?_
    exact own_retZ C d0_193 (Or.inr rfl) (by decide) (by decide) rfl
  · refine own_ifne C d0_14 t0_14 (fun _ => ?_) (fun h' => absurd h' (by decide))
    refine own_iloadN C d0_27 rfl ?_
    refine own_iconst C (1 : Int32) d0_28 rfl ?_
    refine own_icmpne C d0_29 t0_29 (fun _ => ?_) (fun h' => absurd h' (by decide))
    refine own_iloadN C d0_46 rfl ?_
    refine own_iconst C (2 : Int32) d0_47 rfl ?_
    refine own_icmpne C d0_48 t0_48 (fun _ => ?_) (fun h' => absurd h' (by decide))
    refine own_iloadN C d0_65 rfl ?_
    refine own_iconst C (3 : Int32) d0_66 rfl ?_
    refine own_icmpne C d0_67 t0_67 (fun _ => ?_) (fun h' => absurd h' (by decide))
    refine own_iloadN C d0_84 rfl ?_
    refine own_iconst C (4 : Int32) d0_85 rfl ?_
    refine own_icmpne C d0_86 t0_86 (fun h' => absurd h' (by decide)) (fun _ => ?_)
    refine own_getS C d0_89 (hw _ (List.mem_of_getElem? (i := 21) rfl)) S_PARENTERAL ?_
    refine own_astoreN C 2 d0_92 rfl rfl rfl rfl ?_
    refine own_iconst C (2 : Int32) d0_93 rfl ?_
    refine own_istore C 5 d0_94 rfl rfl rfl ?_
    refine own_getS C d0_96 (hw _ (List.mem_of_getElem? (i := 23) rfl)) S_INTRAVENOUS ?_
    refine own_astoreN C 3 d0_99 rfl rfl rfl rfl ?_
    refine own_getS C d0_100 (hw _ (List.mem_of_getElem? (i := 25) rfl)) S_INTRAMUSCULAR ?_
    refine own_astore C 4 d0_103 rfl rfl rfl rfl ?_
    refine own_goto C d0_105 t0_105 ?_
    refine own_aloadN C d0_138 rfl rfl ?_
    refine own_callV C (own_sng_both l Z a0 hw n0 _ Z0 _ _ _ _ S_NOT_APPLICABLE S_INTRAVENOUS S_INTRAMUSCULAR (F_PARENTERAL_ordinal.ne F_NOT_APPLICABLE_ordinal (by decide)) F_PARENTERAL_multiple E_INTRAVENOUS E_INTRAMUSCULAR) E_PARENTERAL d0_139 (hw _ (List.mem_of_getElem? (i := 4) rfl)) (hw _ (List.mem_of_getElem? (i := 5) rfl)) (hw _ (List.mem_of_getElem? (i := 7) rfl)) (own_nf (args := #[]) C.2.1 (hw _ (List.mem_of_getElem? (i := 7) rfl))) (hw _ (List.mem_of_getElem? (i := 6) rfl)) (hw _ (List.mem_of_getElem? (i := 8) rfl)) (hw _ (List.mem_of_getElem? (i := 2) rfl)) (by decide) pd1 rfl rfl rfl (by decide) (Nat.le_of_ble_eq_true rfl) (by decide) (by decide) ?_
    rintro _ h1 ⟨b, cA, rfl, A⟩
    refine own_astore C 6 d0_142 rfl rfl rfl rfl ?_
    refine own_aload C d0_144 rfl rfl ?_
    refine own_ifnull C d0_146 t0_146 rfl (fun h' => absurd h' nofun) (fun _ => ?_)
    refine own_aload C d0_149 rfl rfl ?_
    refine own_lenA C d0_151 A (z := 2) rfl ?_
    refine own_iload C d0_152 rfl ?_
    refine own_icmpeq C d0_154 t0_154 (fun _ => ?_) (fun h' => absurd h' (by decide))
    refine own_iload C d0_159 rfl ?_
    refine own_iconst C (1 : Int32) d0_161 rfl ?_
    refine own_icmplt C d0_162 t0_162 (fun h' => absurd h' (by decide)) (fun _ => ?_)
    refine own_aload C d0_165 rfl rfl ?_
    refine own_iconst C (0 : Int32) d0_167 rfl ?_
    refine own_ldA C d0_168 A rfl 0 (by decide) rfl rfl ?_
    refine own_aloadN C d0_169 rfl rfl ?_
    refine own_acmpeq C d0_170 t0_170 rfl rfl (fun _ => ?_) (fun h' => absurd h' (fun z => z rfl))
    refine own_iload C d0_175 rfl ?_
    refine own_iconst C (2 : Int32) d0_177 rfl ?_
    refine own_icmplt C d0_178 t0_178 (fun h' => absurd h' (by decide)) (fun _ => ?_)
    refine own_aload C d0_181 rfl rfl ?_
    refine own_iconst C (1 : Int32) d0_183 rfl ?_
    refine own_ldA C d0_184 A rfl 1 (by decide) rfl rfl ?_
    refine own_aload C d0_185 rfl rfl ?_
    refine own_acmpeq C d0_187 t0_187 rfl rfl (fun _ => ?_) (fun h' => absurd h' (fun z => z rfl))
    refine own_iconst C (1 : Int32) d0_192 rfl ?_
    exact own_retZ C d0_193 (Or.inr rfl) (by decide) (by decide) rfl
  · refine own_ifne C d0_14 t0_14 (fun _ => ?_) (fun h' => absurd h' (by decide))
    refine own_iloadN C d0_27 rfl ?_
    refine own_iconst C (1 : Int32) d0_28 rfl ?_
    refine own_icmpne C d0_29 t0_29 (fun _ => ?_) (fun h' => absurd h' (by decide))
    refine own_iloadN C d0_46 rfl ?_
    refine own_iconst C (2 : Int32) d0_47 rfl ?_
    refine own_icmpne C d0_48 t0_48 (fun _ => ?_) (fun h' => absurd h' (by decide))
    refine own_iloadN C d0_65 rfl ?_
    refine own_iconst C (3 : Int32) d0_66 rfl ?_
    refine own_icmpne C d0_67 t0_67 (fun _ => ?_) (fun h' => absurd h' (by decide))
    refine own_iloadN C d0_84 rfl ?_
    refine own_iconst C (4 : Int32) d0_85 rfl ?_
    refine own_icmpne C d0_86 t0_86 (fun _ => ?_) (fun h' => absurd h' (by decide))
    refine own_iloadN C d0_108 rfl ?_
    refine own_iconst C (5 : Int32) d0_109 rfl ?_
    refine own_icmpne C d0_110 t0_110 (fun h' => absurd h' (by decide)) (fun _ => ?_)
    refine own_getS C d0_113 (hw _ (List.mem_of_getElem? (i := 17) rfl)) S_SUBCUTANEOUS ?_
    refine own_astoreN C 2 d0_116 rfl rfl rfl rfl ?_
    refine own_iconst C (1 : Int32) d0_117 rfl ?_
    refine own_istore C 5 d0_118 rfl rfl rfl ?_
    refine own_getS C d0_120 (hw _ (List.mem_of_getElem? (i := 17) rfl)) S_SUBCUTANEOUS ?_
    refine own_astoreN C 3 d0_123 rfl rfl rfl rfl ?_
    refine own_goto C d0_124 t0_124 ?_
    refine own_aloadN C d0_138 rfl rfl ?_
    refine own_callV C (own_sng_self l Z a0 hw n0 _ Z0 _ _ S_NOT_APPLICABLE (F_SUBCUTANEOUS_ordinal.ne F_NOT_APPLICABLE_ordinal (by decide)) F_SUBCUTANEOUS_multiple E_SUBCUTANEOUS) E_SUBCUTANEOUS d0_139 (hw _ (List.mem_of_getElem? (i := 4) rfl)) (hw _ (List.mem_of_getElem? (i := 5) rfl)) (hw _ (List.mem_of_getElem? (i := 7) rfl)) (own_nf (args := #[]) C.2.1 (hw _ (List.mem_of_getElem? (i := 7) rfl))) (hw _ (List.mem_of_getElem? (i := 6) rfl)) (hw _ (List.mem_of_getElem? (i := 8) rfl)) (hw _ (List.mem_of_getElem? (i := 2) rfl)) (by decide) pd1 rfl rfl rfl (by decide) (Nat.le_of_ble_eq_true rfl) (by decide) (by decide) ?_
    rintro _ h1 ⟨b, cA, rfl, A⟩
    refine own_astore C 6 d0_142 rfl rfl rfl rfl ?_
    refine own_aload C d0_144 rfl rfl ?_
    refine own_ifnull C d0_146 t0_146 rfl (fun h' => absurd h' nofun) (fun _ => ?_)
    refine own_aload C d0_149 rfl rfl ?_
    refine own_lenA C d0_151 A (z := 1) rfl ?_
    refine own_iload C d0_152 rfl ?_
    refine own_icmpeq C d0_154 t0_154 (fun _ => ?_) (fun h' => absurd h' (by decide))
    refine own_iload C d0_159 rfl ?_
    refine own_iconst C (1 : Int32) d0_161 rfl ?_
    refine own_icmplt C d0_162 t0_162 (fun h' => absurd h' (by decide)) (fun _ => ?_)
    refine own_aload C d0_165 rfl rfl ?_
    refine own_iconst C (0 : Int32) d0_167 rfl ?_
    refine own_ldA C d0_168 A rfl 0 (by decide) rfl rfl ?_
    refine own_aloadN C d0_169 rfl rfl ?_
    refine own_acmpeq C d0_170 t0_170 rfl rfl (fun _ => ?_) (fun h' => absurd h' (fun z => z rfl))
    refine own_iload C d0_175 rfl ?_
    refine own_iconst C (2 : Int32) d0_177 rfl ?_
    refine own_icmplt C d0_178 t0_178 (fun _ => ?_) (fun h' => absurd h' (by decide))
    refine own_iconst C (1 : Int32) d0_192 rfl ?_
    exact own_retZ C d0_193 (Or.inr rfl) (by decide) (by decide) rfl
  · refine own_ifne C d0_14 t0_14 (fun _ => ?_) (fun h' => absurd h' (by decide))
    refine own_iloadN C d0_27 rfl ?_
    refine own_iconst C (1 : Int32) d0_28 rfl ?_
    refine own_icmpne C d0_29 t0_29 (fun _ => ?_) (fun h' => absurd h' (by decide))
    refine own_iloadN C d0_46 rfl ?_
    refine own_iconst C (2 : Int32) d0_47 rfl ?_
    refine own_icmpne C d0_48 t0_48 (fun _ => ?_) (fun h' => absurd h' (by decide))
    refine own_iloadN C d0_65 rfl ?_
    refine own_iconst C (3 : Int32) d0_66 rfl ?_
    refine own_icmpne C d0_67 t0_67 (fun _ => ?_) (fun h' => absurd h' (by decide))
    refine own_iloadN C d0_84 rfl ?_
    refine own_iconst C (4 : Int32) d0_85 rfl ?_
    refine own_icmpne C d0_86 t0_86 (fun _ => ?_) (fun h' => absurd h' (by decide))
    refine own_iloadN C d0_108 rfl ?_
    refine own_iconst C (5 : Int32) d0_109 rfl ?_
    refine own_icmpne C d0_110 t0_110 (fun _ => ?_) (fun h' => absurd h' (by decide))
    refine own_getS C d0_127 (hw _ (List.mem_of_getElem? (i := 19) rfl)) S_RECTAL ?_
    refine own_astoreN C 2 d0_130 rfl rfl rfl rfl ?_
    refine own_iconst C (1 : Int32) d0_131 rfl ?_
    refine own_istore C 5 d0_132 rfl rfl rfl ?_
    refine own_getS C d0_134 (hw _ (List.mem_of_getElem? (i := 19) rfl)) S_RECTAL ?_
    refine own_astoreN C 3 d0_137 rfl rfl rfl rfl ?_
    refine own_aloadN C d0_138 rfl rfl ?_
    refine own_callV C (own_sng_self l Z a0 hw n0 _ Z0 _ _ S_NOT_APPLICABLE (F_RECTAL_ordinal.ne F_NOT_APPLICABLE_ordinal (by decide)) F_RECTAL_multiple E_RECTAL) E_RECTAL d0_139 (hw _ (List.mem_of_getElem? (i := 4) rfl)) (hw _ (List.mem_of_getElem? (i := 5) rfl)) (hw _ (List.mem_of_getElem? (i := 7) rfl)) (own_nf (args := #[]) C.2.1 (hw _ (List.mem_of_getElem? (i := 7) rfl))) (hw _ (List.mem_of_getElem? (i := 6) rfl)) (hw _ (List.mem_of_getElem? (i := 8) rfl)) (hw _ (List.mem_of_getElem? (i := 2) rfl)) (by decide) pd1 rfl rfl rfl (by decide) (Nat.le_of_ble_eq_true rfl) (by decide) (by decide) ?_
    rintro _ h1 ⟨b, cA, rfl, A⟩
    refine own_astore C 6 d0_142 rfl rfl rfl rfl ?_
    refine own_aload C d0_144 rfl rfl ?_
    refine own_ifnull C d0_146 t0_146 rfl (fun h' => absurd h' nofun) (fun _ => ?_)
    refine own_aload C d0_149 rfl rfl ?_
    refine own_lenA C d0_151 A (z := 1) rfl ?_
    refine own_iload C d0_152 rfl ?_
    refine own_icmpeq C d0_154 t0_154 (fun _ => ?_) (fun h' => absurd h' (by decide))
    refine own_iload C d0_159 rfl ?_
    refine own_iconst C (1 : Int32) d0_161 rfl ?_
    refine own_icmplt C d0_162 t0_162 (fun h' => absurd h' (by decide)) (fun _ => ?_)
    refine own_aload C d0_165 rfl rfl ?_
    refine own_iconst C (0 : Int32) d0_167 rfl ?_
    refine own_ldA C d0_168 A rfl 0 (by decide) rfl rfl ?_
    refine own_aloadN C d0_169 rfl rfl ?_
    refine own_acmpeq C d0_170 t0_170 rfl rfl (fun _ => ?_) (fun h' => absurd h' (fun z => z rfl))
    refine own_iload C d0_175 rfl ?_
    refine own_iconst C (2 : Int32) d0_177 rfl ?_
    refine own_icmplt C d0_178 t0_178 (fun _ => ?_) (fun h' => absurd h' (by decide))
    refine own_iconst C (1 : Int32) d0_192 rfl ?_
    exact own_retZ C d0_193 (Or.inr rfl) (by decide) (by decide) rfl
set_option maxRecDepth 65536 in
set_option maxHeartbeats 40000000 in
theorem comes_1 {Post : Tables → Env → Array Value → State → Outcome → State → Prop} (hpost : ∀ tb e args s v u, (limb_1_1.after args s (.returned v) u = true ∧ limb_1_2.after args s (.returned v) u = true ∧ True) → FrameEnd s (.returned v) u (Jvm.fieldLocs frame_1_writes args s ++ Jvm.arrayLocs frame_1_arrays args s ++ Jvm.staticLocs frame_1_statics s) 16 128 → Post tb e args s (.returned v) u) :
    ArmFor flags0 classFile x code maxLocals ret World_1 tables_1 room_1 Calls_1 rest_1 Pre_1 Post := by
  intro l hfl _ _ p e ha hc hk s m args below hf hA hF happ hP
  obtain ⟨hcalls, hrest, hpre⟩ := hP
  obtain ⟨-, -, -, hnamed, -, -, -, hat⟩ := (Spec.applies_iff hf).mp happ
  obtain ⟨hg, hn⟩ := and_e (Cond.before_iff.mp (show (Jvm.Cond.and given_1 narrow_1).before args s = true from hpre))
  obtain ⟨hg0, hg1⟩ := and_e hg
  obtain ⟨w0, rfl⟩ : ∃ w0 : Value, args = #[w0] := by
    have hs : args.size = 1 := by simpa [Cond.value, given_1] using hg0
    obtain ⟨L⟩ := args
    match L, hs with
    | [w0], _ => exact ⟨w0, rfl⟩
  have hw := fun d (hd : d ∈ tables_1) => atoms_spec (ws := Jvm.Cond.code x code maxLocals ret :: tables_1) hat d (List.mem_cons_of_mem _ hd)
  have hfit : Fit s := fun {y c} hc i hi => by
    obtain ⟨ha, rfl⟩ := Array.getElem?_eq_some_iff.mp hc
    have q := List.all_eq_true.mp ((Array.all_eq_true_iff_forall_mem.mp hF) _ (Array.getElem_mem ha)) i (List.mem_range.mpr hi)
    simpa [Array.getElem?_eq_getElem hi] using q
  obtain ⟨i0, ea0⟩ := is_v hg1
  obtain rfl : w0 = (.int i0) := Option.some.inj ea0
  obtain ⟨hc0, hr0⟩ := and_e hn
  obtain ⟨hc1, hr1⟩ := and_e hr0
  obtain ⟨hc2, hr2⟩ := and_e hr1
  obtain ⟨hc3, hr3⟩ := and_e hr2
  obtain ⟨hc4, hr4⟩ := and_e hr3
  obtain ⟨hc5, hr5⟩ := and_e hr4
  obtain ⟨hc6, hr6⟩ := and_e hr5
  obtain ⟨hc7, hr7⟩ := and_e hr6
  obtain ⟨hc8, hr8⟩ := and_e hr7
  obtain ⟨hc9, hr9⟩ := and_e hr8
  obtain ⟨hc10, hr10⟩ := and_e hr9
  obtain ⟨hc11, hr11⟩ := and_e hr10
  obtain ⟨hc12, hr12⟩ := and_e hr11
  obtain ⟨hc13, hr13⟩ := and_e hr12
  obtain ⟨hc14, hr14⟩ := and_e hr13
  obtain ⟨hc15, hr15⟩ := and_e hr14
  obtain ⟨hc16, hr16⟩ := and_e hr15
  obtain ⟨hc17, hr17⟩ := and_e hr16
  obtain ⟨hc18, hr18⟩ := and_e hr17
  obtain ⟨hc19, hr19⟩ := and_e hr18
  obtain ⟨a_NOT_APPLICABLE, ev_NOT_APPLICABLE⟩ := exa_v hc0
  have S_NOT_APPLICABLE : Sta s s.heap "com/example/medwacht/medwacht/bench/MadeRoute" "NOT_APPLICABLE" "Lcom/example/medwacht/medwacht/bench/MadeRoute;" (.ref a_NOT_APPLICABLE) := Sta.start ev_NOT_APPLICABLE (Or.inr ⟨(hw _ (List.mem_of_getElem? (i := 2) rfl)), (hw _ (List.mem_of_getElem? (i := 3) rfl))⟩)
  have E_NOT_APPLICABLE : Exa s s.heap a_NOT_APPLICABLE "com/example/medwacht/medwacht/bench/MadeRoute" := Exa.start ev_NOT_APPLICABLE hc0
  obtain ⟨a_ORAL, ev_ORAL⟩ := exa_v hc1
  have S_ORAL : Sta s s.heap "com/example/medwacht/medwacht/bench/MadeRoute" "ORAL" "Lcom/example/medwacht/medwacht/bench/MadeRoute;" (.ref a_ORAL) := Sta.start ev_ORAL (Or.inr ⟨(hw _ (List.mem_of_getElem? (i := 2) rfl)), (hw _ (List.mem_of_getElem? (i := 13) rfl))⟩)
  have E_ORAL : Exa s s.heap a_ORAL "com/example/medwacht/medwacht/bench/MadeRoute" := Exa.start ev_ORAL hc1
  obtain ⟨a_SUBCUTANEOUS, ev_SUBCUTANEOUS⟩ := exa_v hc5
  have S_SUBCUTANEOUS : Sta s s.heap "com/example/medwacht/medwacht/bench/MadeRoute" "SUBCUTANEOUS" "Lcom/example/medwacht/medwacht/bench/MadeRoute;" (.ref a_SUBCUTANEOUS) := Sta.start ev_SUBCUTANEOUS (Or.inr ⟨(hw _ (List.mem_of_getElem? (i := 2) rfl)), (hw _ (List.mem_of_getElem? (i := 18) rfl))⟩)
  have E_SUBCUTANEOUS : Exa s s.heap a_SUBCUTANEOUS "com/example/medwacht/medwacht/bench/MadeRoute" := Exa.start ev_SUBCUTANEOUS hc5
  obtain ⟨a_RECTAL, ev_RECTAL⟩ := exa_v hc8
  have S_RECTAL : Sta s s.heap "com/example/medwacht/medwacht/bench/MadeRoute" "RECTAL" "Lcom/example/medwacht/medwacht/bench/MadeRoute;" (.ref a_RECTAL) := Sta.start ev_RECTAL (Or.inr ⟨(hw _ (List.mem_of_getElem? (i := 2) rfl)), (hw _ (List.mem_of_getElem? (i := 20) rfl))⟩)
  have E_RECTAL : Exa s s.heap a_RECTAL "com/example/medwacht/medwacht/bench/MadeRoute" := Exa.start ev_RECTAL hc8
  obtain ⟨a_PARENTERAL, ev_PARENTERAL⟩ := exa_v hc11
  have S_PARENTERAL : Sta s s.heap "com/example/medwacht/medwacht/bench/MadeRoute" "PARENTERAL" "Lcom/example/medwacht/medwacht/bench/MadeRoute;" (.ref a_PARENTERAL) := Sta.start ev_PARENTERAL (Or.inr ⟨(hw _ (List.mem_of_getElem? (i := 2) rfl)), (hw _ (List.mem_of_getElem? (i := 22) rfl))⟩)
  have E_PARENTERAL : Exa s s.heap a_PARENTERAL "com/example/medwacht/medwacht/bench/MadeRoute" := Exa.start ev_PARENTERAL hc11
  obtain ⟨a_INTRAVENOUS, ev_INTRAVENOUS⟩ := exa_v hc12
  have S_INTRAVENOUS : Sta s s.heap "com/example/medwacht/medwacht/bench/MadeRoute" "INTRAVENOUS" "Lcom/example/medwacht/medwacht/bench/MadeRoute;" (.ref a_INTRAVENOUS) := Sta.start ev_INTRAVENOUS (Or.inr ⟨(hw _ (List.mem_of_getElem? (i := 2) rfl)), (hw _ (List.mem_of_getElem? (i := 24) rfl))⟩)
  have E_INTRAVENOUS : Exa s s.heap a_INTRAVENOUS "com/example/medwacht/medwacht/bench/MadeRoute" := Exa.start ev_INTRAVENOUS hc12
  obtain ⟨a_INTRAMUSCULAR, ev_INTRAMUSCULAR⟩ := exa_v hc13
  have S_INTRAMUSCULAR : Sta s s.heap "com/example/medwacht/medwacht/bench/MadeRoute" "INTRAMUSCULAR" "Lcom/example/medwacht/medwacht/bench/MadeRoute;" (.ref a_INTRAMUSCULAR) := Sta.start ev_INTRAMUSCULAR (Or.inr ⟨(hw _ (List.mem_of_getElem? (i := 2) rfl)), (hw _ (List.mem_of_getElem? (i := 26) rfl))⟩)
  have E_INTRAMUSCULAR : Exa s s.heap a_INTRAMUSCULAR "com/example/medwacht/medwacht/bench/MadeRoute" := Exa.start ev_INTRAMUSCULAR hc13
  have F_ORAL_ordinal : Fld s s.heap a_ORAL "java/lang/Enum" "ordinal" "I" (.int (3 : Int32)) := own_fld hc2 ev_ORAL rfl
  have F_NOT_APPLICABLE_ordinal : Fld s s.heap a_NOT_APPLICABLE "java/lang/Enum" "ordinal" "I" (.int (0 : Int32)) := own_fld hc3 ev_NOT_APPLICABLE rfl
  have F_ORAL_multiple : Fld s s.heap a_ORAL "com/example/medwacht/medwacht/bench/MadeRoute" "multiple" "Z" (.int (0 : Int32)) := own_fld hc4 ev_ORAL rfl
  have F_SUBCUTANEOUS_ordinal : Fld s s.heap a_SUBCUTANEOUS "java/lang/Enum" "ordinal" "I" (.int (5 : Int32)) := own_fld hc6 ev_SUBCUTANEOUS rfl
  have F_SUBCUTANEOUS_multiple : Fld s s.heap a_SUBCUTANEOUS "com/example/medwacht/medwacht/bench/MadeRoute" "multiple" "Z" (.int (0 : Int32)) := own_fld hc7 ev_SUBCUTANEOUS rfl
  have F_RECTAL_ordinal : Fld s s.heap a_RECTAL "java/lang/Enum" "ordinal" "I" (.int (6 : Int32)) := own_fld hc9 ev_RECTAL rfl
  have F_RECTAL_multiple : Fld s s.heap a_RECTAL "com/example/medwacht/medwacht/bench/MadeRoute" "multiple" "Z" (.int (0 : Int32)) := own_fld hc10 ev_RECTAL rfl
  have F_PARENTERAL_ordinal : Fld s s.heap a_PARENTERAL "java/lang/Enum" "ordinal" "I" (.int (4 : Int32)) := own_fld hc14 ev_PARENTERAL rfl
  have F_PARENTERAL_multiple : Fld s s.heap a_PARENTERAL "com/example/medwacht/medwacht/bench/MadeRoute" "multiple" "Z" (.int (1 : Int32)) := own_fld hc15 ev_PARENTERAL rfl
  have F_INTRAVENOUS_ordinal : Fld s s.heap a_INTRAVENOUS "java/lang/Enum" "ordinal" "I" (.int (2 : Int32)) := own_fld hc16 ev_INTRAVENOUS rfl
  have F_INTRAVENOUS_multiple : Fld s s.heap a_INTRAVENOUS "com/example/medwacht/medwacht/bench/MadeRoute" "multiple" "Z" (.int (0 : Int32)) := own_fld hc17 ev_INTRAVENOUS rfl
  have F_INTRAMUSCULAR_ordinal : Fld s s.heap a_INTRAMUSCULAR "java/lang/Enum" "ordinal" "I" (.int (1 : Int32)) := own_fld hc18 ev_INTRAMUSCULAR rfl
  have F_INTRAMUSCULAR_multiple : Fld s s.heap a_INTRAMUSCULAR "com/example/medwacht/medwacht/bench/MadeRoute" "multiple" "Z" (.int (0 : Int32)) := own_fld hc19 ev_INTRAMUSCULAR rfl
  have F_NOT_APPLICABLE_multiple : Fld s s.heap a_NOT_APPLICABLE "com/example/medwacht/medwacht/bench/MadeRoute" "multiple" "Z" (.int (0 : Int32)) := own_fld hr19 ev_NOT_APPLICABLE rfl
  obtain ⟨n, o, h1, h2, h3, _, L, rfl, ⟨rfl, N⟩, hq⟩ := own_main (ws := tables_1) (own_law l s _ hw s.heap.size s.heap i0 (Nat.le_refl _) a_NOT_APPLICABLE S_NOT_APPLICABLE E_NOT_APPLICABLE a_ORAL S_ORAL E_ORAL a_SUBCUTANEOUS S_SUBCUTANEOUS E_SUBCUTANEOUS a_RECTAL S_RECTAL E_RECTAL a_PARENTERAL S_PARENTERAL E_PARENTERAL a_INTRAVENOUS S_INTRAVENOUS E_INTRAVENOUS a_INTRAMUSCULAR S_INTRAMUSCULAR E_INTRAMUSCULAR F_ORAL_ordinal F_NOT_APPLICABLE_ordinal F_ORAL_multiple F_SUBCUTANEOUS_ordinal F_SUBCUTANEOUS_multiple F_RECTAL_ordinal F_RECTAL_multiple F_PARENTERAL_ordinal F_PARENTERAL_multiple F_INTRAVENOUS_ordinal F_INTRAVENOUS_multiple F_INTRAMUSCULAR_ordinal F_INTRAMUSCULAR_multiple F_NOT_APPLICABLE_multiple) p e ha hc hk s m _ below hf ((Spec.applies_iff_loose hf).mp happ).1 ⟨rfl, State.Warmed39.refl s, rfl⟩ trivial
  refine ⟨n, _, h1, h2, h3, hpost _ _ _ _ _ _ ⟨Cond.after_iff.mpr rfl, Cond.after_iff.mpr (eq_i res_at (Term.int_eval (1)) rfl), trivial⟩ ⟨hq.1, hq.2.1, (hq.2.2.sift fun y hy => Or.inr (N y hy)).mono (by decide) (by decide)⟩⟩
theorem main_1_1 : Claimed_1_1 := comes_1 fun _ _ _ _ _ _ h hF => ⟨h.1, hF⟩
theorem main_1_2 : Claimed_1_2 := comes_1 fun _ _ _ _ _ _ h hF => ⟨h.2.1, hF⟩
end Jvm.Pilot.@@N@@
namespace Jvm.Pilot.@@N@@
open Jvm Jvm.ClassFile Sem Op Lib Jvm.Free Jvm.Stand Jvm.Pilot.@@N@@.Jvm.D
/-! MADE BY PROGRAM (witnessworld.py) out of the Statement's table words and the real class files: 13 classes; the members and pool entries that the words name. The judged class is class 1, her method 1. -/
namespace start1
open Jvm.ClassFile
def u (s : String) : CpInfo := .utf8 (stringToUtf16 s)
/-- a pool by its gaps: so many unusable entries, then the entry; so many at the end -/
def gap : Nat → List CpInfo → List CpInfo
  | 0, r => r
  | n + 1, r => .unusable :: gap n r
def poolList (es : List (Nat × CpInfo)) (last : Nat) : List CpInfo := es.foldr (fun e r => gap e.1 (e.2 :: r)) (gap last [])
def pool (es : List (Nat × CpInfo)) (last : Nat) : Array CpInfo := ⟨poolList es last⟩
def fileOf (pool : Array CpInfo) (this : Nat) (attrs : Array Attribute := #[]) (ms : Array MethodInfo := #[]) (fl : Nat := 33) (sup : Nat := 0) (ifs : Array Nat := #[]) (fds : Array FieldInfo := #[]) : ClassFile where
  minorVersion := 0
  majorVersion := 65
  constantPool := pool
  accessFlags := fl
  thisClass := this
  superClass := sup
  interfaces := ifs
  fields := fds
  methods := ms
  attributes := attrs
def plain (name : String) (sup : Option ClassId) : Class where
  name := name
  kind := .ordinary
  loader := none
  accessFlags := 33
  super := sup
  interfaces := #[]
  cf := none
  fields := #[]
  methods := #[]
  instanceTypes := #[]
  staticTypes := #[]
  resolved := #[]
  callSites := []
  init := .initialized
  statics := none
  mirror := none

def pool0 : Array CpInfo := pool [(5, u "<init>"), (0, u "()V"), (1, .class_ 10), (1, u "java/lang/Object")] 113

def k0m0 : Method := { name := "<init>", desc := "()V", sig := { parameters := [], returnType := none }, accessFlags := 1, code := none }
/-- java/lang/Object -/
def k0 : Class := { plain "java/lang/Object" none with
  accessFlags := 33
  interfaces := #[]
  cf := some (fileOf pool0 8 #[] #[{ accessFlags := 1, nameIndex := 5, descriptorIndex := 6, attributes := #[] }] 33 0 #[] #[])
  fields := #[]
  methods := #[k0m0]
  instanceTypes := #[]
  staticTypes := #[]
  resolved := Array.replicate 124 none
  statics := none }

def pool1 : Array CpInfo := pool [(2, .class_ 4), (1, u "java/lang/Object"), (0, u "<init>"), (0, u "()V"), (0, .integer 2147483647), (0, .fieldref 9 10), (0, .class_ 11), (0, .nameAndType 12 13), (0, u "com/example/medwacht/medwacht/bench/MadeRoute"), (0, u "NOT_APPLICABLE"), (0, u "Lcom/example/medwacht/medwacht/bench/MadeRoute;"), (0, .fieldref 9 15), (0, .nameAndType 16 13), (0, u "INTRAMUSCULAR"), (0, .fieldref 9 18), (0, .nameAndType 19 13), (0, u "INTRAVENOUS"), (0, .fieldref 9 21), (0, .nameAndType 22 13), (0, u "ORAL"), (0, .fieldref 9 24), (0, .nameAndType 25 13), (0, u "PARENTERAL"), (0, .fieldref 9 27), (0, .nameAndType 28 13), (0, u "SUBCUTANEOUS"), (0, .fieldref 9 30), (0, .nameAndType 31 13), (0, u "RECTAL"), (0, .methodref 9 33), (0, .nameAndType 34 35), (0, u "singles"), (0, u "()[Lcom/example/medwacht/medwacht/bench/MadeRoute;"), (0, .class_ 37), (0, u "com/example/medwacht/medwacht/bench/MadeRouteSinglesPinLaw"), (2, u "law"), (0, u "(I)Z")] 5

def k1m0 : Method := { name := "<init>", desc := "()V", sig := { parameters := [], returnType := none }, accessFlags := 2, code := none }
def k1c1 : Code := { maxStack := 2, maxLocals := 7, code := code, exceptionTable := #[], attributes := #[] }
def k1m1 : Method := { name := "law", desc := "(I)Z", sig := { parameters := [.int], returnType := some .boolean }, accessFlags := 9, code := some k1c1 }
/-- com/example/medwacht/medwacht/bench/MadeRouteSinglesPinLaw -/
def k1 : Class := { plain "com/example/medwacht/medwacht/bench/MadeRouteSinglesPinLaw" (some 0) with
  accessFlags := 49
  interfaces := #[]
  cf := some (fileOf pool1 36 #[] #[{ accessFlags := 2, nameIndex := 5, descriptorIndex := 6, attributes := #[] }, { accessFlags := 9, nameIndex := 40, descriptorIndex := 41, attributes := #[] }] 49 2 #[] #[])
  fields := #[]
  methods := #[k1m0, k1m1]
  instanceTypes := #[]
  staticTypes := #[]
  resolved := Array.replicate 47 none
  statics := none }

def pool2 : Array CpInfo := pool [(1, .class_ 2), (0, u "java/lang/constant/Constable"), (0, .class_ 4), (0, u "java/lang/Object")] 6

/-- java/lang/constant/Constable -/
def k2 : Class := { plain "java/lang/constant/Constable" (some 0) with
  accessFlags := 1537
  interfaces := #[]
  cf := some (fileOf pool2 1 #[] #[] 1537 3 #[] #[])
  fields := #[]
  methods := #[]
  instanceTypes := #[]
  staticTypes := #[]
  resolved := Array.replicate 11 none
  statics := none }

def pool3 : Array CpInfo := pool [(1, .class_ 2), (0, u "java/lang/Comparable"), (0, .class_ 4), (0, u "java/lang/Object")] 7

/-- java/lang/Comparable -/
def k3 : Class := { plain "java/lang/Comparable" (some 0) with
  accessFlags := 1537
  interfaces := #[]
  cf := some (fileOf pool3 1 #[] #[] 1537 3 #[] #[])
  fields := #[]
  methods := #[]
  instanceTypes := #[]
  staticTypes := #[]
  resolved := Array.replicate 12 none
  statics := none }

def pool4 : Array CpInfo := pool [(1, .class_ 2), (0, u "java/io/Serializable"), (0, .class_ 4), (0, u "java/lang/Object")] 2

/-- java/io/Serializable -/
def k4 : Class := { plain "java/io/Serializable" (some 0) with
  accessFlags := 1537
  interfaces := #[]
  cf := some (fileOf pool4 1 #[] #[] 1537 3 #[] #[])
  fields := #[]
  methods := #[]
  instanceTypes := #[]
  staticTypes := #[]
  resolved := Array.replicate 7 none
  statics := none }

def pool5 : Array CpInfo := pool [(2, .class_ 4), (1, u "java/lang/Enum"), (0, u "name"), (0, u "Ljava/lang/String;"), (2, u "ordinal"), (0, u "I"), (1, .class_ 14), (1, u "java/lang/Object"), (4, u "hash"), (86, .class_ 108), (1, u "java/lang/Enum$EnumDesc"), (2, .class_ 112), (0, u "java/lang/constant/Constable"), (0, .class_ 114), (0, u "java/lang/Comparable"), (0, .class_ 116), (0, u "java/io/Serializable")] 87

/-- java/lang/Enum -/
def k5 : Class := { plain "java/lang/Enum" (some 0) with
  accessFlags := 1057
  interfaces := #[2, 3, 4]
  cf := some (fileOf pool5 2 #[.nestMembers #[106]] #[] 1057 12 #[111, 113, 115] #[{ accessFlags := 18, nameIndex := 5, descriptorIndex := 6, attributes := #[] }, { accessFlags := 18, nameIndex := 9, descriptorIndex := 10, attributes := #[] }, { accessFlags := 2, nameIndex := 19, descriptorIndex := 10, attributes := #[] }])
  fields := #[{ name := "name", type := (.object "java/lang/String"), accessFlags := 18, slot := 0, constantValue := 0 }, { name := "ordinal", type := .int, accessFlags := 18, slot := 1, constantValue := 0 }, { name := "hash", type := .int, accessFlags := 2, slot := 2, constantValue := 0 }]
  methods := #[]
  instanceTypes := #[(.object "java/lang/String"), .int, .int]
  staticTypes := #[]
  resolved := Array.replicate 204 none
  statics := none }

def pool6 : Array CpInfo := pool [(1, .class_ 2), (0, u "com/example/medwacht/medwacht/bench/MadeRoute"), (0, .fieldref 1 4), (0, .nameAndType 5 6), (0, u "NOT_APPLICABLE"), (0, u "Lcom/example/medwacht/medwacht/bench/MadeRoute;"), (0, .fieldref 1 8), (0, .nameAndType 9 6), (0, u "INTRAMUSCULAR"), (0, .fieldref 1 11), (0, .nameAndType 12 6), (0, u "INTRAVENOUS"), (2, u "ORAL"), (2, u "PARENTERAL"), (2, u "SUBCUTANEOUS"), (2, u "RECTAL"), (2, u "$VALUES"), (0, u "[Lcom/example/medwacht/medwacht/bench/MadeRoute;"), (6, .class_ 37), (1, u "java/lang/Enum"), (8, u "item"), (0, u "J"), (2, u "name"), (0, u "Ljava/lang/String;"), (0, .fieldref 1 53), (0, .nameAndType 54 55), (0, u "multiple"), (0, u "Z"), (55, u "()[Lcom/example/medwacht/medwacht/bench/MadeRoute;"), (11, u "singles")] 10

def k6c0 : Code := { maxStack := 4, maxLocals := 1, code := prog_15_method_7_code, exceptionTable := #[], attributes := #[] }
def k6m0 : Method := { name := "singles", desc := "()[Lcom/example/medwacht/medwacht/bench/MadeRoute;", sig := { parameters := [], returnType := some (.array (.object "com/example/medwacht/medwacht/bench/MadeRoute")) }, accessFlags := 0, code := some k6c0 }
/-- com/example/medwacht/medwacht/bench/MadeRoute -/
def k6 : Class := { plain "com/example/medwacht/medwacht/bench/MadeRoute" (some 5) with
  accessFlags := 16432
  interfaces := #[]
  cf := some (fileOf pool6 1 #[] #[{ accessFlags := 0, nameIndex := 123, descriptorIndex := 111, attributes := #[] }] 16432 35 #[] #[{ accessFlags := 16409, nameIndex := 5, descriptorIndex := 6, attributes := #[] }, { accessFlags := 16409, nameIndex := 9, descriptorIndex := 6, attributes := #[] }, { accessFlags := 16409, nameIndex := 12, descriptorIndex := 6, attributes := #[] }, { accessFlags := 16409, nameIndex := 15, descriptorIndex := 6, attributes := #[] }, { accessFlags := 16409, nameIndex := 18, descriptorIndex := 6, attributes := #[] }, { accessFlags := 16409, nameIndex := 21, descriptorIndex := 6, attributes := #[] }, { accessFlags := 16409, nameIndex := 24, descriptorIndex := 6, attributes := #[] }, { accessFlags := 18, nameIndex := 46, descriptorIndex := 47, attributes := #[] }, { accessFlags := 18, nameIndex := 50, descriptorIndex := 51, attributes := #[] }, { accessFlags := 18, nameIndex := 54, descriptorIndex := 55, attributes := #[] }, { accessFlags := 4122, nameIndex := 27, descriptorIndex := 28, attributes := #[] }])
  fields := #[{ name := "NOT_APPLICABLE", type := (.object "com/example/medwacht/medwacht/bench/MadeRoute"), accessFlags := 16409, slot := 0, constantValue := 0 }, { name := "INTRAMUSCULAR", type := (.object "com/example/medwacht/medwacht/bench/MadeRoute"), accessFlags := 16409, slot := 1, constantValue := 0 }, { name := "INTRAVENOUS", type := (.object "com/example/medwacht/medwacht/bench/MadeRoute"), accessFlags := 16409, slot := 2, constantValue := 0 }, { name := "ORAL", type := (.object "com/example/medwacht/medwacht/bench/MadeRoute"), accessFlags := 16409, slot := 3, constantValue := 0 }, { name := "PARENTERAL", type := (.object "com/example/medwacht/medwacht/bench/MadeRoute"), accessFlags := 16409, slot := 4, constantValue := 0 }, { name := "SUBCUTANEOUS", type := (.object "com/example/medwacht/medwacht/bench/MadeRoute"), accessFlags := 16409, slot := 5, constantValue := 0 }, { name := "RECTAL", type := (.object "com/example/medwacht/medwacht/bench/MadeRoute"), accessFlags := 16409, slot := 6, constantValue := 0 }, { name := "item", type := .long, accessFlags := 18, slot := 3, constantValue := 0 }, { name := "name", type := (.object "java/lang/String"), accessFlags := 18, slot := 4, constantValue := 0 }, { name := "multiple", type := .boolean, accessFlags := 18, slot := 5, constantValue := 0 }, { name := "$VALUES", type := (.array (.object "com/example/medwacht/medwacht/bench/MadeRoute")), accessFlags := 4122, slot := 7, constantValue := 0 }]
  methods := #[k6m0]
  instanceTypes := #[(.object "java/lang/String"), .int, .int, .long, (.object "java/lang/String"), .boolean]
  staticTypes := #[(.object "com/example/medwacht/medwacht/bench/MadeRoute"), (.object "com/example/medwacht/medwacht/bench/MadeRoute"), (.object "com/example/medwacht/medwacht/bench/MadeRoute"), (.object "com/example/medwacht/medwacht/bench/MadeRoute"), (.object "com/example/medwacht/medwacht/bench/MadeRoute"), (.object "com/example/medwacht/medwacht/bench/MadeRoute"), (.object "com/example/medwacht/medwacht/bench/MadeRoute"), (.array (.object "com/example/medwacht/medwacht/bench/MadeRoute"))]
  resolved := Array.replicate 134 none
  statics := some 0 }

def pool7 : Array CpInfo := pool [(1, u "java/lang/Cloneable"), (0, .class_ 1), (0, u "java/lang/Object"), (0, .class_ 3)] 3

/-- java/lang/Cloneable -/
def k7 : Class := { plain "java/lang/Cloneable" (some 0) with
  accessFlags := 1537
  interfaces := #[]
  cf := some (fileOf pool7 2 #[] #[] 1537 4 #[] #[])
  fields := #[]
  methods := #[]
  instanceTypes := #[]
  staticTypes := #[]
  resolved := Array.replicate 8 none
  statics := none }

/-- the primitive byte -/
def k8 : Class := { plain "byte" none with kind := .primitive 'B', accessFlags := 0x411 }
/-- [B -/
def k9 : Class := { plain "[B" (some 0) with kind := .array 8 .byte, interfaces := #[7, 4], accessFlags := 1041 }

/-- the primitive int -/
def k10 : Class := { plain "int" none with kind := .primitive 'I', accessFlags := 0x411 }
/-- [I -/
def k11 : Class := { plain "[I" (some 0) with kind := .array 10 .int, interfaces := #[7, 4], accessFlags := 1041 }

/-- [Lcom/example/medwacht/medwacht/bench/MadeRoute; -/
def k12 : Class := { plain "[Lcom/example/medwacht/medwacht/bench/MadeRoute;" (some 0) with kind := .array 6 (.object "com/example/medwacht/medwacht/bench/MadeRoute"), interfaces := #[7, 4], accessFlags := 1041 }

def heap : Heap := #[{ cls := 6, slots := #[.ref 1, .ref 2, .ref 3, .ref 4, .ref 5, .ref 6, .ref 7, .null], vm := .statics 6 },
  { cls := 6, slots := #[.null, .int 0, .int 0, .long 0, .null, .int 0], vm := .none },
  { cls := 6, slots := #[.null, .int 1, .int 0, .long 0, .null, .int 0], vm := .none },
  { cls := 6, slots := #[.null, .int 2, .int 0, .long 0, .null, .int 0], vm := .none },
  { cls := 6, slots := #[.null, .int 3, .int 0, .long 0, .null, .int 0], vm := .none },
  { cls := 6, slots := #[.null, .int 4, .int 0, .long 0, .null, .int 1], vm := .none },
  { cls := 6, slots := #[.null, .int 5, .int 0, .long 0, .null, .int 0], vm := .none },
  { cls := 6, slots := #[.null, .int 6, .int 0, .long 0, .null, .int 0], vm := .none }]
def classes : Array Class := #[k0, k1, k2, k3, k4, k5, k6, k7, k8, k9, k10, k11, k12]
def interned : List (Array UInt16 × Addr) := []
def slotsUsed : Nat := 50
def theMethod : MethodId := ⟨1, 1⟩
def args0 : Array Value := #[.int 5]
def aboutOver (below : List Frame) : State where
  vm := { classes := classes, interned := interned.toArray }
  heap := heap
  slotsUsed := slotsUsed
  threads := #[{ frames := .invoking theMethod args0 :: below }]
def below0 : List Frame := [.native { method := ⟨0, 0⟩, args := #[] }]
def about1 : State := aboutOver below0
def p0 : Program := .bare "" "" ""
def e0 : Env := launch0.env 0 0 0
theorem w_frames : about1.frames = Frame.invoking theMethod args0 :: below0 := rfl
set_option maxRecDepth 65536 in
theorem w_args : argsFit about1.vm theMethod args0 = true := by decide +kernel
set_option maxRecDepth 65536 in
theorem w_heap : heapFits about1 = true := by decide +kernel
set_option maxRecDepth 65536 in
theorem w_runnable : about1.curStatus? = some .runnable := by decide +kernel
set_option maxRecDepth 65536 in
theorem w_alone : about1.alone = true := by decide +kernel
set_option maxRecDepth 65536 in
theorem w_named : about1.methodNamed? x = some theMethod := by decide +kernel
set_option maxRecDepth 65536 in
theorem w_hears : about1.hears theMethod below0 = true := by decide +kernel
set_option maxRecDepth 65536 in
theorem w_ripe : about1.ripe theMethod args0 below0 = true := by decide +kernel
theorem w_running : about1.status = .running := rfl
set_option maxRecDepth 65536 in
theorem w_room : about1.hasRoom e0.platform room_1 = true :=
  launch0.hasRoom_least _ room_1 (by decide +kernel) (by decide +kernel) (by decide +kernel) (by decide +kernel) (by decide +kernel) (by decide +kernel)
theorem allAtoms_all (ts : List Jvm.Cond) (a : Array Jvm.Value) (st : Jvm.State) : (allAtoms ts).before a st = ts.all (fun c => c.before a st) := by
  induction ts with
  | nil => rfl
  | cons c t ih =>
    show (Jvm.Cond.and c (allAtoms t)).before a st = _
    rw [Jvm.Cond.before_and, ih, List.all_cons]
def words1 : List Jvm.Cond := Jvm.Cond.code x code maxLocals ret :: tables_1
/-- a 'code' word, met by the world's own term for the bytes: nothing is compared byte by byte -/
theorem code_word {y : MethodName} {bytes : ByteArray} {mx : Nat} {rt : Option FieldType} {a : Array Value} {s : State} {m : MethodId} {meth : Method} {c : Code} (h1 : s.methodNamed? y = some m) (h2 : s.vm.method? m = some meth) (h3 : meth.code = some c) (h4 : c.code = bytes)
    (h5 : (c.maxLocals == mx && c.exceptionTable.isEmpty && decide (c.maxStack ≤ mostOperands) && decide (meth.sig.returnType = rt) && !meth.locks && decide (parseMethodDescriptor y.desc = some meth.sig)) = true) : (Jvm.Cond.code y bytes mx rt).before a s = true := by
  simp only [Bool.and_eq_true, beq_iff_eq, Bool.not_eq_true', decide_eq_true_eq] at h5
  obtain ⟨⟨⟨⟨⟨g1, g2⟩, g3⟩, g4⟩, g5⟩, g6⟩ := h5
  simp [Cond.before, Cond.holds, Cond.value, h1, h2, h3, h4, g1, g2, g3, g4, g5, g6]
def isCode : Jvm.Cond → Bool
  | .code _ _ _ _ => true
  | _ => false
theorem all_split {L : List Jvm.Cond} {P : Jvm.Cond → Bool} (h1 : L.all (fun c => isCode c || P c) = true) (h2 : ∀ c ∈ L.filter isCode, P c = true) : L.all P = true := by
  refine List.all_eq_true.mpr fun c hc => ?_
  have h := List.all_eq_true.mp h1 c hc
  rcases Bool.eq_false_or_eq_true (isCode c) with hi | hi
  · exact h2 c (List.mem_filter.mpr ⟨hc, hi⟩)
  · simpa [hi] using h
set_option maxRecDepth 65536 in
theorem w_c0 : (Jvm.Cond.code x code maxLocals ret).before args0 about1 = true := code_word (m := ⟨1, 1⟩) (meth := k1m1) (c := k1c1) (by decide +kernel) rfl rfl rfl (by decide +kernel)
set_option maxRecDepth 65536 in
theorem w_c1 : (Jvm.Cond.code ({ cls := "com/example/medwacht/medwacht/bench/MadeRoute", name := "singles", desc := "()[Lcom/example/medwacht/medwacht/bench/MadeRoute;" } : Jvm.MethodName) prog_15_method_7_code (1 : Nat) (Option.some (Jvm.ClassFile.FieldType.array (Jvm.ClassFile.FieldType.object "com/example/medwacht/medwacht/bench/MadeRoute")))).before args0 about1 = true := code_word (m := ⟨6, 0⟩) (meth := k6m0) (c := k6c0) (by decide +kernel) rfl rfl rfl (by decide +kernel)
def codes1 : List Jvm.Cond := [Jvm.Cond.code x code maxLocals ret, Jvm.Cond.code ({ cls := "com/example/medwacht/medwacht/bench/MadeRoute", name := "singles", desc := "()[Lcom/example/medwacht/medwacht/bench/MadeRoute;" } : Jvm.MethodName) prog_15_method_7_code (1 : Nat) (Option.some (Jvm.ClassFile.FieldType.array (Jvm.ClassFile.FieldType.object "com/example/medwacht/medwacht/bench/MadeRoute")))]
set_option maxRecDepth 65536 in
theorem codes_eq : words1.filter isCode = codes1 := rfl
theorem w_codes : ∀ c ∈ words1.filter isCode, c.before args0 about1 = true := by
  rw [codes_eq]
  intro c hc
  simp only [codes1, List.mem_cons, List.not_mem_nil, or_false] at hc
  rcases hc with rfl | rfl
  · exact w_c0
  · exact w_c1
set_option maxRecDepth 65536 in
theorem w_t1 : (words1.take 24).all (fun c => isCode c || c.before args0 about1) = true := by decide +kernel
set_option maxRecDepth 65536 in
theorem w_t2 : (words1.drop 24).all (fun c => isCode c || c.before args0 about1) = true := by decide +kernel
theorem w_tables : (allAtoms (Jvm.Cond.code x code maxLocals ret :: tables_1)).before args0 about1 = true := by
  rw [allAtoms_all]
  show words1.all (fun c => c.before args0 about1) = true
  refine all_split ?_ w_codes
  rw [← List.take_append_drop 24 words1, List.all_append, w_t1, w_t2]
  rfl
set_option maxRecDepth 65536 in
theorem w_case : (Jvm.Cond.and given_1 narrow_1).before args0 about1 = true := by decide +kernel
theorem w_applies : (headSpec (Jvm.Cond.code x code maxLocals ret :: tables_1) room_1).applies x e0.platform about1 = true :=
  (Spec.applies_iff w_frames).mpr ⟨w_running, w_runnable, w_alone, w_named, w_hears, w_ripe, w_room, w_tables⟩
theorem atStart : AtStart classFile x code maxLocals ret World_1 tables_1 room_1 Calls_1 rest_1 Pre_1 launch0 p0 e0 about1 theMethod args0 below0 :=
  ⟨lists_1, trivial, launch0.admits_env _ _ _, launch0.least_env, fairChoices_fair.cas, fairChoices_fair.clock, w_frames, w_args, w_heap, w_applies, trivial, trivial, w_case⟩
end start1
theorem witness_1 : WitnessClaimed_1 := ⟨start1.p0, start1.e0, start1.about1, start1.theMethod, start1.args0, start1.below0, start1.atStart⟩
end Jvm.Pilot.@@N@@
