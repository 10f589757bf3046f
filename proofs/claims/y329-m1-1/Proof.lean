import JvmDerived
import JvmDerived.Pilot.@@N@@Statement
import JvmDerived.Pilot.@@N@@Code
set_option linter.unusedVariables false
set_option linter.unusedSimpArgs false
namespace Jvm.RoadKit
open Sem ClassFile Op Lib Jvm.Stand Jvm.Free Jvm.LawKit
section OwnKit
/-- what stands fast while one body is walked -/
def own_Cx (p : Program) (l : Launch) (e : Env) (R : Room) (s : State) (m : MethodId) (args : Array Value) (below : List Frame) (meth : Method) (c : Code) (Z : State) (own nm : String) (bytes : ByteArray) (maxL : Nat) (ret : Option FieldType) : Prop :=
  p.tables.exec = Jvm.exec ∧ Z.Warmed39 s.vm ∧ s.vm.findClass own = some m.cls ∧ c.code = bytes ∧ c.maxLocals = maxL ∧ meth.sig.returnType = ret ∧ meth.locks = false ∧ meth.name = nm
/-- from here the body comes to its end, and Q holds of what it returns and of the heap -/
def own_Go (p : Program) (l : Launch) (e : Env) (R : Room) (s : State) (m : MethodId) (args : Array Value) (below : List Frame) (meth : Method) (c : Code) (n0 : Nat) (Q : Option Value → State → List Loc → Prop) (cells slots : Nat) (h : Heap) (pc : Nat) (Ls : List Slot) (st : List Value) : Prop :=
  ∀ (T : State) (locs : List Loc) (ce sl : Nat), ce ≤ cells → sl ≤ slots → Fr n0 locs → Stand p l e R s m args below meth c T locs ce sl → T.heap = h →
    ∃ s₂ o, Steps p.tables e below (T.setTop (mkF m pc Ls.toArray st)) s₂ ∧ s₂.status = .running ∧ Ended s₂ below o ∧ ∃ v L, o = .returned v ∧ Q v s₂ L
/-- the plain end: what is returned, the heap, what was written, the frame -/
def own_N (s : State) (n0 : Nat) (R : Room) (Q : Option Value → Heap → Prop) (v : Option Value) (t : State) (L : List Loc) : Prop := (Q v t.heap ∧ Fr n0 L) ∧ FrameEnd s (.returned v) t L R.cells R.slots
/-- an instruction and the place behind it -/
def own_D (bytes : ByteArray) (pc : Nat) (i : Instr) (n pn : Nat) : Prop := decode bytes pc = .ok (i, n) ∧ pc + n = pn
/-- where a branch leads -/
def own_T (pc : Nat) (o : Int) (pt : Nat) : Prop := 0 ≤ (pc : Int) + o ∧ ((pc : Int) + o).toNat = pt
/-- a body's contract, over the start's tables Z and the heap h -/
def own_Con (l : Launch) (Z : State) (y : MethodName) (bytes : ByteArray) (maxL : Nat) (ret : Option FieldType) (rm : Room) (n0 : Nat) (as' : List Value) (h : Heap) (Q : Option Value → Heap → Prop) : Prop :=
  ∀ ws : List Jvm.Cond, MetFree l y (head1 (Jvm.Cond.code y bytes maxL ret :: ws) rm) (fun a U => a = as'.toArray ∧ Z.Warmed39 U.vm ∧ U.heap = h) (fun _ _ _ _ _ => True) (fun _ U o U' => ∃ v L, o = .returned v ∧ (Q v U'.heap ∧ Fr n0 L) ∧ FrameEnd U o U' L rm.cells rm.slots)
variable {p : Program} {l : Launch} {e : Env} {R : Room} {s : State} {m : MethodId} {args : Array Value} {below : List Frame} {meth : Method} {c : Code} {Z : State} {a0 : Array Value} {h : Heap} {own nm : String} {bytes : ByteArray} {maxL : Nat} {ret : Option FieldType} {n0 cells slots pc pn pt : Nat} {Q : Option Value → State → List Loc → Prop} {Qn : Option Value → Heap → Prop} {Ls : List Slot} {st rest : List Value}
theorem own_Con.mk {y : MethodName} {rm : Room} {as' : List Value} (hpn : plainFor y = true) (hef : ∀ m, entryFrame m as'.toArray maxL = mkF m 0 Ls.toArray [])
    (body : ∀ p e s m below meth c, own_Cx p l e rm s m as'.toArray below meth c Z y.cls y.name bytes maxL ret → own_Go p l e rm s m as'.toArray below meth c n0 (own_N s n0 rm Qn) 0 0 h 0 Ls []) : own_Con l Z y bytes maxL ret rm n0 as' h Qn := by
  intro ws
  refine MetFree.of_bodySF hpn hisR ?_
  intro p e s m args below meth c s₁ Bd hml0 hP hK
  obtain ⟨rfl, hZ, hh⟩ := hP
  have X0 : Stand p l e rm s m as'.toArray below meth c s₁ [] 0 0 := Stand.of_body Bd
  have e0 : s₁.heap = h := by rw [← hh, Bd.state]; rfl
  obtain ⟨s₂, o, h1, h2, h3, v, L, rfl, h4⟩ := body p e s m below meth c ⟨Bd.exec, hZ, findClass_of_methodNamed Bd.named, Bd.bytes, hml0, Bd.returns, Bd.notSynchronized, (name_of_methodNamed Bd.named Bd.method).1⟩ s₁ [] 0 0 (Nat.le_refl _) (Nat.le_refl _) (Fr.nil n0) X0 e0
  exact ⟨s₂, _, castTop (hef m) h1, h2, h3, v, L, rfl, h4⟩
theorem own_Con.imp {y : MethodName} {rm : Room} {as' : List Value} {Q' : Option Value → Heap → Prop} (K : own_Con l Z y bytes maxL ret rm n0 as' h Qn) (q : ∀ v h', Qn v h' → Q' v h') : own_Con l Z y bytes maxL ret rm n0 as' h Q' := by
  intro ws p e ha hc hk s m args below hf happ hP hK
  obtain ⟨n, o, h1, h2, h3, v, L, h4, h5, h6⟩ := K ws p e ha hc hk s m args below hf happ hP hK
  exact ⟨n, o, h1, h2, h3, v, L, h4, ⟨q _ _ h5.1, h5.2⟩, h6⟩
theorem own_step {pc' : Nat} {Ls' : List Slot} {st' : List Value} (H : ∀ (T : State) (locs : List Loc) (ce sl : Nat), Stand p l e R s m args below meth c T locs ce sl → ∀ target, Steps p.tables e below (T.setTop (mkF m pc' Ls'.toArray st')) target → Steps p.tables e below (T.setTop (mkF m pc Ls.toArray st)) target)
    (k : own_Go p l e R s m args below meth c n0 Q cells slots h pc' Ls' st') : own_Go p l e R s m args below meth c n0 Q cells slots h pc Ls st := by
  intro T locs ce sl hc hs hf X eT
  obtain ⟨s₂, o, h1, h2⟩ := k T locs ce sl hc hs hf X eT
  exact ⟨s₂, o, H T locs ce sl X _ h1, h2⟩
theorem own_warm {pc' : Nat} {Ls' : List Slot} {st' : List Value} (H : ∀ (T : State) (locs : List Loc) (ce sl : Nat), Stand p l e R s m args below meth c T locs ce sl → T.heap = h → ∃ T', Stand p l e R s m args below meth c T' locs ce sl ∧ T'.heap = h ∧ ∀ target, Steps p.tables e below (T'.setTop (mkF m pc' Ls'.toArray st')) target → Steps p.tables e below (T.setTop (mkF m pc Ls.toArray st)) target)
    (k : own_Go p l e R s m args below meth c n0 Q cells slots h pc' Ls' st') : own_Go p l e R s m args below meth c n0 Q cells slots h pc Ls st := by
  intro T locs ce sl hc hs hf X eT
  obtain ⟨T', X', eT', H'⟩ := H T locs ce sl X eT
  obtain ⟨s₂, o, h1, h2⟩ := k T' locs ce sl hc hs hf X' eT'
  exact ⟨s₂, o, H' _ h1, h2⟩
theorem own_Go.more {cells' slots' : Nat} (hc : cells ≤ cells') (hs : slots ≤ slots') (k : own_Go p l e R s m args below meth c n0 Q cells' slots' h pc Ls st) : own_Go p l e R s m args below meth c n0 Q cells slots h pc Ls st :=
  fun T locs ce sl h1 h2 hf X eT => k T locs ce sl (Nat.le_trans h1 hc) (Nat.le_trans h2 hs) hf X eT
theorem own_Go.cast {pc' : Nat} {Ls' : List Slot} {st' : List Value} (k : own_Go p l e R s m args below meth c n0 Q cells slots h pc' Ls' st') (e1 : pc = pc' := by rfl) (e2 : Ls = Ls' := by rfl) (e3 : st = st' := by rfl) : own_Go p l e R s m args below meth c n0 Q cells slots h pc Ls st := by
  subst e1 e2 e3; exact k
theorem own_aloadN (C : own_Cx p l e R s m args below meth c Z own nm bytes maxL ret) {i : Fin 4} {v : Value} (d : own_D bytes pc (.aload_n i) 1 pn) (hl : Ls[i.val]? = some (.val v)) (hv : v.isRef = true) (k : own_Go p l e R s m args below meth c n0 Q cells slots h pn Ls (v :: st)) : own_Go p l e R s m args below meth c n0 Q cells slots h pc Ls st := by
  obtain ⟨hd, rfl⟩ := d
  exact own_step (fun T locs ce sl X t r => XS.aloadN X.here C.1 rfl (hb C.2.2.2.1 hd) (by simpa using hl) hv r) k
theorem own_aload (C : own_Cx p l e R s m args below meth c Z own nm bytes maxL ret) {i : Nat} {v : Value} (d : own_D bytes pc (.aload i) 2 pn) (hl : Ls[i]? = some (.val v)) (hv : v.isRef = true) (k : own_Go p l e R s m args below meth c n0 Q cells slots h pn Ls (v :: st)) : own_Go p l e R s m args below meth c n0 Q cells slots h pc Ls st := by
  obtain ⟨hd, rfl⟩ := d
  exact own_step (fun T locs ce sl X t r => XS.aload X.here C.1 rfl (hb C.2.2.2.1 hd) (by simpa using hl) hv r) k
theorem own_iloadN (C : own_Cx p l e R s m args below meth c Z own nm bytes maxL ret) {i : Fin 4} {v : Int32} (d : own_D bytes pc (.iload_n i) 1 pn) (hl : Ls[i.val]? = some (.val (.int v))) (k : own_Go p l e R s m args below meth c n0 Q cells slots h pn Ls (.int v :: st)) : own_Go p l e R s m args below meth c n0 Q cells slots h pc Ls st := by
  obtain ⟨hd, rfl⟩ := d
  exact own_step (fun T locs ce sl X t r => XS.iloadN X.here C.1 rfl (hb C.2.2.2.1 hd) (by simpa using hl) r) k
theorem own_iload (C : own_Cx p l e R s m args below meth c Z own nm bytes maxL ret) {i : Nat} {v : Int32} (d : own_D bytes pc (.iload i) 2 pn) (hl : Ls[i]? = some (.val (.int v))) (k : own_Go p l e R s m args below meth c n0 Q cells slots h pn Ls (.int v :: st)) : own_Go p l e R s m args below meth c n0 Q cells slots h pc Ls st := by
  obtain ⟨hd, rfl⟩ := d
  exact own_step (fun T locs ce sl X t r => XS.iload X.here C.1 rfl (hb C.2.2.2.1 hd) (by simpa using hl) r) k
theorem own_lloadN (C : own_Cx p l e R s m args below meth c Z own nm bytes maxL ret) {i : Fin 4} {v : Int64} (d : own_D bytes pc (.lload_n i) 1 pn) (hl : Ls[i.val]? = some (.val (.long v))) (k : own_Go p l e R s m args below meth c n0 Q cells slots h pn Ls (.long v :: st)) : own_Go p l e R s m args below meth c n0 Q cells slots h pc Ls st := by
  obtain ⟨hd, rfl⟩ := d
  exact own_step (fun T locs ce sl X t r => XS.lloadN X.here C.1 rfl (hb C.2.2.2.1 hd) (by simpa using hl) r) k
theorem own_lload (C : own_Cx p l e R s m args below meth c Z own nm bytes maxL ret) {i : Nat} {v : Int64} (d : own_D bytes pc (.lload i) 2 pn) (hl : Ls[i]? = some (.val (.long v))) (k : own_Go p l e R s m args below meth c n0 Q cells slots h pn Ls (.long v :: st)) : own_Go p l e R s m args below meth c n0 Q cells slots h pc Ls st := by
  obtain ⟨hd, rfl⟩ := d
  exact own_step (fun T locs ce sl X t r => XS.lload X.here C.1 rfl (hb C.2.2.2.1 hd) (by simpa using hl) r) k
theorem own_iconst (C : own_Cx p l e R s m args below meth c Z own nm bytes maxL ret) {i : Int} (v : Int32) (d : own_D bytes pc (.iconst i) 1 pn) (hv : Int32.ofInt i = v) (k : own_Go p l e R s m args below meth c n0 Q cells slots h pn Ls (.int v :: st)) : own_Go p l e R s m args below meth c n0 Q cells slots h pc Ls st := by
  obtain ⟨hd, rfl⟩ := d
  exact own_step (fun T locs ce sl X t r => XS.iconst X.here C.1 rfl (hb C.2.2.2.1 hd) (by rw [hv]; exact r)) k
theorem own_bipush (C : own_Cx p l e R s m args below meth c Z own nm bytes maxL ret) {i : Int} (v : Int32) (d : own_D bytes pc (.bipush i) 2 pn) (hv : (Int8.ofInt i).toInt32 = v) (k : own_Go p l e R s m args below meth c n0 Q cells slots h pn Ls (.int v :: st)) : own_Go p l e R s m args below meth c n0 Q cells slots h pc Ls st := by
  obtain ⟨hd, rfl⟩ := d
  exact own_step (fun T locs ce sl X t r => XS.bipush X.here C.1 rfl (hb C.2.2.2.1 hd) (by rw [hv]; exact r)) k
theorem own_sipush (C : own_Cx p l e R s m args below meth c Z own nm bytes maxL ret) {i : Int} (v : Int32) (d : own_D bytes pc (.sipush i) 3 pn) (hv : (Int16.ofInt i).toInt32 = v) (k : own_Go p l e R s m args below meth c n0 Q cells slots h pn Ls (.int v :: st)) : own_Go p l e R s m args below meth c n0 Q cells slots h pc Ls st := by
  obtain ⟨hd, rfl⟩ := d
  exact own_step (fun T locs ce sl X t r => XS.sipush X.here C.1 rfl (hb C.2.2.2.1 hd) (by rw [hv]; exact r)) k
theorem own_lconst (C : own_Cx p l e R s m args below meth c Z own nm bytes maxL ret) {i : Fin 2} (v : Int64) (d : own_D bytes pc (.lconst i) 1 pn) (hv : Int64.ofNat i = v) (k : own_Go p l e R s m args below meth c n0 Q cells slots h pn Ls (.long v :: st)) : own_Go p l e R s m args below meth c n0 Q cells slots h pc Ls st := by
  obtain ⟨hd, rfl⟩ := d
  exact own_step (fun T locs ce sl X t r => XS.lconst X.here C.1 rfl (hb C.2.2.2.1 hd) (by rw [hv]; exact r)) k
theorem own_aconst_null (C : own_Cx p l e R s m args below meth c Z own nm bytes maxL ret)  (d : own_D bytes pc (.aconst_null) 1 pn)  (k : own_Go p l e R s m args below meth c n0 Q cells slots h pn Ls (.null :: st)) : own_Go p l e R s m args below meth c n0 Q cells slots h pc Ls st := by
  obtain ⟨hd, rfl⟩ := d
  exact own_step (fun T locs ce sl X t r => XS.aconstNull X.here C.1 rfl (hb C.2.2.2.1 hd) r) k
theorem own_iadd (C : own_Cx p l e R s m args below meth c Z own nm bytes maxL ret) {x y : Int32} (d : own_D bytes pc (.iadd) 1 pn)  (k : own_Go p l e R s m args below meth c n0 Q cells slots h pn Ls (.int (x + y) :: st)) : own_Go p l e R s m args below meth c n0 Q cells slots h pc Ls (.int y :: .int x :: st) := by
  obtain ⟨hd, rfl⟩ := d
  exact own_step (fun T locs ce sl X t r => XS.iadd X.here C.1 rfl (hb C.2.2.2.1 hd) rfl r) k
theorem own_isub (C : own_Cx p l e R s m args below meth c Z own nm bytes maxL ret) {x y : Int32} (d : own_D bytes pc (.isub) 1 pn)  (k : own_Go p l e R s m args below meth c n0 Q cells slots h pn Ls (.int (x - y) :: st)) : own_Go p l e R s m args below meth c n0 Q cells slots h pc Ls (.int y :: .int x :: st) := by
  obtain ⟨hd, rfl⟩ := d
  exact own_step (fun T locs ce sl X t r => XS.isub X.here C.1 rfl (hb C.2.2.2.1 hd) rfl r) k
theorem own_imul (C : own_Cx p l e R s m args below meth c Z own nm bytes maxL ret) {x y : Int32} (d : own_D bytes pc (.imul) 1 pn)  (k : own_Go p l e R s m args below meth c n0 Q cells slots h pn Ls (.int (x * y) :: st)) : own_Go p l e R s m args below meth c n0 Q cells slots h pc Ls (.int y :: .int x :: st) := by
  obtain ⟨hd, rfl⟩ := d
  exact own_step (fun T locs ce sl X t r => XS.imul X.here C.1 rfl (hb C.2.2.2.1 hd) rfl r) k
theorem own_iand (C : own_Cx p l e R s m args below meth c Z own nm bytes maxL ret) {x y : Int32} (d : own_D bytes pc (.iand) 1 pn)  (k : own_Go p l e R s m args below meth c n0 Q cells slots h pn Ls (.int (x &&& y) :: st)) : own_Go p l e R s m args below meth c n0 Q cells slots h pc Ls (.int y :: .int x :: st) := by
  obtain ⟨hd, rfl⟩ := d
  exact own_step (fun T locs ce sl X t r => XS.iand X.here C.1 rfl (hb C.2.2.2.1 hd) rfl r) k
theorem own_ior (C : own_Cx p l e R s m args below meth c Z own nm bytes maxL ret) {x y : Int32} (d : own_D bytes pc (.ior) 1 pn)  (k : own_Go p l e R s m args below meth c n0 Q cells slots h pn Ls (.int (x ||| y) :: st)) : own_Go p l e R s m args below meth c n0 Q cells slots h pc Ls (.int y :: .int x :: st) := by
  obtain ⟨hd, rfl⟩ := d
  exact own_step (fun T locs ce sl X t r => XS.ior X.here C.1 rfl (hb C.2.2.2.1 hd) rfl r) k
theorem own_ixor (C : own_Cx p l e R s m args below meth c Z own nm bytes maxL ret) {x y : Int32} (d : own_D bytes pc (.ixor) 1 pn)  (k : own_Go p l e R s m args below meth c n0 Q cells slots h pn Ls (.int (x ^^^ y) :: st)) : own_Go p l e R s m args below meth c n0 Q cells slots h pc Ls (.int y :: .int x :: st) := by
  obtain ⟨hd, rfl⟩ := d
  exact own_step (fun T locs ce sl X t r => XS.ixor X.here C.1 rfl (hb C.2.2.2.1 hd) rfl r) k
theorem own_ladd (C : own_Cx p l e R s m args below meth c Z own nm bytes maxL ret) {x y : Int64} (d : own_D bytes pc (.ladd) 1 pn)  (k : own_Go p l e R s m args below meth c n0 Q cells slots h pn Ls (.long (x + y) :: st)) : own_Go p l e R s m args below meth c n0 Q cells slots h pc Ls (.long y :: .long x :: st) := by
  obtain ⟨hd, rfl⟩ := d
  exact own_step (fun T locs ce sl X t r => XS.ladd X.here C.1 rfl (hb C.2.2.2.1 hd) rfl r) k
theorem own_lsub (C : own_Cx p l e R s m args below meth c Z own nm bytes maxL ret) {x y : Int64} (d : own_D bytes pc (.lsub) 1 pn)  (k : own_Go p l e R s m args below meth c n0 Q cells slots h pn Ls (.long (x - y) :: st)) : own_Go p l e R s m args below meth c n0 Q cells slots h pc Ls (.long y :: .long x :: st) := by
  obtain ⟨hd, rfl⟩ := d
  exact own_step (fun T locs ce sl X t r => XS.lsub X.here C.1 rfl (hb C.2.2.2.1 hd) rfl r) k
theorem own_land (C : own_Cx p l e R s m args below meth c Z own nm bytes maxL ret) {x y : Int64} (d : own_D bytes pc (.land) 1 pn)  (k : own_Go p l e R s m args below meth c n0 Q cells slots h pn Ls (.long (x &&& y) :: st)) : own_Go p l e R s m args below meth c n0 Q cells slots h pc Ls (.long y :: .long x :: st) := by
  obtain ⟨hd, rfl⟩ := d
  exact own_step (fun T locs ce sl X t r => XS.land X.here C.1 rfl (hb C.2.2.2.1 hd) rfl r) k
theorem own_lor (C : own_Cx p l e R s m args below meth c Z own nm bytes maxL ret) {x y : Int64} (d : own_D bytes pc (.lor) 1 pn)  (k : own_Go p l e R s m args below meth c n0 Q cells slots h pn Ls (.long (x ||| y) :: st)) : own_Go p l e R s m args below meth c n0 Q cells slots h pc Ls (.long y :: .long x :: st) := by
  obtain ⟨hd, rfl⟩ := d
  exact own_step (fun T locs ce sl X t r => XS.lor X.here C.1 rfl (hb C.2.2.2.1 hd) rfl r) k
theorem own_lxor (C : own_Cx p l e R s m args below meth c Z own nm bytes maxL ret) {x y : Int64} (d : own_D bytes pc (.lxor) 1 pn)  (k : own_Go p l e R s m args below meth c n0 Q cells slots h pn Ls (.long (x ^^^ y) :: st)) : own_Go p l e R s m args below meth c n0 Q cells slots h pc Ls (.long y :: .long x :: st) := by
  obtain ⟨hd, rfl⟩ := d
  exact own_step (fun T locs ce sl X t r => XS.lxor X.here C.1 rfl (hb C.2.2.2.1 hd) rfl r) k
theorem own_ishl (C : own_Cx p l e R s m args below meth c Z own nm bytes maxL ret) {x y : Int32} (d : own_D bytes pc (.ishl) 1 pn)  (k : own_Go p l e R s m args below meth c n0 Q cells slots h pn Ls (.int (x <<< (y &&& 31)) :: st)) : own_Go p l e R s m args below meth c n0 Q cells slots h pc Ls (.int y :: .int x :: st) := by
  obtain ⟨hd, rfl⟩ := d
  exact own_step (fun T locs ce sl X t r => XS.ishl X.here C.1 rfl (hb C.2.2.2.1 hd) rfl r) k
theorem own_ishr (C : own_Cx p l e R s m args below meth c Z own nm bytes maxL ret) {x y : Int32} (d : own_D bytes pc (.ishr) 1 pn)  (k : own_Go p l e R s m args below meth c n0 Q cells slots h pn Ls (.int (x >>> (y &&& 31)) :: st)) : own_Go p l e R s m args below meth c n0 Q cells slots h pc Ls (.int y :: .int x :: st) := by
  obtain ⟨hd, rfl⟩ := d
  exact own_step (fun T locs ce sl X t r => XS.ishr X.here C.1 rfl (hb C.2.2.2.1 hd) rfl r) k
theorem own_iushr (C : own_Cx p l e R s m args below meth c Z own nm bytes maxL ret) {x y : Int32} (d : own_D bytes pc (.iushr) 1 pn)  (k : own_Go p l e R s m args below meth c n0 Q cells slots h pn Ls (.int ((x.toUInt32 >>> (y &&& 31).toUInt32).toInt32) :: st)) : own_Go p l e R s m args below meth c n0 Q cells slots h pc Ls (.int y :: .int x :: st) := by
  obtain ⟨hd, rfl⟩ := d
  exact own_step (fun T locs ce sl X t r => XS.iushr X.here C.1 rfl (hb C.2.2.2.1 hd) rfl r) k
theorem own_ineg (C : own_Cx p l e R s m args below meth c Z own nm bytes maxL ret) {x : Int32} (d : own_D bytes pc (.ineg) 1 pn)  (k : own_Go p l e R s m args below meth c n0 Q cells slots h pn Ls (.int (-x) :: st)) : own_Go p l e R s m args below meth c n0 Q cells slots h pc Ls (.int x :: st) := by
  obtain ⟨hd, rfl⟩ := d
  exact own_step (fun T locs ce sl X t r => XS.ineg X.here C.1 rfl (hb C.2.2.2.1 hd) rfl r) k
theorem own_irem (C : own_Cx p l e R s m args below meth c Z own nm bytes maxL ret) {x y : Int32} (d : own_D bytes pc (.irem) 1 pn) (hy : y ≠ 0) (k : own_Go p l e R s m args below meth c n0 Q cells slots h pn Ls (.int (x % y) :: st)) : own_Go p l e R s m args below meth c n0 Q cells slots h pc Ls (.int y :: .int x :: st) := by
  obtain ⟨hd, rfl⟩ := d
  exact own_step (fun T locs ce sl X t r => iremM X C.1 rfl (hb C.2.2.2.1 hd) rfl hy r) k
theorem own_lcmp (C : own_Cx p l e R s m args below meth c Z own nm bytes maxL ret) {x y : Int64} (d : own_D bytes pc (.lcmp) 1 pn)  (k : own_Go p l e R s m args below meth c n0 Q cells slots h pn Ls (.int (lcmpW x y) :: st)) : own_Go p l e R s m args below meth c n0 Q cells slots h pc Ls (.long y :: .long x :: st) := by
  obtain ⟨hd, rfl⟩ := d
  exact own_step (fun T locs ce sl X t r => XS.lcmp X.here C.1 rfl (hb C.2.2.2.1 hd) rfl r) k
theorem own_dup (C : own_Cx p l e R s m args below meth c Z own nm bytes maxL ret) {x : Value} (d : own_D bytes pc (.dup) 1 pn) (hc : x.category = 1) (k : own_Go p l e R s m args below meth c n0 Q cells slots h pn Ls (x :: x :: st)) : own_Go p l e R s m args below meth c n0 Q cells slots h pc Ls (x :: st) := by
  obtain ⟨hd, rfl⟩ := d
  exact own_step (fun T locs ce sl X t r => XS.dup X.here C.1 rfl (hb C.2.2.2.1 hd) rfl hc r) k
theorem own_dupX1 (C : own_Cx p l e R s m args below meth c Z own nm bytes maxL ret) {x y : Value} (d : own_D bytes pc (.dup_x1) 1 pn) (hc : x.category = 1) (hc' : y.category = 1) (k : own_Go p l e R s m args below meth c n0 Q cells slots h pn Ls (x :: y :: x :: st)) : own_Go p l e R s m args below meth c n0 Q cells slots h pc Ls (x :: y :: st) := by
  obtain ⟨hd, rfl⟩ := d
  exact own_step (fun T locs ce sl X t r => XS.dupX1 X.here C.1 rfl (hb C.2.2.2.1 hd) rfl hc hc' r) k
theorem own_dup2 (C : own_Cx p l e R s m args below meth c Z own nm bytes maxL ret) {x y : Value} (d : own_D bytes pc (.dup2) 1 pn) (hc : x.category = 1) (hc' : y.category = 1) (k : own_Go p l e R s m args below meth c n0 Q cells slots h pn Ls (x :: y :: x :: y :: st)) : own_Go p l e R s m args below meth c n0 Q cells slots h pc Ls (x :: y :: st) := by
  obtain ⟨hd, rfl⟩ := d
  exact own_step (fun T locs ce sl X t r => XT.dup2 X.here C.1 rfl (hb C.2.2.2.1 hd) rfl hc hc' r) k
theorem own_pop (C : own_Cx p l e R s m args below meth c Z own nm bytes maxL ret) {x : Value} (d : own_D bytes pc (.pop) 1 pn) (hc : x.category = 1) (k : own_Go p l e R s m args below meth c n0 Q cells slots h pn Ls st) : own_Go p l e R s m args below meth c n0 Q cells slots h pc Ls (x :: st) := by
  obtain ⟨hd, rfl⟩ := d
  exact own_step (fun T locs ce sl X t r => XS.pop X.here C.1 rfl (hb C.2.2.2.1 hd) rfl hc r) k
/-- a slot that one word may be laid over -/
def own_one : Slot → Bool
  | .unset => true
  | .second => false
  | .val w => w.category == 1
theorem own_one_spec {o : Slot} (q : own_one o = true) : o = .unset ∨ ∃ w, o = .val w ∧ w.category = 1 := by
  cases o with
  | unset => exact Or.inl rfl
  | second => cases q
  | val w => exact Or.inr ⟨w, rfl, by simpa [own_one] using q⟩
theorem own_store {k : Nat} {v : Value} {o : Slot} (hold : Ls[k]? = some o) (ho : own_one o = true) (hv : v.category = 1) : storeLocals Ls.toArray k v = some (Ls.set k (.val v)).toArray := by
  rw [XS.store1 (o := o) (by simpa using hold) (own_one_spec ho) hv]; simp
theorem own_istoreN (C : own_Cx p l e R s m args below meth c Z own nm bytes maxL ret) {i : Fin 4} {x : Int32} {o : Slot} (j : Nat) (d : own_D bytes pc (.istore_n i) 1 pn) (hj : i.val = j) (hl : Ls[j]? = some o) (ho : own_one o = true) (k : own_Go p l e R s m args below meth c n0 Q cells slots h pn (Ls.set j (.val (.int x))) st) : own_Go p l e R s m args below meth c n0 Q cells slots h pc Ls (.int x :: st) := by
  obtain ⟨hd, rfl⟩ := d
  exact own_step (fun T locs ce sl X t r => XS.istoreN X.here C.1 rfl (hb C.2.2.2.1 hd) rfl (by rw [hj]; exact own_store hl ho rfl) r) k
theorem own_istore (C : own_Cx p l e R s m args below meth c Z own nm bytes maxL ret) {i : Nat} {x : Int32} {o : Slot} (j : Nat) (d : own_D bytes pc (.istore i) 2 pn) (hj : i = j) (hl : Ls[j]? = some o) (ho : own_one o = true) (k : own_Go p l e R s m args below meth c n0 Q cells slots h pn (Ls.set j (.val (.int x))) st) : own_Go p l e R s m args below meth c n0 Q cells slots h pc Ls (.int x :: st) := by
  obtain ⟨hd, rfl⟩ := d
  exact own_step (fun T locs ce sl X t r => XS.istore X.here C.1 rfl (hb C.2.2.2.1 hd) rfl (by rw [hj]; exact own_store hl ho rfl) r) k
theorem own_astoreN (C : own_Cx p l e R s m args below meth c Z own nm bytes maxL ret) {i : Fin 4} {x : Value} {o : Slot} (j : Nat) (d : own_D bytes pc (.astore_n i) 1 pn) (hj : i.val = j) (hl : Ls[j]? = some o) (ho : own_one o = true) (hv : x.isRef = true) (k : own_Go p l e R s m args below meth c n0 Q cells slots h pn (Ls.set j (.val x)) st) : own_Go p l e R s m args below meth c n0 Q cells slots h pc Ls (x :: st) := by
  obtain ⟨hd, rfl⟩ := d
  exact own_step (fun T locs ce sl X t r => XS.astoreN X.here C.1 rfl (hb C.2.2.2.1 hd) rfl hv (by rw [hj]; exact own_store hl ho (XT.cat1 hv)) r) k
theorem own_astore (C : own_Cx p l e R s m args below meth c Z own nm bytes maxL ret) {i : Nat} {x : Value} {o : Slot} (j : Nat) (d : own_D bytes pc (.astore i) 2 pn) (hj : i = j) (hl : Ls[j]? = some o) (ho : own_one o = true) (hv : x.isRef = true) (k : own_Go p l e R s m args below meth c n0 Q cells slots h pn (Ls.set j (.val x)) st) : own_Go p l e R s m args below meth c n0 Q cells slots h pc Ls (x :: st) := by
  obtain ⟨hd, rfl⟩ := d
  exact own_step (fun T locs ce sl X t r => XS.astore X.here C.1 rfl (hb C.2.2.2.1 hd) rfl hv (by rw [hj]; exact own_store hl ho (XT.cat1 hv)) r) k
theorem own_lstoreN (C : own_Cx p l e R s m args below meth c Z own nm bytes maxL ret) {i : Fin 4} {x : Int64} {Ls' : List Slot} (d : own_D bytes pc (.lstore_n i) 1 pn) (hl : storeLocals Ls.toArray i.val (.long x) = some Ls'.toArray) (k : own_Go p l e R s m args below meth c n0 Q cells slots h pn Ls' st) : own_Go p l e R s m args below meth c n0 Q cells slots h pc Ls (.long x :: st) := by
  obtain ⟨hd, rfl⟩ := d
  exact own_step (fun T locs ce sl X t r => XS.lstoreN X.here C.1 rfl (hb C.2.2.2.1 hd) rfl hl r) k
theorem own_lstore (C : own_Cx p l e R s m args below meth c Z own nm bytes maxL ret) {i : Nat} {x : Int64} {Ls' : List Slot} (d : own_D bytes pc (.lstore i) 2 pn) (hl : storeLocals Ls.toArray i (.long x) = some Ls'.toArray) (k : own_Go p l e R s m args below meth c n0 Q cells slots h pn Ls' st) : own_Go p l e R s m args below meth c n0 Q cells slots h pc Ls (.long x :: st) := by
  obtain ⟨hd, rfl⟩ := d
  exact own_step (fun T locs ce sl X t r => XS.lstore X.here C.1 rfl (hb C.2.2.2.1 hd) rfl hl r) k
theorem own_iinc (C : own_Cx p l e R s m args below meth c Z own nm bytes maxL ret) {i : Nat} {cst : Int} {x : Int32} (v : Int32) (d : own_D bytes pc (.iinc i cst) 3 pn) (hv : Int32.ofInt cst = v) (hl : Ls[i]? = some (.val (.int x))) (k : own_Go p l e R s m args below meth c n0 Q cells slots h pn (Ls.set i (.val (.int (x + v)))) st) : own_Go p l e R s m args below meth c n0 Q cells slots h pc Ls st := by
  obtain ⟨hd, rfl⟩ := d
  exact own_step (fun T locs ce sl X t r => XS.iinc X.here C.1 rfl (hb C.2.2.2.1 hd) (by simpa using hl) (by rw [hv]; exact own_store hl rfl rfl) r) k
theorem own_goto (C : own_Cx p l e R s m args below meth c Z own nm bytes maxL ret) {o : Int} (d : own_D bytes pc (.goto o) 3 pn) (ht : own_T pc o pt) (k : own_Go p l e R s m args below meth c n0 Q cells slots h pt Ls st) : own_Go p l e R s m args below meth c n0 Q cells slots h pc Ls st := by
  obtain ⟨hd, rfl⟩ := d
  exact own_step (fun T locs ce sl X t r => XS.goto X.here C.1 rfl rfl (hb C.2.2.2.1 hd) ht.1 ht.2 r) k
theorem own_icmplt (C : own_Cx p l e R s m args below meth c Z own nm bytes maxL ret) {o : Int} {x y : Int32} (d : own_D bytes pc (.if_icmp .lt o) 3 pn) (ht : own_T pc o pt) (ky : x < y → own_Go p l e R s m args below meth c n0 Q cells slots h pt Ls st) (kn : ¬ x < y → own_Go p l e R s m args below meth c n0 Q cells slots h pn Ls st) : own_Go p l e R s m args below meth c n0 Q cells slots h pc Ls (.int y :: .int x :: st) := by
  obtain ⟨hd, rfl⟩ := d
  by_cases h' : x < y
  · exact own_step (fun T locs ce sl X t r => XS.icmpYes X.here C.1 rfl rfl (hb C.2.2.2.1 hd) rfl (tlt h').1 ht.1 ht.2 r) (ky h')
  · exact own_step (fun T locs ce sl X t r => XS.icmpNo X.here C.1 rfl (hb C.2.2.2.1 hd) rfl (flt h').1 r) (kn h')
theorem own_iflt (C : own_Cx p l e R s m args below meth c Z own nm bytes maxL ret) {o : Int} {x : Int32} (d : own_D bytes pc (.ifCond .lt o) 3 pn) (ht : own_T pc o pt) (ky : x < (0 : Int32) → own_Go p l e R s m args below meth c n0 Q cells slots h pt Ls st) (kn : ¬ x < (0 : Int32) → own_Go p l e R s m args below meth c n0 Q cells slots h pn Ls st) : own_Go p l e R s m args below meth c n0 Q cells slots h pc Ls (.int x :: st) := by
  obtain ⟨hd, rfl⟩ := d
  by_cases h' : x < (0 : Int32)
  · exact own_step (fun T locs ce sl X t r => XS.ifYes X.here C.1 rfl rfl (hb C.2.2.2.1 hd) rfl ((if0 _ _).trans (tlt h').1) ht.1 ht.2 r) (ky h')
  · exact own_step (fun T locs ce sl X t r => XS.ifNo X.here C.1 rfl (hb C.2.2.2.1 hd) rfl ((if0 _ _).trans (flt h').1) r) (kn h')
theorem own_icmpge (C : own_Cx p l e R s m args below meth c Z own nm bytes maxL ret) {o : Int} {x y : Int32} (d : own_D bytes pc (.if_icmp .ge o) 3 pn) (ht : own_T pc o pt) (ky : ¬ x < y → own_Go p l e R s m args below meth c n0 Q cells slots h pt Ls st) (kn : x < y → own_Go p l e R s m args below meth c n0 Q cells slots h pn Ls st) : own_Go p l e R s m args below meth c n0 Q cells slots h pc Ls (.int y :: .int x :: st) := by
  obtain ⟨hd, rfl⟩ := d
  by_cases h' : x < y
  · exact own_step (fun T locs ce sl X t r => XS.icmpNo X.here C.1 rfl (hb C.2.2.2.1 hd) rfl (tlt h').2.1 r) (kn h')
  · exact own_step (fun T locs ce sl X t r => XS.icmpYes X.here C.1 rfl rfl (hb C.2.2.2.1 hd) rfl (flt h').2.1 ht.1 ht.2 r) (ky h')
theorem own_ifge (C : own_Cx p l e R s m args below meth c Z own nm bytes maxL ret) {o : Int} {x : Int32} (d : own_D bytes pc (.ifCond .ge o) 3 pn) (ht : own_T pc o pt) (ky : ¬ x < (0 : Int32) → own_Go p l e R s m args below meth c n0 Q cells slots h pt Ls st) (kn : x < (0 : Int32) → own_Go p l e R s m args below meth c n0 Q cells slots h pn Ls st) : own_Go p l e R s m args below meth c n0 Q cells slots h pc Ls (.int x :: st) := by
  obtain ⟨hd, rfl⟩ := d
  by_cases h' : x < (0 : Int32)
  · exact own_step (fun T locs ce sl X t r => XS.ifNo X.here C.1 rfl (hb C.2.2.2.1 hd) rfl ((if0 _ _).trans (tlt h').2.1) r) (kn h')
  · exact own_step (fun T locs ce sl X t r => XS.ifYes X.here C.1 rfl rfl (hb C.2.2.2.1 hd) rfl ((if0 _ _).trans (flt h').2.1) ht.1 ht.2 r) (ky h')
theorem own_icmpgt (C : own_Cx p l e R s m args below meth c Z own nm bytes maxL ret) {o : Int} {x y : Int32} (d : own_D bytes pc (.if_icmp .gt o) 3 pn) (ht : own_T pc o pt) (ky : y < x → own_Go p l e R s m args below meth c n0 Q cells slots h pt Ls st) (kn : ¬ y < x → own_Go p l e R s m args below meth c n0 Q cells slots h pn Ls st) : own_Go p l e R s m args below meth c n0 Q cells slots h pc Ls (.int y :: .int x :: st) := by
  obtain ⟨hd, rfl⟩ := d
  by_cases h' : y < x
  · exact own_step (fun T locs ce sl X t r => XS.icmpYes X.here C.1 rfl rfl (hb C.2.2.2.1 hd) rfl (tlt h').2.2.1 ht.1 ht.2 r) (ky h')
  · exact own_step (fun T locs ce sl X t r => XS.icmpNo X.here C.1 rfl (hb C.2.2.2.1 hd) rfl (flt h').2.2.1 r) (kn h')
theorem own_ifgt (C : own_Cx p l e R s m args below meth c Z own nm bytes maxL ret) {o : Int} {x : Int32} (d : own_D bytes pc (.ifCond .gt o) 3 pn) (ht : own_T pc o pt) (ky : (0 : Int32) < x → own_Go p l e R s m args below meth c n0 Q cells slots h pt Ls st) (kn : ¬ (0 : Int32) < x → own_Go p l e R s m args below meth c n0 Q cells slots h pn Ls st) : own_Go p l e R s m args below meth c n0 Q cells slots h pc Ls (.int x :: st) := by
  obtain ⟨hd, rfl⟩ := d
  by_cases h' : (0 : Int32) < x
  · exact own_step (fun T locs ce sl X t r => XS.ifYes X.here C.1 rfl rfl (hb C.2.2.2.1 hd) rfl ((if0 _ _).trans (tlt h').2.2.1) ht.1 ht.2 r) (ky h')
  · exact own_step (fun T locs ce sl X t r => XS.ifNo X.here C.1 rfl (hb C.2.2.2.1 hd) rfl ((if0 _ _).trans (flt h').2.2.1) r) (kn h')
theorem own_icmple (C : own_Cx p l e R s m args below meth c Z own nm bytes maxL ret) {o : Int} {x y : Int32} (d : own_D bytes pc (.if_icmp .le o) 3 pn) (ht : own_T pc o pt) (ky : ¬ y < x → own_Go p l e R s m args below meth c n0 Q cells slots h pt Ls st) (kn : y < x → own_Go p l e R s m args below meth c n0 Q cells slots h pn Ls st) : own_Go p l e R s m args below meth c n0 Q cells slots h pc Ls (.int y :: .int x :: st) := by
  obtain ⟨hd, rfl⟩ := d
  by_cases h' : y < x
  · exact own_step (fun T locs ce sl X t r => XS.icmpNo X.here C.1 rfl (hb C.2.2.2.1 hd) rfl (tlt h').2.2.2 r) (kn h')
  · exact own_step (fun T locs ce sl X t r => XS.icmpYes X.here C.1 rfl rfl (hb C.2.2.2.1 hd) rfl (flt h').2.2.2 ht.1 ht.2 r) (ky h')
theorem own_ifle (C : own_Cx p l e R s m args below meth c Z own nm bytes maxL ret) {o : Int} {x : Int32} (d : own_D bytes pc (.ifCond .le o) 3 pn) (ht : own_T pc o pt) (ky : ¬ (0 : Int32) < x → own_Go p l e R s m args below meth c n0 Q cells slots h pt Ls st) (kn : (0 : Int32) < x → own_Go p l e R s m args below meth c n0 Q cells slots h pn Ls st) : own_Go p l e R s m args below meth c n0 Q cells slots h pc Ls (.int x :: st) := by
  obtain ⟨hd, rfl⟩ := d
  by_cases h' : (0 : Int32) < x
  · exact own_step (fun T locs ce sl X t r => XS.ifNo X.here C.1 rfl (hb C.2.2.2.1 hd) rfl ((if0 _ _).trans (tlt h').2.2.2) r) (kn h')
  · exact own_step (fun T locs ce sl X t r => XS.ifYes X.here C.1 rfl rfl (hb C.2.2.2.1 hd) rfl ((if0 _ _).trans (flt h').2.2.2) ht.1 ht.2 r) (ky h')
theorem own_icmpeq (C : own_Cx p l e R s m args below meth c Z own nm bytes maxL ret) {o : Int} {x y : Int32} (d : own_D bytes pc (.if_icmp .eq o) 3 pn) (ht : own_T pc o pt) (ky : x = y → own_Go p l e R s m args below meth c n0 Q cells slots h pt Ls st) (kn : ¬ x = y → own_Go p l e R s m args below meth c n0 Q cells slots h pn Ls st) : own_Go p l e R s m args below meth c n0 Q cells slots h pc Ls (.int y :: .int x :: st) := by
  obtain ⟨hd, rfl⟩ := d
  by_cases h' : x = y
  · exact own_step (fun T locs ce sl X t r => XS.icmpYes X.here C.1 rfl rfl (hb C.2.2.2.1 hd) rfl (teq h').1 ht.1 ht.2 r) (ky h')
  · exact own_step (fun T locs ce sl X t r => XS.icmpNo X.here C.1 rfl (hb C.2.2.2.1 hd) rfl (feq h').1 r) (kn h')
theorem own_ifeq (C : own_Cx p l e R s m args below meth c Z own nm bytes maxL ret) {o : Int} {x : Int32} (d : own_D bytes pc (.ifCond .eq o) 3 pn) (ht : own_T pc o pt) (ky : x = (0 : Int32) → own_Go p l e R s m args below meth c n0 Q cells slots h pt Ls st) (kn : ¬ x = (0 : Int32) → own_Go p l e R s m args below meth c n0 Q cells slots h pn Ls st) : own_Go p l e R s m args below meth c n0 Q cells slots h pc Ls (.int x :: st) := by
  obtain ⟨hd, rfl⟩ := d
  by_cases h' : x = (0 : Int32)
  · exact own_step (fun T locs ce sl X t r => XS.ifYes X.here C.1 rfl rfl (hb C.2.2.2.1 hd) rfl ((if0 _ _).trans (teq h').1) ht.1 ht.2 r) (ky h')
  · exact own_step (fun T locs ce sl X t r => XS.ifNo X.here C.1 rfl (hb C.2.2.2.1 hd) rfl ((if0 _ _).trans (feq h').1) r) (kn h')
theorem own_icmpne (C : own_Cx p l e R s m args below meth c Z own nm bytes maxL ret) {o : Int} {x y : Int32} (d : own_D bytes pc (.if_icmp .ne o) 3 pn) (ht : own_T pc o pt) (ky : ¬ x = y → own_Go p l e R s m args below meth c n0 Q cells slots h pt Ls st) (kn : x = y → own_Go p l e R s m args below meth c n0 Q cells slots h pn Ls st) : own_Go p l e R s m args below meth c n0 Q cells slots h pc Ls (.int y :: .int x :: st) := by
  obtain ⟨hd, rfl⟩ := d
  by_cases h' : x = y
  · exact own_step (fun T locs ce sl X t r => XS.icmpNo X.here C.1 rfl (hb C.2.2.2.1 hd) rfl (teq h').2 r) (kn h')
  · exact own_step (fun T locs ce sl X t r => XS.icmpYes X.here C.1 rfl rfl (hb C.2.2.2.1 hd) rfl (feq h').2 ht.1 ht.2 r) (ky h')
theorem own_ifne (C : own_Cx p l e R s m args below meth c Z own nm bytes maxL ret) {o : Int} {x : Int32} (d : own_D bytes pc (.ifCond .ne o) 3 pn) (ht : own_T pc o pt) (ky : ¬ x = (0 : Int32) → own_Go p l e R s m args below meth c n0 Q cells slots h pt Ls st) (kn : x = (0 : Int32) → own_Go p l e R s m args below meth c n0 Q cells slots h pn Ls st) : own_Go p l e R s m args below meth c n0 Q cells slots h pc Ls (.int x :: st) := by
  obtain ⟨hd, rfl⟩ := d
  by_cases h' : x = (0 : Int32)
  · exact own_step (fun T locs ce sl X t r => XS.ifNo X.here C.1 rfl (hb C.2.2.2.1 hd) rfl ((if0 _ _).trans (teq h').2) r) (kn h')
  · exact own_step (fun T locs ce sl X t r => XS.ifYes X.here C.1 rfl rfl (hb C.2.2.2.1 hd) rfl ((if0 _ _).trans (feq h').2) ht.1 ht.2 r) (ky h')
theorem own_acmpeq (C : own_Cx p l e R s m args below meth c Z own nm bytes maxL ret) {o : Int} {x y : Value} (d : own_D bytes pc (.if_acmp .eq o) 3 pn) (ht : own_T pc o pt) (hx' : x.isRef = true) (hy' : y.isRef = true) (ky : x = y → own_Go p l e R s m args below meth c n0 Q cells slots h pt Ls st) (kn : ¬ x = y → own_Go p l e R s m args below meth c n0 Q cells slots h pn Ls st) : own_Go p l e R s m args below meth c n0 Q cells slots h pc Ls (y :: x :: st) := by
  obtain ⟨hd, rfl⟩ := d
  by_cases h' : x = y
  · exact own_step (fun T locs ce sl X t r => XT.acmpYes X.here C.1 rfl rfl (hb C.2.2.2.1 hd) rfl hx' hy' (XT.aa_eq_t h') ht.1 ht.2 r) (ky h')
  · exact own_step (fun T locs ce sl X t r => XT.acmpNo X.here C.1 rfl (hb C.2.2.2.1 hd) rfl hx' hy' (XT.aa_eq_f h') r) (kn h')
theorem own_acmpne (C : own_Cx p l e R s m args below meth c Z own nm bytes maxL ret) {o : Int} {x y : Value} (d : own_D bytes pc (.if_acmp .ne o) 3 pn) (ht : own_T pc o pt) (hx' : x.isRef = true) (hy' : y.isRef = true) (ky : ¬ x = y → own_Go p l e R s m args below meth c n0 Q cells slots h pt Ls st) (kn : x = y → own_Go p l e R s m args below meth c n0 Q cells slots h pn Ls st) : own_Go p l e R s m args below meth c n0 Q cells slots h pc Ls (y :: x :: st) := by
  obtain ⟨hd, rfl⟩ := d
  by_cases h' : x = y
  · exact own_step (fun T locs ce sl X t r => XT.acmpNo X.here C.1 rfl (hb C.2.2.2.1 hd) rfl hx' hy' (XT.aa_ne_f h') r) (kn h')
  · exact own_step (fun T locs ce sl X t r => XT.acmpYes X.here C.1 rfl rfl (hb C.2.2.2.1 hd) rfl hx' hy' (XT.aa_ne_t h') ht.1 ht.2 r) (ky h')
theorem own_ifnull (C : own_Cx p l e R s m args below meth c Z own nm bytes maxL ret) {o : Int} {v : Value} (d : own_D bytes pc (.ifnull o) 3 pn) (ht : own_T pc o pt) (hv : v.isRef = true) (ky : v = .null → own_Go p l e R s m args below meth c n0 Q cells slots h pt Ls st) (kn : ¬ v = .null → own_Go p l e R s m args below meth c n0 Q cells slots h pn Ls st) : own_Go p l e R s m args below meth c n0 Q cells slots h pc Ls (v :: st) := by
  obtain ⟨hd, rfl⟩ := d
  by_cases h' : v = .null
  · exact own_step (fun T locs ce sl X t r => XT.nullYes X.here C.1 rfl rfl (hb C.2.2.2.1 hd) rfl h' ht.1 ht.2 r) (ky h')
  · exact own_step (fun T locs ce sl X t r => XT.nullNo X.here C.1 rfl (hb C.2.2.2.1 hd) rfl hv h' r) (kn h')
theorem own_ifnonnull (C : own_Cx p l e R s m args below meth c Z own nm bytes maxL ret) {o : Int} {v : Value} (d : own_D bytes pc (.ifnonnull o) 3 pn) (ht : own_T pc o pt) (hv : v.isRef = true) (ky : ¬ v = .null → own_Go p l e R s m args below meth c n0 Q cells slots h pt Ls st) (kn : v = .null → own_Go p l e R s m args below meth c n0 Q cells slots h pn Ls st) : own_Go p l e R s m args below meth c n0 Q cells slots h pc Ls (v :: st) := by
  obtain ⟨hd, rfl⟩ := d
  by_cases h' : v = .null
  · exact own_step (fun T locs ce sl X t r => XT.nonnullNo X.here C.1 rfl (hb C.2.2.2.1 hd) rfl h' r) (kn h')
  · exact own_step (fun T locs ce sl X t r => XT.nonnullYes X.here C.1 rfl rfl (hb C.2.2.2.1 hd) rfl hv h' ht.1 ht.2 r) (ky h')
theorem own_ldc (C : own_Cx p l e R s m args below meth c Z own nm bytes maxL ret) {i : Nat} {v : Int32} (d : own_D bytes pc (.ldc i) 2 pn) (w1 : (Jvm.Cond.constant own i v).before a0 Z = true) (k : own_Go p l e R s m args below meth c n0 Q cells slots h pn Ls (.int v :: st)) : own_Go p l e R s m args below meth c n0 Q cells slots h pc Ls st := by
  obtain ⟨hd, rfl⟩ := d
  exact own_step (fun T locs ce sl X t r => ldcI X C.1 C.2.2.1 (mv C.2.1 w1) rfl (hb C.2.2.2.1 hd) r) k
theorem own_ldc2 (C : own_Cx p l e R s m args below meth c Z own nm bytes maxL ret) {i : Nat} {v : Int64} (d : own_D bytes pc (.ldc2_w i) 3 pn) (w1 : (Jvm.Cond.constantLong own i v).before a0 Z = true) (k : own_Go p l e R s m args below meth c n0 Q cells slots h pn Ls (.long v :: st)) : own_Go p l e R s m args below meth c n0 Q cells slots h pc Ls st := by
  obtain ⟨hd, rfl⟩ := d
  exact own_step (fun T locs ce sl X t r => ldc2J X C.1 C.2.2.1 (mv C.2.1 w1) rfl (hb C.2.2.2.1 hd) r) k
theorem own_getS (C : own_Cx p l e R s m args below meth c Z own nm bytes maxL ret) {O n dd : String} {i : Nat} {v : Value} (d : own_D bytes pc (.getstatic i) 3 pn) (w1 : (Jvm.Cond.fieldLink own i O n dd).before a0 Z = true) (F : Sta Z h O n dd v) (k : own_Go p l e R s m args below meth c n0 Q cells slots h pn Ls (v :: st)) : own_Go p l e R s m args below meth c n0 Q cells slots h pc Ls st := by
  obtain ⟨hd, rfl⟩ := d
  refine own_warm (fun T locs ce sl X eT => ?_) k
  obtain ⟨T', X', e', st'⟩ := getS2 X C.1 C.2.1 C.2.2.1 (host := "") (Or.inl w1) Via.refl eT F (g := mkF m pc Ls.toArray st) rfl (hb C.2.2.2.1 hd)
  exact ⟨T', X', e', st'⟩
theorem own_getF (C : own_Cx p l e R s m args below meth c Z own nm bytes maxL ret) {R0 O n dd : String} {i : Nat} {a : Addr} {v : Value} (d : own_D bytes pc (.getfield i) 3 pn) (w1 : (Jvm.Cond.fieldLink own i R0 n dd).before a0 Z = true) (via : Via Z R0 O n dd) (F : Fld Z h a O n dd v) (k : own_Go p l e R s m args below meth c n0 Q cells slots h pn Ls (v :: st)) : own_Go p l e R s m args below meth c n0 Q cells slots h pc Ls (.ref a :: st) := by
  obtain ⟨hd, rfl⟩ := d
  refine own_warm (fun T locs ce sl X eT => ?_) k
  obtain ⟨T', X', e', st'⟩ := getF X C.1 C.2.1 C.2.2.1 (host := "") (Or.inl w1) via eT F (g := mkF m pc Ls.toArray (.ref a :: st)) rfl rfl (hb C.2.2.2.1 hd)
  exact ⟨T', X', e', st'⟩
theorem own_cast (C : own_Cx p l e R s m args below meth c Z own nm bytes maxL ret) {K : String} {i : Nat} {a : Addr} (d : own_D bytes pc (.checkcast i) 3 pn) (w1 : (Jvm.Cond.classLink own i K).before a0 Z = true) (F : Ins Z h a K true) (k : own_Go p l e R s m args below meth c n0 Q cells slots h pn Ls (.ref a :: st)) : own_Go p l e R s m args below meth c n0 Q cells slots h pc Ls (.ref a :: st) := by
  obtain ⟨hd, rfl⟩ := d
  refine own_warm (fun T locs ce sl X eT => ?_) k
  obtain ⟨T', X', e', st'⟩ := castY X C.1 C.2.1 C.2.2.1 w1 eT F (g := mkF m pc Ls.toArray (.ref a :: st)) rfl rfl (hb C.2.2.2.1 hd)
  exact ⟨T', X', e', st'⟩
theorem own_instY (C : own_Cx p l e R s m args below meth c Z own nm bytes maxL ret) {K : String} {i : Nat} {a : Addr} (d : own_D bytes pc (.instanceof i) 3 pn) (w1 : (Jvm.Cond.classLink own i K).before a0 Z = true) (F : Ins Z h a K true) (k : own_Go p l e R s m args below meth c n0 Q cells slots h pn Ls (.int 1 :: st)) : own_Go p l e R s m args below meth c n0 Q cells slots h pc Ls (.ref a :: st) := by
  obtain ⟨hd, rfl⟩ := d
  refine own_warm (fun T locs ce sl X eT => ?_) k
  obtain ⟨T', X', e', st'⟩ := instY X C.1 C.2.1 C.2.2.1 w1 eT F (g := mkF m pc Ls.toArray (.ref a :: st)) rfl rfl (hb C.2.2.2.1 hd)
  exact ⟨T', X', e', st'⟩
theorem own_write {pc' : Nat} {Ls' : List Slot} {st' : List Value} {a : Addr} {j : Nat} {v : Value} (ha : n0 ≤ a) (H : ∀ (T : State) (locs : List Loc) (ce sl : Nat), Stand p l e R s m args below meth c T locs ce sl → T.heap = h → ∃ T' h', Stand p l e R s m args below meth c T' (locs ++ [⟨a, j⟩]) ce sl ∧ T'.heap = h' ∧ Wr h h' a j v ∧ ∀ target, Steps p.tables e below (T'.setTop (mkF m pc' Ls'.toArray st')) target → Steps p.tables e below (T.setTop (mkF m pc Ls.toArray st)) target)
    (k : ∀ h', Wr h h' a j v → own_Go p l e R s m args below meth c n0 Q cells slots h' pc' Ls' st') : own_Go p l e R s m args below meth c n0 Q cells slots h pc Ls st := by
  intro T locs ce sl hc hs hf X eT
  obtain ⟨T', h', X', eT', W, H'⟩ := H T locs ce sl X eT
  obtain ⟨s₂, o, h1, h2⟩ := k h' W T' _ ce sl hc hs (Fr.snoc X' hf ha) X' eT'
  exact ⟨s₂, o, H' _ h1, h2⟩
theorem own_putF (C : own_Cx p l e R s m args below meth c Z own nm bytes maxL ret) {R0 O n dd K : String} {i kk : Nat} {ty : FieldType} {a : Addr} {v old : Value} (d : own_D bytes pc (.putfield i) 3 pn) (w1 : (Jvm.Cond.fieldLink own i R0 n dd).before a0 Z = true) (via : Via Z R0 O n dd) (F : Fld Z h a O n dd old) (E : Exa Z h a K)
    (L : (Jvm.Cond.lays K O n dd).before a0 Z = true ∨ ((Jvm.Cond.laysFinal K O n dd).before a0 Z = true ∧ own = O ∧ nm = "<init>")) (wi : (Jvm.Cond.instantiable K kk).before a0 Z = true) (hty : parseFieldDescriptor dd = some ty) (hn : narrow ty v = v) (hf : fits ty v = true) (ha : n0 ≤ a)
    (k : ∀ h', Wr h h' a (slotOf Z O n dd) v → own_Go p l e R s m args below meth c n0 Q cells slots h' pn Ls st) : own_Go p l e R s m args below meth c n0 Q cells slots h pc Ls (v :: .ref a :: st) := by
  obtain ⟨hd, rfl⟩ := d
  refine own_write ha (fun T locs ce sl X eT => ?_) k
  obtain ⟨T', h', X', e', W, st'⟩ := putF X C.1 C.2.1 C.2.2.1 (host := "") (Or.inl w1) via eT F E (L.imp id fun q => ⟨q.1, q.2.1, C.2.2.2.2.2.2.2.trans q.2.2⟩) wi hty hn hf (g := mkF m pc Ls.toArray (v :: .ref a :: st)) rfl rfl (hb C.2.2.2.1 hd)
  exact ⟨T', h', X', e', W, st'⟩
theorem own_stR (C : own_Cx p l e R s m args below meth c Z own nm bytes maxL ret) {ty : FieldType} {a : Addr} {v : Value} {cl : Cell} {j : Int32} (d : own_D bytes pc .aastore 1 pn) (A : Arr Z h a cl ty) (hj : ¬ (j < 0 ∨ cl.slots.size ≤ j.toNatClampNeg)) (hty : ty.isReference = true) (F : Sto Z h a v) (ha : n0 ≤ a)
    (k : ∀ h', Wr h h' a j.toNatClampNeg v → own_Go p l e R s m args below meth c n0 Q cells slots h' pn Ls st) : own_Go p l e R s m args below meth c n0 Q cells slots h pc Ls (v :: .int j :: .ref a :: st) := by
  obtain ⟨hd, rfl⟩ := d
  refine own_write ha (fun T locs ce sl X eT => ?_) k
  obtain ⟨T', h', X', e', W, st'⟩ := stR X C.1 C.2.1 eT A hj hty F (g := mkF m pc Ls.toArray (v :: .int j :: .ref a :: st)) rfl rfl (hb C.2.2.2.1 hd)
  exact ⟨T', h', X', e', W, st'⟩
theorem own_newO (C : own_Cx p l e R s m args below meth c Z own nm bytes maxL ret) {K : String} {i n : Nat} (d : own_D bytes pc (.new i) 3 pn) (w1 : (Jvm.Cond.classLink own i K).before a0 Z = true) (w2 : (Jvm.Cond.instantiable K n).before a0 Z = true) (w3 : (Jvm.Cond.initialized K).before a0 Z = true) (hc : cells + 1 ≤ R.cells) (hs : slots + n ≤ R.slots)
    (k : ∀ (h' : Heap) (a : Addr), a = h.size → Ext h h' → Exa Z h' a K → (∀ {O fn dd : String} {ty : FieldType}, Laid Z a0 K O fn dd → parseFieldDescriptor dd = some ty → Fld Z h' a O fn dd (defaultValue ty)) → own_Go p l e R s m args below meth c n0 Q (cells + 1) (slots + n) h' pn Ls (.ref a :: st)) : own_Go p l e R s m args below meth c n0 Q cells slots h pc Ls st := by
  obtain ⟨hd, rfl⟩ := d
  intro T locs ce sl h1 h2 hf X eT
  obtain ⟨T', h', X', e', E', A', D', -, st'⟩ := newO X C.1 C.2.1 C.2.2.1 w1 w2 w3 eT (g := mkF m pc Ls.toArray st) rfl (hb C.2.2.2.1 hd) (Nat.le_trans (Nat.add_le_add_right h1 1) hc) (Nat.le_trans (Nat.add_le_add_right h2 n) hs)
  obtain ⟨s₂, o, g1, g2⟩ := k h' h.size rfl E' A' D' T' locs _ _ (Nat.add_le_add_right h1 1) (Nat.add_le_add_right h2 n) hf X' e'
  exact ⟨s₂, o, st' _ g1, g2⟩
theorem own_newR (C : own_Cx p l e R s m args below meth c Z own nm bytes maxL ret) {K : String} {i : Nat} {n : Int32} (d : own_D bytes pc (.anewarray i) 3 pn) (w1 : (Jvm.Cond.classLink own i K).before a0 Z = true) (w2 : (Jvm.Cond.arrayOver (.object K)).before a0 Z = true) (hn : ¬ n < 0) (cap : Nat) (hcap : n.toNatClampNeg ≤ cap) (hb8 : cap * 8 ≤ 536870912) (hc : cells + 1 ≤ R.cells) (hs : slots + cap ≤ R.slots)
    (k : ∀ (h' : Heap) (a : Addr) (cA : ClassId), a = h.size → Ext h h' → Arr Z h' a (newA cA (.object K) n) (.object K) → Ovr Z cA K → own_Go p l e R s m args below meth c n0 Q (cells + 1) (slots + cap) h' pn Ls (.ref a :: st)) : own_Go p l e R s m args below meth c n0 Q cells slots h pc Ls (.int n :: st) := by
  obtain ⟨hd, rfl⟩ := d
  intro T locs ce sl h1 h2 hf X eT
  obtain ⟨T', h', cA, X', e', E', A', O', st'⟩ := newR X C.1 C.2.1 C.2.2.1 w1 w2 eT (g := mkF m pc Ls.toArray (.int n :: st)) rfl (hb C.2.2.2.1 hd) rfl hn hcap hb8 (Nat.le_trans (Nat.add_le_add_right h1 1) hc) (Nat.le_trans (Nat.add_le_add_right h2 cap) hs)
  obtain ⟨s₂, o, g1, g2⟩ := k h' h.size cA rfl E' A' O' T' locs _ _ (Nat.add_le_add_right h1 1) (Nat.add_le_add_right h2 cap) hf X' e'
  exact ⟨s₂, o, st' _ g1, g2⟩
theorem own_aaload (C : own_Cx p l e R s m args below meth c Z own nm bytes maxL ret) {ty : FieldType} {a : Addr} {v : Value} {cl : Cell} {j : Int32} (d : own_D bytes pc .aaload 1 pn) (A : Arr Z h a cl ty) (hty : ty.isReference = true) (hj : ¬ (j < 0 ∨ cl.slots.size ≤ j.toNatClampNeg)) (hat : cl.slots[j.toNatClampNeg]? = some v)
    (k : own_Go p l e R s m args below meth c n0 Q cells slots h pn Ls (v :: st)) : own_Go p l e R s m args below meth c n0 Q cells slots h pc Ls (.int j :: .ref a :: st) := by
  obtain ⟨hd, rfl⟩ := d
  refine own_warm (fun T locs ce sl X eT => ⟨T, X, eT, ?_⟩) k
  exact X.aaload C.1 (by rw [eT]; exact A.1) (State.isArrayOf_alike C.2.1.alike A.2.1) hty A.2.2 hj hat (g := mkF m pc Ls.toArray (.int j :: .ref a :: st)) rfl rfl (hb C.2.2.2.1 hd)
theorem own_arraylength (C : own_Cx p l e R s m args below meth c Z own nm bytes maxL ret) {ty : FieldType} {a : Addr} {cl : Cell} (d : own_D bytes pc .arraylength 1 pn) (A : Arr Z h a cl ty)
    (k : own_Go p l e R s m args below meth c n0 Q cells slots h pn Ls (.int cl.slots.size.toInt32 :: st)) : own_Go p l e R s m args below meth c n0 Q cells slots h pc Ls (.ref a :: st) := by
  obtain ⟨hd, rfl⟩ := d
  refine own_warm (fun T locs ce sl X eT => ⟨T, X, eT, ?_⟩) k
  exact X.arraylength C.1 (by rw [eT]; exact A.1) (State.isArrayOf_alike C.2.1.alike A.2.1) (g := mkF m pc Ls.toArray (.ref a :: st)) rfl rfl (hb C.2.2.2.1 hd)
theorem own_ret {t : FieldType} (C : own_Cx p l e R s m args below meth c Z own nm bytes maxL (some t)) {w : Value} {i : Instr} (d : own_D bytes pc i 1 pn) (hn : narrow t w = w)
    (hi : (i = .ireturn ∧ (t = .int ∨ t = .boolean ∨ t = .byte ∨ t = .char ∨ t = .short) ∧ ∃ z, w = .int z) ∨ (i = .lreturn ∧ t = .long ∧ ∃ z, w = .long z) ∨ (i = .dreturn ∧ t = .double ∧ ∃ z, w = .double z) ∨ (i = .freturn ∧ t = .float ∧ ∃ z, w = .float z) ∨ (i = .areturn ∧ t.isReference = true ∧ w.isRef = true))
    (hc : cells ≤ R.cells) (hs : slots ≤ R.slots) (q : Qn (some w) h) : own_Go p l e R s m args below meth c n0 (own_N s n0 R Qn) cells slots h pc Ls (w :: st) := by
  obtain ⟨hd, rfl⟩ := d
  intro T locs ce sl h1 h2 hf X eT
  obtain ⟨fs, hr, hrun, hended, hW, hsame⟩ := X.leave (v := some w) (fun h => by rw [C.2.2.2.2.2.1] at h; cases h) C.2.2.2.2.2.2.1
  exact ⟨_, _, retOut X C.1 C.2.2.2.2.2.1 hn hi (hb C.2.2.2.1 hd) hr, hrun, hended, _, locs, rfl, ⟨by show Qn (some w) T.heap; rw [eT]; exact q, hf⟩, ⟨_, rfl⟩, hW, hsame.mono (Nat.le_trans h1 hc) (Nat.le_trans h2 hs)⟩
theorem own_retA {t : FieldType} (C : own_Cx p l e R s m args below meth c Z own nm bytes maxL (some t)) {w : Value} (d : own_D bytes pc .areturn 1 pn) (ht : t.isReference = true) (hw : w.isRef = true) (hc : cells ≤ R.cells) (hs : slots ≤ R.slots) (q : Qn (some w) h) : own_Go p l e R s m args below meth c n0 (own_N s n0 R Qn) cells slots h pc Ls (w :: st) := by
  refine own_ret C d ?_ (Or.inr (Or.inr (Or.inr (Or.inr ⟨rfl, ht, hw⟩)))) hc hs q
  cases t <;> first | (cases ht; done) | rfl
theorem own_retI (C : own_Cx p l e R s m args below meth c Z own nm bytes maxL (some .int)) {z : Int32} (d : own_D bytes pc .ireturn 1 pn) (hc : cells ≤ R.cells) (hs : slots ≤ R.slots) (q : Qn (some (.int z)) h) : own_Go p l e R s m args below meth c n0 (own_N s n0 R Qn) cells slots h pc Ls (.int z :: st) :=
  own_ret C d rfl (Or.inl ⟨rfl, Or.inl rfl, z, rfl⟩) hc hs q
theorem own_retZ (C : own_Cx p l e R s m args below meth c Z own nm bytes maxL (some .boolean)) {z : Int32} (d : own_D bytes pc .ireturn 1 pn) (hz : z = 0 ∨ z = 1) (hc : cells ≤ R.cells) (hs : slots ≤ R.slots) (q : Qn (some (.int z)) h) : own_Go p l e R s m args below meth c n0 (own_N s n0 R Qn) cells slots h pc Ls (.int z :: st) :=
  own_ret C d (by rcases hz with rfl | rfl <;> rfl) (Or.inl ⟨rfl, Or.inr (Or.inl rfl), z, rfl⟩) hc hs q
theorem own_retJ (C : own_Cx p l e R s m args below meth c Z own nm bytes maxL (some .long)) {z : Int64} (d : own_D bytes pc .lreturn 1 pn) (hc : cells ≤ R.cells) (hs : slots ≤ R.slots) (q : Qn (some (.long z)) h) : own_Go p l e R s m args below meth c n0 (own_N s n0 R Qn) cells slots h pc Ls (.long z :: st) :=
  own_ret C d rfl (Or.inr (Or.inl ⟨rfl, rfl, z, rfl⟩)) hc hs q
theorem own_retV (C : own_Cx p l e R s m args below meth c Z own nm bytes maxL none) (d : own_D bytes pc .return_ 1 pn) (hc : cells ≤ R.cells) (hs : slots ≤ R.slots) (q : Qn none h) : own_Go p l e R s m args below meth c n0 (own_N s n0 R Qn) cells slots h pc Ls [] := by
  obtain ⟨hd, rfl⟩ := d
  intro T locs ce sl h1 h2 hf X eT
  obtain ⟨fs, hr, hrun, hended, hW, hsame⟩ := X.leave (v := none) (fun _ => rfl) C.2.2.2.2.2.2.1
  exact ⟨_, _, X.returnOut C.1 C.2.2.2.2.2.1 (hb C.2.2.2.1 hd) hr, hrun, hended, _, locs, rfl, ⟨by show Qn none T.heap; rw [eT]; exact q, hf⟩, ⟨_, rfl⟩, hW, hsame.mono (Nat.le_trans h1 hc) (Nat.le_trans h2 hs)⟩
theorem own_hlen {dsc : String} {ps : List FieldType} {r : Option FieldType} {L : List Value} (hd : parseMethodDescriptor dsc = some ⟨ps, r⟩) (hl : L.length = ps.length) : ∀ sig, parseMethodDescriptor dsc = some sig → L.length = sig.parameters.length := lenOf hd hl
theorem own_callS (C : own_Cx p l e R s m args below meth c Z own nm bytes maxL ret) {i : Nat} {y : MethodName} {bytes' : ByteArray} {maxL' : Nat} {ret' : Option FieldType} {rm : Room} {as' : List Value} {Qc : Option Value → Heap → Prop} (K : own_Con l Z y bytes' maxL' ret' rm n0 as' h Qc) (d : own_D bytes pc (.invokestatic i) 3 pn) (w1 : (Jvm.Cond.methodLink own i y).before a0 Z = true) (w2 : (Jvm.Cond.static y).before a0 Z = true) (w3 : (Jvm.Cond.initialized y.cls).before a0 Z = true) (w4 : (Jvm.Cond.code y bytes' maxL' ret').before a0 Z = true)
    (hy : y.cls ≠ "java/lang/invoke/MethodHandle" ∧ y.cls ≠ "java/lang/invoke/VarHandle") {ps : List FieldType} {r : Option FieldType} (hp : parseMethodDescriptor y.desc = some ⟨ps, r⟩) (hn : as'.length = ps.length) (hst : st = as'.reverse ++ rest) (hLs : Ls.length = maxL) (hfr : rm.frames + 1 ≤ R.frames) (hlo : (rest.map fun v => v.category).sum + (maxL' + 11) + rm.locals ≤ R.locals) (hc : cells + rm.cells ≤ R.cells) (hs : slots + rm.slots ≤ R.slots)
    (k : ∀ v h', Qc v h' → own_Go p l e R s m args below meth c n0 Q (cells + rm.cells) (slots + rm.slots) h' pn Ls (v.toList ++ rest)) : own_Go p l e R s m args below meth c n0 Q cells slots h pc Ls st := by
  obtain ⟨hd, rfl⟩ := d
  intro T locs ce sl h1 h2 hf X eT
  obtain ⟨v, _, ⟨T', L', k', n'⟩, -, X', ⟨Lc, hq, l', y', z'⟩, st'⟩ := Jvm.LawKit.callS X C.1 (y := y) C.2.2.1 (mvT C.2.1 w1) (mvT C.2.1 w2) (mvT C.2.1 w3) (mvT C.2.1 w4) hy (backOf (W := (rest.map fun v => v.category).sum) (Q := fun v h L => Qc v h ∧ Fr n0 L) (K []) C.2.1 w4 w3 hfr hlo) (g := mkF m pc Ls.toArray st) rfl (by rw [C.2.2.2.2.1]; simpa using hLs) (argsL := as') (rest := rest) (lenOf hp hn) hst (by simp) (hb C.2.2.2.1 hd) (fun _ _ => ⟨rfl, eT, Nat.le_trans (Nat.add_le_add_right h1 _) hc, Nat.le_trans (Nat.add_le_add_right h2 _) hs⟩)
  dsimp only [Pt.U, Pt.locs, Pt.cells, Pt.slots] at X' l' y' z' st' hq
  subst l' y' z'
  obtain ⟨s₂, o, g1, g2⟩ := k v T'.heap hq.1 T' _ _ _ (by omega) (by omega) (Fr.app hf hq.2) X' rfl
  exact ⟨s₂, o, st' _ g1, g2⟩
theorem own_callV (C : own_Cx p l e R s m args below meth c Z own nm bytes maxL ret) {i : Nat} {a : Addr} {Kc : String} {z : MethodName} {y : MethodName} {bytes' : ByteArray} {maxL' : Nat} {ret' : Option FieldType} {rm : Room} {as' : List Value} {Qc : Option Value → Heap → Prop} (K : own_Con l Z z bytes' maxL' ret' rm n0 (.ref a :: as') h Qc) (E : Exa Z h a Kc) (d : own_D bytes pc (.invokevirtual i) 3 pn) (w1 : (Jvm.Cond.methodLink own i y).before a0 Z = true) (w2 : (Jvm.Cond.declares y).before a0 Z = true) (w3 : (Jvm.Cond.selects Kc y z).before a0 Z = true) (nf : NotFace s y) (w4 : (Jvm.Cond.instanceMethod z).before a0 Z = true) (w5 : (Jvm.Cond.code z bytes' maxL' ret').before a0 Z = true) (w6 : (Jvm.Cond.initialized z.cls).before a0 Z = true)
    (hy : y.cls ≠ "java/lang/invoke/MethodHandle" ∧ y.cls ≠ "java/lang/invoke/VarHandle") {ps : List FieldType} {r : Option FieldType} (hp : parseMethodDescriptor y.desc = some ⟨ps, r⟩) (hn : as'.length = ps.length) (hst : st = as'.reverse ++ .ref a :: rest) (hLs : Ls.length = maxL) (hfr : rm.frames + 1 ≤ R.frames) (hlo : (rest.map fun v => v.category).sum + (maxL' + 11) + rm.locals ≤ R.locals) (hc : cells + rm.cells ≤ R.cells) (hs : slots + rm.slots ≤ R.slots)
    (k : ∀ v h', Qc v h' → own_Go p l e R s m args below meth c n0 Q (cells + rm.cells) (slots + rm.slots) h' pn Ls (v.toList ++ rest)) : own_Go p l e R s m args below meth c n0 Q cells slots h pc Ls st := by
  obtain ⟨hd, rfl⟩ := d
  intro T locs ce sl h1 h2 hf X eT
  obtain ⟨cB, kB, qa, qb, qc⟩ := isOf C.2.1 eT E
  obtain ⟨v, _, ⟨T', L', k', n'⟩, -, X', ⟨Lc, hq, l', y', z'⟩, st'⟩ := X.virtualBack C.1 (y := y) (z := z) C.2.2.1 (mvT C.2.1 w1) (mvT C.2.1 w2) nf (mvT C.2.1 w3) (mvT C.2.1 w4) hy (backOf (W := (rest.map fun v => v.category).sum) (Q := fun v h L => Qc v h ∧ Fr n0 L) (K []) C.2.1 w5 w6 hfr hlo) qa qc (g := mkF m pc Ls.toArray st) rfl (by rw [C.2.2.2.2.1]; simpa using hLs) (Steps.refl _) (argsL := as') (rest := rest) (lenOf hp hn) hst (by simp) (hb C.2.2.2.1 hd) (fun _ _ => ⟨rfl, eT, Nat.le_trans (Nat.add_le_add_right h1 _) hc, Nat.le_trans (Nat.add_le_add_right h2 _) hs⟩)
  dsimp only [Pt.U, Pt.locs, Pt.cells, Pt.slots] at X' l' y' z' st' hq
  subst l' y' z'
  obtain ⟨s₂, o, g1, g2⟩ := k v T'.heap hq.1 T' _ _ _ (by omega) (by omega) (Fr.app hf hq.2) X' rfl
  exact ⟨s₂, o, st'.trans g1, g2⟩
theorem own_callI (C : own_Cx p l e R s m args below meth c Z own nm bytes maxL ret) {i : Nat} {a : Addr} {y : MethodName} {bytes' : ByteArray} {maxL' : Nat} {ret' : Option FieldType} {rm : Room} {as' : List Value} {Qc : Option Value → Heap → Prop} (K : own_Con l Z y bytes' maxL' none rm n0 (.ref a :: as') h Qc) (d : own_D bytes pc (.invokespecial i) 3 pn) (hi : y.name = "<init>") (w1 : (Jvm.Cond.methodLink own i y).before a0 Z = true) (w4 : (Jvm.Cond.instanceMethod y).before a0 Z = true) (w5 : (Jvm.Cond.code y bytes' maxL' none).before a0 Z = true) (w6 : (Jvm.Cond.initialized y.cls).before a0 Z = true)
    (hy : y.cls ≠ "java/lang/invoke/MethodHandle" ∧ y.cls ≠ "java/lang/invoke/VarHandle") {ps : List FieldType} {r : Option FieldType} (hp : parseMethodDescriptor y.desc = some ⟨ps, r⟩) (hn : as'.length = ps.length) (hst : st = as'.reverse ++ .ref a :: rest) (hLs : Ls.length = maxL) (hfr : rm.frames + 1 ≤ R.frames) (hlo : (rest.map fun v => v.category).sum + (maxL' + 11) + rm.locals ≤ R.locals) (hc : cells + rm.cells ≤ R.cells) (hs : slots + rm.slots ≤ R.slots)
    (k : ∀ v h', Qc v h' → own_Go p l e R s m args below meth c n0 Q (cells + rm.cells) (slots + rm.slots) h' pn Ls (v.toList ++ rest)) : own_Go p l e R s m args below meth c n0 Q cells slots h pc Ls st := by
  obtain ⟨hd, rfl⟩ := d
  intro T locs ce sl h1 h2 hf X eT
  obtain ⟨v, _, ⟨T', L', k', n'⟩, -, X', ⟨Lc, hq, l', y', z'⟩, st'⟩ := X.specialBack C.1 (y := y) hi C.2.2.1 (mvT C.2.1 w1) (mvT C.2.1 w4) (mvT C.2.1 w5) hy (backOf (W := (rest.map fun v => v.category).sum) (Q := fun v h L => Qc v h ∧ Fr n0 L) (K []) C.2.1 w5 w6 hfr hlo) (g := mkF m pc Ls.toArray st) rfl (by rw [C.2.2.2.2.1]; simpa using hLs) (Steps.refl _) (argsL := as') (rest := rest) (lenOf hp hn) hst (by simp) (hb C.2.2.2.1 hd) (fun _ _ => ⟨rfl, eT, Nat.le_trans (Nat.add_le_add_right h1 _) hc, Nat.le_trans (Nat.add_le_add_right h2 _) hs⟩)
  dsimp only [Pt.U, Pt.locs, Pt.cells, Pt.slots] at X' l' y' z' st' hq
  subst l' y' z'
  obtain ⟨s₂, o, g1, g2⟩ := k v T'.heap hq.1 T' _ _ _ (by omega) (by omega) (Fr.app hf hq.2) X' rfl
  exact ⟨s₂, o, st'.trans g1, g2⟩
theorem own_nf {args : Array Value} {y : MethodName} {K : String} (hZ : Z.Warmed39 s.vm) (w : (Jvm.Cond.selects K y y).before a0 Z = true) : NotFace s y := notFace_of_selects (args := args) (mvT hZ w)
/-- from the words of a case to facts -/
theorem own_fld {t u : Term} {O n dd : String} {a : Addr} {v : Value} (hw : (Jvm.Cond.eq (Term.field t O n dd) u).value args Z none Z [] = some true) (ht : t.eval args Z none [] Z = some (.ref a)) (hu : u.eval args Z none [] Z = some v) : Fld Z Z.heap a O n dd v := by
  refine Fld.start ?_
  rw [← fld_at ht]
  obtain ⟨x, y, e1, e2, k1, k2⟩ := cmp_v (Or.inl hw)
  cases hu.symm.trans e2
  rw [e1]
  simp only [Jvm.Cond.value, e1, e2] at hw
  cases x <;> cases v <;> simp_all [Kin, Value.isRef]
theorem own_main {y : MethodName} {rm : Room} {as' : List Value} {ws : List Jvm.Cond} (K : own_Con l Z y bytes maxL ret rm n0 as' h Qn) : MetFree l y (head1 (Jvm.Cond.code y bytes maxL ret :: ws) rm) (fun a U => a = as'.toArray ∧ Z.Warmed39 U.vm ∧ U.heap = h) (fun _ _ _ _ _ => True) (fun _ U o U' => ∃ v L, o = .returned v ∧ (Qn v U'.heap ∧ Fr n0 L) ∧ FrameEnd U o U' L rm.cells rm.slots) := K ws
theorem own_ext_ext {h0 h' : Heap} (E : Ext h0 h) (E' : Ext h h') : Ext h0 h' := ⟨Nat.le_trans E.1 E'.1, fun a c q => E'.2 a c (E.2 a c q)⟩
theorem own_ext_wr {h0 h' : Heap} {a : Addr} {j : Nat} {v : Value} (E : Ext h0 h) (W : Wr h h' a j v) (q : h0.size ≤ a) : Ext h0 h' := by
  refine ⟨by rw [W.size]; exact E.1, fun b c hb => ?_⟩
  obtain ⟨c', e1, -, -, -, e5, -⟩ := wr_at W (E.2 b c hb)
  have ne : b ≠ a := fun e => absurd (Array.getElem?_eq_some_iff.mp hb).1 (by rw [e]; exact Nat.not_lt.mpr q)
  rw [e1, e5 ne]
theorem own_ext_keep {h0 h' : Heap} {ws : List Addr} (E : Ext h0 h) (K : Keep h h' ws) (q : ∀ x ∈ ws, h0.size ≤ x) : Ext h0 h' := ⟨Nat.le_trans E.1 K.1, fun b c hb => K.2.1 b c (E.2 b c hb) fun z => absurd (Array.getElem?_eq_some_iff.mp hb).1 (Nat.not_lt.mpr (q b z))⟩
theorem own_ext_refl (h : Heap) : Ext h h := ⟨Nat.le_refl _, fun _ _ q => q⟩
/-- an array of references and all that lies in it -/
def own_Av (Z : State) (h : Heap) (a : Addr) (ty : FieldType) (cA : ClassId) (vs : List Value) : Prop := ∃ c : Cell, Arr Z h a c ty ∧ c.cls = cA ∧ c.slots = vs.toArray
theorem own_Av.ext {h' : Heap} {a : Addr} {ty : FieldType} {cA : ClassId} {vs : List Value} (A : own_Av Z h a ty cA vs) (E : Ext h h') : own_Av Z h' a ty cA vs := by obtain ⟨c, A, r⟩ := A; exact ⟨c, A.ext E, r⟩
theorem own_newA (C : own_Cx p l e R s m args below meth c Z own nm bytes maxL ret) {K : String} {i : Nat} {n : Int32} (d : own_D bytes pc (.anewarray i) 3 pn) (w1 : (Jvm.Cond.classLink own i K).before a0 Z = true) (w2 : (Jvm.Cond.arrayOver (.object K)).before a0 Z = true) (hn : ¬ n < 0) (cap : Nat) (hcap : n.toNatClampNeg = cap) (hb8 : cap * 8 ≤ 536870912) (hc : cells + 1 ≤ R.cells) (hs : slots + cap ≤ R.slots)
    (k : ∀ (h' : Heap) (a : Addr) (cA : ClassId), a = h.size → Ext h h' → own_Av Z h' a (.object K) cA (List.replicate cap .null) → Ovr Z cA K → own_Go p l e R s m args below meth c n0 Q (cells + 1) (slots + cap) h' pn Ls (.ref a :: st)) : own_Go p l e R s m args below meth c n0 Q cells slots h pc Ls (.int n :: st) :=
  own_newR C d w1 w2 hn cap (Nat.le_of_eq hcap) hb8 hc hs fun h' a cA e1 E A O => k h' a cA e1 E ⟨_, A, rfl, by subst hcap; simp [newA, defaultValue]⟩ O
theorem own_stA (C : own_Cx p l e R s m args below meth c Z own nm bytes maxL ret) {K : String} {a b : Addr} {cA : ClassId} {vs : List Value} {j : Int32} (d : own_D bytes pc .aastore 1 pn) (A : own_Av Z h a (.object K) cA vs) (O : Ovr Z cA K) (I : Ins Z h b K true) (i : Nat) (hj : ¬ j < 0) (hi : j.toNatClampNeg = i) (hl : i < vs.length) (ha : n0 ≤ a)
    (k : ∀ h', Wr h h' a i (.ref b) → own_Av Z h' a (.object K) cA (vs.set i (.ref b)) → own_Go p l e R s m args below meth c n0 Q cells slots h' pn Ls st) : own_Go p l e R s m args below meth c n0 Q cells slots h pc Ls (.ref b :: .int j :: .ref a :: st) := by
  obtain ⟨cl, A, rfl, hv⟩ := A
  subst hi
  have hsz : cl.slots.size = vs.length := by rw [hv]; simp
  refine own_stR C d A (by rw [hsz]; intro q; rcases q with q | q; exact hj q; omega) rfl (Sto.of A O I) ha fun h' W => k h' W ⟨_, A.same W, rfl, ?_⟩
  simp [Cell.setSlot, hv]
theorem own_ldA (C : own_Cx p l e R s m args below meth c Z own nm bytes maxL ret) {ty : FieldType} {a : Addr} {v : Value} {cA : ClassId} {vs : List Value} {j : Int32} (d : own_D bytes pc .aaload 1 pn) (A : own_Av Z h a ty cA vs) (hty : ty.isReference = true) (i : Nat) (hj : ¬ j < 0) (hi : j.toNatClampNeg = i) (hat : vs[i]? = some v)
    (k : own_Go p l e R s m args below meth c n0 Q cells slots h pn Ls (v :: st)) : own_Go p l e R s m args below meth c n0 Q cells slots h pc Ls (.int j :: .ref a :: st) := by
  obtain ⟨cl, A, rfl, hv⟩ := A
  subst hi
  have hl : j.toNatClampNeg < vs.length := (List.getElem?_eq_some_iff.mp hat).1
  have hsz : cl.slots.size = vs.length := by rw [hv]; simp
  exact own_aaload C d A hty (by rw [hsz]; intro q; rcases q with q | q; exact hj q; omega) (by rw [hv]; simpa using hat) k
theorem own_lenA (C : own_Cx p l e R s m args below meth c Z own nm bytes maxL ret) {ty : FieldType} {a : Addr} {cA : ClassId} {vs : List Value} (d : own_D bytes pc .arraylength 1 pn) (A : own_Av Z h a ty cA vs) {z : Int32} (hz : vs.length.toInt32 = z)
    (k : own_Go p l e R s m args below meth c n0 Q cells slots h pn Ls (.int z :: st)) : own_Go p l e R s m args below meth c n0 Q cells slots h pc Ls (.ref a :: st) := by
  obtain ⟨cl, A, rfl, hv⟩ := A
  refine own_arraylength C d A ?_
  have hsz : cl.slots.size = vs.length := by rw [hv]; simp
  rw [hsz, hz]; exact k
theorem own_getClass (C : own_Cx p l e R s m args below meth c Z own nm bytes maxL ret) {i : Nat} {K : String} {a mir : Addr} (d : own_D bytes pc (.invokevirtual i) 3 pn) (w1 : (Jvm.Cond.methodLink own i ⟨"java/lang/Object", "getClass", "()Ljava/lang/Class;"⟩).before a0 Z = true) (w2 : (Jvm.Cond.declares ⟨"java/lang/Object", "getClass", "()Ljava/lang/Class;"⟩).before a0 Z = true) (w3 : (Jvm.Cond.selects K ⟨"java/lang/Object", "getClass", "()Ljava/lang/Class;"⟩ ⟨"java/lang/Object", "getClass", "()Ljava/lang/Class;"⟩).before a0 Z = true)
    (w4 : (Jvm.Cond.instanceMethod ⟨"java/lang/Object", "getClass", "()Ljava/lang/Class;"⟩).before a0 Z = true) (w5 : (Jvm.Cond.native ⟨"java/lang/Object", "getClass", "()Ljava/lang/Class;"⟩).before a0 Z = true) (E : Exa Z h a K) (M : ∃ (cc : ClassId) (kc : Class), Z.vm.findClass K = some cc ∧ Z.vm.classes[cc]? = some kc ∧ kc.mirror = some mir) (hLs : Ls.length = maxL) (hfr : 1 ≤ R.frames) (hlo : (st.map fun v => v.category).sum + (nativeFrameWords "java/lang/Object" "getClass" 1 + 11) ≤ R.locals)
    (k : own_Go p l e R s m args below meth c n0 Q cells slots h pn Ls (.ref mir :: st)) : own_Go p l e R s m args below meth c n0 Q cells slots h pc Ls (.ref a :: st) := by
  obtain ⟨hd, rfl⟩ := d
  refine own_warm (fun T locs ce sl X eT => ?_) k
  obtain ⟨cB, kB, i1, i2, i3⟩ := isOf C.2.1 eT E
  obtain ⟨cc, kc, m1, m2, m3⟩ := M
  rw [C.2.1.alike.findClass] at i1
  cases i1.symm.trans m1
  obtain ⟨k', q, ek⟩ := C.2.1.alike.2.2 _ _ m2
  obtain ⟨vm', X', st'⟩ := X.getClassOf C.1 C.2.2.1 (mvT C.2.1 w1) (mvT C.2.1 w2) (own_nf (args := #[]) C.2.1 w3) (mvT C.2.1 w3) (mvT C.2.1 w4) (mvT C.2.1 w5) (by rw [C.2.1.alike.findClass]; exact m1) i3 q (by rw [ek]; exact m3) (g := mkF m pc Ls.toArray (.ref a :: st)) rfl (by rw [C.2.2.2.2.1]; simpa using hLs) rfl (hb C.2.2.2.1 hd) hfr (by simpa using hlo)
  exact ⟨_, X', eT, st'⟩
theorem own_len {t : Term} {a : Addr} {cl : Cell} {ty : FieldType} {n : Int32} {k : Nat} (hn : n.toNatClampNeg = k) (hw : (Jvm.Cond.eq (Term.length t) (Term.int n)).value args Z none Z [] = some true) (ht : t.eval args Z none [] Z = some (.ref a)) (A : Arr Z Z.heap a cl ty) : cl.slots.size = k := by
  obtain ⟨x, y, e1, e2, -, -⟩ := cmp_v (Or.inl hw)
  have hx := e1
  simp only [Term.eval, ht, Option.bind_eq_bind, Option.bind_some] at e1
  rw [A.fin (Vm.Alike.refl _)] at e1
  simp only [Option.bind_some] at e1
  split at e1
  · rename_i q
    cases e1
    have h2 := gotT (Cond.eq_ints hx (show (Term.int n).eval args Z none [] Z = some (.int n) from rfl)) hw
    have h3 : cl.slots.size.toInt32.toNatClampNeg = cl.slots.size := by
      show (cl.slots.size.toInt32.toInt).toNat = cl.slots.size
      rw [len_toInt q]; rfl
    rw [h2, hn] at h3
    exact h3.symm
  · cases e1
theorem own_elem {t u : Term} {a b : Addr} {cl : Cell} {ty : FieldType} {j : Int32} {k : Nat} (hk : j.toNatClampNeg = k) (hw : (Jvm.Cond.eq (Term.elem t (Term.int j)) u).value args Z none Z [] = some true) (ht : t.eval args Z none [] Z = some (.ref a)) (A : Arr Z Z.heap a cl ty) (hu : u.eval args Z none [] Z = some (.ref b)) : cl.slots[k]? = some (.ref b) := by
  subst hk
  obtain ⟨x, y, e1, e2, k1, k2⟩ := cmp_v (Or.inl hw)
  cases hu.symm.trans e2
  obtain ⟨-, e4⟩ := elem_in e1 ht rfl A.1
  rw [e4]
  simp only [Jvm.Cond.value, e1, e2] at hw
  cases x <;> simp_all [Kin, Value.isRef]
theorem own_callU (C : own_Cx p l e R s m args below meth c Z own nm bytes maxL ret) {i : Nat} {a : Addr} {Kc owner : String} {z : MethodName} {y : MethodName} {bytes' : ByteArray} {maxL' : Nat} {ret' : Option FieldType} {rm : Room} {as' : List Value} {Qc : Option Value → Heap → Prop} (K : own_Con l Z z bytes' maxL' ret' rm n0 (.ref a :: as') h Qc) (E : Exa Z h a Kc) (d : own_D bytes pc (.invokevirtual i) 3 pn) (w1 : (Jvm.Cond.methodLink own i y).before a0 Z = true) (w2 : (Jvm.Cond.sameMethod y.cls owner y.name y.desc).before a0 Z = true) (w2' : (Jvm.Cond.declares ⟨owner, y.name, y.desc⟩).before a0 Z = true) (w3 : (Jvm.Cond.selects Kc y z).before a0 Z = true) (w4 : (Jvm.Cond.instanceMethod z).before a0 Z = true) (w5 : (Jvm.Cond.code z bytes' maxL' ret').before a0 Z = true) (w6 : (Jvm.Cond.initialized z.cls).before a0 Z = true)
    (hy : owner ≠ "java/lang/invoke/MethodHandle" ∧ owner ≠ "java/lang/invoke/VarHandle") {ps : List FieldType} {r : Option FieldType} (hp : parseMethodDescriptor y.desc = some ⟨ps, r⟩) (hn : as'.length = ps.length) (hst : st = as'.reverse ++ .ref a :: rest) (hLs : Ls.length = maxL) (hfr : rm.frames + 1 ≤ R.frames) (hlo : (rest.map fun v => v.category).sum + (maxL' + 11) + rm.locals ≤ R.locals) (hc : cells + rm.cells ≤ R.cells) (hs : slots + rm.slots ≤ R.slots)
    (k : ∀ v h', Qc v h' → own_Go p l e R s m args below meth c n0 Q (cells + rm.cells) (slots + rm.slots) h' pn Ls (v.toList ++ rest)) : own_Go p l e R s m args below meth c n0 Q cells slots h pc Ls st := by
  obtain ⟨hd, rfl⟩ := d
  intro T locs ce sl h1 h2 hf X eT
  obtain ⟨cB, kB, qa, qb, qc⟩ := isOf C.2.1 eT E
  obtain ⟨v, _, ⟨T', L', k', n'⟩, -, X', ⟨Lc, hq, l', y', z'⟩, st'⟩ := X.virtualBackUp C.1 (x := y) (y := z) C.2.2.1 (mvT C.2.1 w1) (mvT C.2.1 w2) (mvT C.2.1 w2') hy (mvT C.2.1 w3) (mvT C.2.1 w4) (backOf (W := (rest.map fun v => v.category).sum) (Q := fun v h L => Qc v h ∧ Fr n0 L) (K []) C.2.1 w5 w6 hfr hlo) qa qc (g := mkF m pc Ls.toArray st) rfl (by rw [C.2.2.2.2.1]; simpa using hLs) (Steps.refl _) (argsL := as') (rest := rest) (lenOf hp hn) hst (by simp) (hb C.2.2.2.1 hd) (fun _ _ => ⟨rfl, eT, Nat.le_trans (Nat.add_le_add_right h1 _) hc, Nat.le_trans (Nat.add_le_add_right h2 _) hs⟩)
  dsimp only [Pt.U, Pt.locs, Pt.cells, Pt.slots] at X' l' y' z' st' hq
  subst l' y' z'
  obtain ⟨s₂, o, g1, g2⟩ := k v T'.heap hq.1 T' _ _ _ (by omega) (by omega) (Fr.app hf hq.2) X' rfl
  exact ⟨s₂, o, st'.trans g1, g2⟩
theorem own_callF (C : own_Cx p l e R s m args below meth c Z own nm bytes maxL ret) {i n : Nat} {a : Addr} {Kc : String} {z : MethodName} {y : MethodName} {bytes' : ByteArray} {maxL' : Nat} {ret' : Option FieldType} {rm : Room} {as' : List Value} {Qc : Option Value → Heap → Prop} (K : own_Con l Z z bytes' maxL' ret' rm n0 (.ref a :: as') h Qc) (E : Exa Z h a Kc) (d : own_D bytes pc (.invokeinterface i n) 5 pn) (w1 : (Jvm.Cond.methodLink own i y).before a0 Z = true) (w2 : (Jvm.Cond.declares y).before a0 Z = true) (w2' : (Jvm.Cond.interfaceMethod y.cls y.cls y.name y.desc).before a0 Z = true) (hfa : ((Jvm.Cond.interfaceMethod y.cls y.cls y.name y.desc).onTables && (Jvm.Cond.interfaceMethod y.cls y.cls y.name y.desc).keepsFace) = true) (w3 : (Jvm.Cond.selects Kc y z).before a0 Z = true) (w4 : (Jvm.Cond.instanceMethod z).before a0 Z = true) (w7 : (Jvm.Cond.publicMethod z).before a0 Z = true) (w8 : (Jvm.Cond.unhidden Kc y.name y.desc).before a0 Z = true) (w9 : (Jvm.Cond.castable Kc y.cls).before a0 Z = true) (w5 : (Jvm.Cond.code z bytes' maxL' ret').before a0 Z = true) (w6 : (Jvm.Cond.initialized z.cls).before a0 Z = true)
    (hy : y.cls ≠ "java/lang/invoke/MethodHandle" ∧ y.cls ≠ "java/lang/invoke/VarHandle") {ps : List FieldType} {r : Option FieldType} (hp : parseMethodDescriptor y.desc = some ⟨ps, r⟩) (hn : as'.length = ps.length) (hst : st = as'.reverse ++ .ref a :: rest) (hLs : Ls.length = maxL) (hfr : rm.frames + 1 ≤ R.frames) (hlo : (rest.map fun v => v.category).sum + (maxL' + 11) + rm.locals ≤ R.locals) (hc : cells + rm.cells ≤ R.cells) (hs : slots + rm.slots ≤ R.slots)
    (k : ∀ v h', Qc v h' → own_Go p l e R s m args below meth c n0 Q (cells + rm.cells) (slots + rm.slots) h' pn Ls (v.toList ++ rest)) : own_Go p l e R s m args below meth c n0 Q cells slots h pc Ls st := by
  obtain ⟨hd, rfl⟩ := d
  intro T locs ce sl h1 h2 hf X eT
  obtain ⟨cB, kB, qa, qb, qc⟩ := isOf C.2.1 eT E
  obtain ⟨v, _, ⟨T', L', k', n'⟩, -, X', ⟨Lc, hq, l', y', z'⟩, st'⟩ := X.interfaceBack C.1 (xi := y) (y := z) C.2.2.1 (mvT C.2.1 w1) (mvT C.2.1 w2) (mvT C.2.1 w2' hfa) (mvT C.2.1 w3) (mvT C.2.1 w4) (mvT C.2.1 w7) (mvT C.2.1 w8) (mvT C.2.1 w9) hy (backOf (W := (rest.map fun v => v.category).sum) (Q := fun v h L => Qc v h ∧ Fr n0 L) (K []) C.2.1 w5 w6 hfr hlo) qa qb qc (g := mkF m pc Ls.toArray st) rfl (by rw [C.2.2.2.2.1]; simpa using hLs) (Steps.refl _) (argsL := as') (rest := rest) (lenOf hp hn) hst (by simp) (hb C.2.2.2.1 hd) (fun _ _ => ⟨rfl, eT, Nat.le_trans (Nat.add_le_add_right h1 _) hc, Nat.le_trans (Nat.add_le_add_right h2 _) hs⟩)
  dsimp only [Pt.U, Pt.locs, Pt.cells, Pt.slots] at X' l' y' z' st' hq
  subst l' y' z'
  obtain ⟨s₂, o, g1, g2⟩ := k v T'.heap hq.1 T' _ _ _ (by omega) (by omega) (Fr.app hf hq.2) X' rfl
  exact ⟨s₂, o, st'.trans g1, g2⟩
end OwnKit
end Jvm.RoadKit
namespace Jvm.RoadKit
open Sem ClassFile Op Lib Jvm.Stand Jvm.Free Jvm.LawKit
section OwnEq
abbrev own_OE : MethodName := ⟨"java/lang/Object", "equals", "(Ljava/lang/Object;)Z"⟩
variable {p : Program} {l : Launch} {e : Env} {R : Room} {s : State} {m : MethodId} {args : Array Value} {below : List Frame} {meth : Method} {c : Code} {Z : State} {a0 : Array Value} {h : Heap} {own nm : String} {bytes : ByteArray} {maxL : Nat} {ret : Option FieldType} {n0 cells slots pc pn pt : Nat} {Q : Option Value → State → List Loc → Prop} {Ls : List Slot} {st rest : List Value}
/-- Object.equals by its own seven instructions: no word on the class's start is asked -/
theorem own_backEq {len W : Nat} {bs : ByteArray} (e0 : decode bs 0 = .ok (.aload_n 0, 1)) (e1 : decode bs 1 = .ok (.aload_n 1, 1)) (e2 : decode bs 2 = .ok (.if_acmp .ne 7, 3)) (e5 : decode bs 5 = .ok (.iconst 1, 1)) (e6 : decode bs 6 = .ok (.goto 4, 3)) (e9 : decode bs 9 = .ok (.iconst 0, 1)) (e10 : decode bs 10 = .ok (.ireturn, 1)) (hx : p.tables.exec = Jvm.exec) (hZ : Z.Warmed39 s.vm) (wc : (Jvm.Cond.code own_OE bs 2 (some .boolean)).before a0 Z = true) (hfr : 1 ≤ R.frames) (hlo : W + 13 ≤ R.locals) (a b : Addr) :
    Back l R p e below s args own_OE len W (fun _ as => as = #[.ref a, .ref b]) (fun A _ v B => v = some (.int (if (.ref a : Value) = .ref b then 1 else 0)) ∧ B = A) := by
  intro m meth c A g ig mk as X hg hsize hdg hW hn hp
  subst hp
  obtain ⟨U, Lc, c0, s0⟩ := A
  dsimp only [Pt.U, Pt.locs, Pt.cells, Pt.slots] at X hn ⊢
  have wU : (Jvm.Cond.code own_OE bs 2 (some .boolean)).before args U = true := mv (wtrans hZ X.warmed) wc
  obtain ⟨mY, cY, hmY, hcY, hbY, hlY, hrY, hlkY, -, -⟩ := Cond.code_spec hn wU
  have hat : At U g.method c below := by rw [hg]; exact X.here
  have hroom := X.notFull (g := g) (vars := cY.maxLocals) hsize hfr (by rw [hlY]; omega)
  refine ⟨_, ⟨U, Lc, c0, s0⟩, X, ⟨rfl, rfl⟩, ?_⟩
  dsimp only [Pt.U]
  rw [doInvoke_enter hat.top [] hmY hcY hlkY hroom]
  have hf := frames_entered (g := g) hat.top (.java (entryFrame mk #[.ref a, .ref b] cY.maxLocals))
  have Y : At ((U.setTop g).pushFrame (.java (entryFrame mk #[.ref a, .ref b] cY.maxLocals))) mk cY below := hat.enter _ hmY hcY (State.plainMethod.of_named (x := own_OE) (by decide +kernel) hn hmY)
  have hm' : ((U.setTop g).pushFrame (.java (entryFrame mk #[.ref a, .ref b] cY.maxLocals))).vm.method? mk = some mY := by simpa [State.pushFrame, State.setFrames] using hmY
  have hcg : ((U.setTop g).pushFrame (.java (entryFrame mk #[.ref a, .ref b] cY.maxLocals))).code? g.method = some c := by
    have := hat.code; rw [State.code?_eq] at this ⊢; simpa [State.pushFrame, State.setFrames] using this
  have hback : ((U.setTop g).pushFrame (.java (entryFrame mk #[.ref a, .ref b] cY.maxLocals))).setFrames (.java g :: U.frames.tail) = U.setTop g := setFrames_entered hat.top _
  have hef : entryFrame mk #[.ref a, .ref b] cY.maxLocals = mkF mk 0 #[.val (.ref a), .val (.ref b)] [] := by rw [hlY]; first | (simp [entryFrame, mkF, argsToLocals, Value.category]; done) | rfl
  generalize hV : (U.setTop g).pushFrame (.java (entryFrame mk #[.ref a, .ref b] cY.maxLocals)) = V at *
  have fin : ∀ (z : Int32), z = 0 ∨ z = 1 → ∀ Ls, Steps p.tables e below (V.setTop (mkF mk 10 Ls [.int z])) (U.setTop { g with pc := g.pc + len, stack := .int z :: g.stack }) := by
    intro z hz Ls
    have hnar : narrow .boolean (.int z) = .int z := by rcases hz with rfl | rfl <;> rfl
    show Steps p.tables e below (V.setTop { method := mk, pc := 10, locals := Ls, stack := [.int z], locked := none }) _
    jvm_step Y [Y.top, hx, hb hbY e10, hm', hrY, hnar]
    intro acts
    rw [doReturn_leave (g := g) (meth := mY) (cg := c) (ig := ig) (len := len) acts hf hm' hlkY rfl rfl hcg hdg, hback, State.setTop_setTop]
    exact Steps.refl _
  rw [hef]
  refine XS.aloadN Y hx rfl (hb hbY e0) rfl rfl ?_
  refine XS.aloadN Y hx rfl (hb hbY e1) rfl rfl ?_
  by_cases q : (.ref a : Value) = .ref b
  · rw [if_pos q]
    refine XT.acmpNo Y hx rfl (hb hbY e2) rfl rfl rfl (XT.aa_ne_f q) ?_
    refine XS.iconst Y hx rfl (hb hbY e5) ?_
    refine XS.goto Y hx rfl (pc0 := 6) (pc' := 10) rfl (hb hbY e6) (by decide) (by decide) ?_
    exact fin 1 (Or.inr rfl) _
  · rw [if_neg q]
    refine XT.acmpYes Y hx rfl (pc0 := 2) (pc' := 9) rfl (hb hbY e2) rfl rfl rfl (XT.aa_ne_t q) (by decide) (by decide) ?_
    refine XS.iconst Y hx rfl (hb hbY e9) ?_
    exact fin 0 (Or.inl rfl) _
theorem own_objEq (C : own_Cx p l e R s m args below meth c Z own nm bytes maxL ret) {i : Nat} {a b : Addr} {Kc : String} {bs : ByteArray} (d : own_D bytes pc (.invokevirtual i) 3 pn) (w1 : (Jvm.Cond.methodLink own i own_OE).before a0 Z = true) (w2 : (Jvm.Cond.declares own_OE).before a0 Z = true) (w3 : (Jvm.Cond.selects Kc own_OE own_OE).before a0 Z = true) (w4 : (Jvm.Cond.instanceMethod own_OE).before a0 Z = true)
    (w5 : (Jvm.Cond.code own_OE bs 2 (some .boolean)).before a0 Z = true) (e0 : decode bs 0 = .ok (.aload_n 0, 1)) (e1 : decode bs 1 = .ok (.aload_n 1, 1)) (e2 : decode bs 2 = .ok (.if_acmp .ne 7, 3)) (e5 : decode bs 5 = .ok (.iconst 1, 1)) (e6 : decode bs 6 = .ok (.goto 4, 3)) (e9 : decode bs 9 = .ok (.iconst 0, 1)) (e10 : decode bs 10 = .ok (.ireturn, 1)) (E : Exa Z h a Kc) (hst : st = rest) (hLs : Ls.length = maxL) (hfr : 1 ≤ R.frames) (hlo : (st.map fun v => v.category).sum + 13 ≤ R.locals)
    (k : own_Go p l e R s m args below meth c n0 Q cells slots h pn Ls (.int (if (.ref a : Value) = .ref b then 1 else 0) :: st)) : own_Go p l e R s m args below meth c n0 Q cells slots h pc Ls (.ref b :: .ref a :: st) := by
  subst hst
  obtain ⟨hd, rfl⟩ := d
  refine own_warm (fun T locs ce sl X eT => ?_) k
  obtain ⟨cB, kB, qa, qb, qc⟩ := isOf C.2.1 eT E
  obtain ⟨v, vm₁, ⟨T', L', k', n'⟩, -, X', ⟨rfl, hB⟩, st'⟩ := X.virtualBack C.1 (y := own_OE) (z := own_OE) C.2.2.1 (mvT C.2.1 w1) (mvT C.2.1 w2) (own_nf (args := #[]) C.2.1 w3) (mvT C.2.1 w3) (mvT C.2.1 w4) (by decide) (own_backEq e0 e1 e2 e5 e6 e9 e10 (W := (st.map fun v => v.category).sum) C.1 C.2.1 w5 hfr hlo a b) qa qc (g := mkF m pc Ls.toArray (.ref b :: .ref a :: st)) rfl (by rw [C.2.2.2.2.1]; simpa using hLs) (Steps.refl _) (argsL := [.ref b]) (rest := st) (lenOf (ps := [.object "java/lang/Object"]) (r := some .boolean) (by decide +kernel) rfl) rfl (by simp) (hb C.2.2.2.1 hd) (fun _ _ => rfl)
  cases hB
  exact ⟨_, X', eT, fun target r => st'.trans r⟩
end OwnEq
end Jvm.RoadKit
namespace Jvm.Pilot.@@N@@
open Jvm Jvm.ClassFile Sem Op Lib Jvm.Free Jvm.Stand Jvm.LawKit Jvm.RoadKit Bundle Jvm.Pilot.@@N@@.Jvm.D

theorem d0_0 : own_D code 0 (.iload_n 0) 1 1 := ⟨at_0, rfl⟩
theorem d0_1 : own_D code 1 (.ldc 7) 2 3 := ⟨at_1, rfl⟩
theorem d0_3 : own_D code 3 (.iand) 1 4 := ⟨at_3, rfl⟩
theorem d0_4 : own_D code 4 (.bipush 7) 2 6 := ⟨at_4, rfl⟩
theorem d0_6 : own_D code 6 (.irem) 1 7 := ⟨at_6, rfl⟩
theorem d0_7 : own_D code 7 (.istore_n 1) 1 8 := ⟨at_7, rfl⟩
theorem d0_8 : own_D code 8 (.bipush 7) 2 10 := ⟨at_8, rfl⟩
theorem d0_10 : own_D code 10 (.anewarray 8) 3 13 := ⟨at_10, rfl⟩
theorem d0_13 : own_D code 13 (.dup) 1 14 := ⟨at_13, rfl⟩
theorem d0_14 : own_D code 14 (.iconst 0) 1 15 := ⟨at_14, rfl⟩
theorem d0_15 : own_D code 15 (.getstatic 10) 3 18 := ⟨at_15, rfl⟩
theorem d0_18 : own_D code 18 (.aastore) 1 19 := ⟨at_18, rfl⟩
theorem d0_19 : own_D code 19 (.dup) 1 20 := ⟨at_19, rfl⟩
theorem d0_20 : own_D code 20 (.iconst 1) 1 21 := ⟨at_20, rfl⟩
theorem d0_21 : own_D code 21 (.getstatic 14) 3 24 := ⟨at_21, rfl⟩
theorem d0_24 : own_D code 24 (.aastore) 1 25 := ⟨at_24, rfl⟩
theorem d0_25 : own_D code 25 (.dup) 1 26 := ⟨at_25, rfl⟩
theorem d0_26 : own_D code 26 (.iconst 2) 1 27 := ⟨at_26, rfl⟩
theorem d0_27 : own_D code 27 (.getstatic 17) 3 30 := ⟨at_27, rfl⟩
theorem d0_30 : own_D code 30 (.aastore) 1 31 := ⟨at_30, rfl⟩
theorem d0_31 : own_D code 31 (.dup) 1 32 := ⟨at_31, rfl⟩
theorem d0_32 : own_D code 32 (.iconst 3) 1 33 := ⟨at_32, rfl⟩
theorem d0_33 : own_D code 33 (.getstatic 20) 3 36 := ⟨at_33, rfl⟩
theorem d0_36 : own_D code 36 (.aastore) 1 37 := ⟨at_36, rfl⟩
theorem d0_37 : own_D code 37 (.dup) 1 38 := ⟨at_37, rfl⟩
theorem d0_38 : own_D code 38 (.iconst 4) 1 39 := ⟨at_38, rfl⟩
theorem d0_39 : own_D code 39 (.getstatic 23) 3 42 := ⟨at_39, rfl⟩
theorem d0_42 : own_D code 42 (.aastore) 1 43 := ⟨at_42, rfl⟩
theorem d0_43 : own_D code 43 (.dup) 1 44 := ⟨at_43, rfl⟩
theorem d0_44 : own_D code 44 (.iconst 5) 1 45 := ⟨at_44, rfl⟩
theorem d0_45 : own_D code 45 (.getstatic 26) 3 48 := ⟨at_45, rfl⟩
theorem d0_48 : own_D code 48 (.aastore) 1 49 := ⟨at_48, rfl⟩
theorem d0_49 : own_D code 49 (.dup) 1 50 := ⟨at_49, rfl⟩
theorem d0_50 : own_D code 50 (.bipush 6) 2 52 := ⟨at_50, rfl⟩
theorem d0_52 : own_D code 52 (.getstatic 29) 3 55 := ⟨at_52, rfl⟩
theorem d0_55 : own_D code 55 (.aastore) 1 56 := ⟨at_55, rfl⟩
theorem d0_56 : own_D code 56 (.astore_n 2) 1 57 := ⟨at_56, rfl⟩
theorem d0_57 : own_D code 57 (.aload_n 2) 1 58 := ⟨at_57, rfl⟩
theorem d0_58 : own_D code 58 (.iload_n 1) 1 59 := ⟨at_58, rfl⟩
theorem d0_59 : own_D code 59 (.aaload) 1 60 := ⟨at_59, rfl⟩
theorem d0_60 : own_D code 60 (.astore_n 3) 1 61 := ⟨at_60, rfl⟩
theorem d0_61 : own_D code 61 (.aload_n 3) 1 62 := ⟨at_61, rfl⟩
theorem d0_62 : own_D code 62 (.invokevirtual 32) 3 65 := ⟨at_62, rfl⟩
theorem d0_65 : own_D code 65 (.istore 4) 2 67 := ⟨at_65, rfl⟩
theorem d0_67 : own_D code 67 (.iload_n 1) 1 68 := ⟨at_67, rfl⟩
theorem d0_68 : own_D code 68 (.iconst 2) 1 69 := ⟨at_68, rfl⟩
theorem d0_69 : own_D code 69 (.if_icmp .eq 8) 3 72 := ⟨at_69, rfl⟩
theorem t0_69 : own_T 69 (8) 77 := ⟨by decide, by decide⟩
theorem d0_72 : own_D code 72 (.iload_n 1) 1 73 := ⟨at_72, rfl⟩
theorem d0_73 : own_D code 73 (.iconst 3) 1 74 := ⟨at_73, rfl⟩
theorem d0_74 : own_D code 74 (.if_icmp .ne 7) 3 77 := ⟨at_74, rfl⟩
theorem t0_74 : own_T 74 (7) 81 := ⟨by decide, by decide⟩
theorem d0_77 : own_D code 77 (.iconst 1) 1 78 := ⟨at_77, rfl⟩
theorem d0_78 : own_D code 78 (.goto 4) 3 81 := ⟨at_78, rfl⟩
theorem t0_78 : own_T 78 (4) 82 := ⟨by decide, by decide⟩
theorem d0_81 : own_D code 81 (.iconst 0) 1 82 := ⟨at_81, rfl⟩
theorem d0_82 : own_D code 82 (.istore 5) 2 84 := ⟨at_82, rfl⟩
theorem d0_84 : own_D code 84 (.aload_n 3) 1 85 := ⟨at_84, rfl⟩
theorem d0_85 : own_D code 85 (.getstatic 36) 3 88 := ⟨at_85, rfl⟩
theorem d0_88 : own_D code 88 (.invokevirtual 42) 3 91 := ⟨at_88, rfl⟩
theorem d0_91 : own_D code 91 (.istore 6) 2 93 := ⟨at_91, rfl⟩
theorem d0_93 : own_D code 93 (.iload 4) 2 95 := ⟨at_93, rfl⟩
theorem d0_95 : own_D code 95 (.iload 5) 2 97 := ⟨at_95, rfl⟩
theorem d0_97 : own_D code 97 (.if_icmp .ne 14) 3 100 := ⟨at_97, rfl⟩
theorem t0_97 : own_T 97 (14) 111 := ⟨by decide, by decide⟩
theorem d0_100 : own_D code 100 (.iload 4) 2 102 := ⟨at_100, rfl⟩
theorem d0_102 : own_D code 102 (.iload 6) 2 104 := ⟨at_102, rfl⟩
theorem d0_104 : own_D code 104 (.if_icmp .ne 7) 3 107 := ⟨at_104, rfl⟩
theorem t0_104 : own_T 104 (7) 111 := ⟨by decide, by decide⟩
theorem d0_107 : own_D code 107 (.iconst 1) 1 108 := ⟨at_107, rfl⟩
theorem d0_108 : own_D code 108 (.goto 4) 3 111 := ⟨at_108, rfl⟩
theorem t0_108 : own_T 108 (4) 112 := ⟨by decide, by decide⟩
theorem d0_111 : own_D code 111 (.iconst 0) 1 112 := ⟨at_111, rfl⟩
theorem d0_112 : own_D code 112 (.ireturn) 1 113 := ⟨at_112, rfl⟩
theorem pd0 : parseMethodDescriptor "(I)Z" = some ⟨[.int], some .boolean⟩ := by decide +kernel
theorem pn0 : plainFor x = true := plainFor_of_name (x := x) (show plainName "com/example/costbasin/costbasin/KindIsLatePricePinLaw" = true by first | (simp [plainName, overriddenIn]; done) | decide +kernel)
theorem d1_0 : own_D prog_14_method_8_code 0 (.aload_n 0) 1 1 := ⟨by decide +kernel, rfl⟩
theorem d1_1 : own_D prog_14_method_8_code 1 (.getstatic 10) 3 4 := ⟨by decide +kernel, rfl⟩
theorem d1_4 : own_D prog_14_method_8_code 4 (.if_acmp .eq 10) 3 7 := ⟨by decide +kernel, rfl⟩
theorem t1_4 : own_T 4 (10) 14 := ⟨by decide, by decide⟩
theorem d1_7 : own_D prog_14_method_8_code 7 (.aload_n 0) 1 8 := ⟨by decide +kernel, rfl⟩
theorem d1_8 : own_D prog_14_method_8_code 8 (.getstatic 13) 3 11 := ⟨by decide +kernel, rfl⟩
theorem d1_11 : own_D prog_14_method_8_code 11 (.if_acmp .ne 7) 3 14 := ⟨by decide +kernel, rfl⟩
theorem t1_11 : own_T 11 (7) 18 := ⟨by decide, by decide⟩
theorem d1_14 : own_D prog_14_method_8_code 14 (.iconst 1) 1 15 := ⟨by decide +kernel, rfl⟩
theorem d1_15 : own_D prog_14_method_8_code 15 (.goto 4) 3 18 := ⟨by decide +kernel, rfl⟩
theorem t1_15 : own_T 15 (4) 19 := ⟨by decide, by decide⟩
theorem d1_18 : own_D prog_14_method_8_code 18 (.iconst 0) 1 19 := ⟨by decide +kernel, rfl⟩
theorem d1_19 : own_D prog_14_method_8_code 19 (.ireturn) 1 20 := ⟨by decide +kernel, rfl⟩
theorem pd1 : parseMethodDescriptor "()Z" = some ⟨[], some .boolean⟩ := by decide +kernel
theorem pn1 : plainFor (⟨"com/example/costbasin/costbasin/Kind", "isLatePrice", "()Z"⟩ : MethodName) = true := plainFor_of_name (x := (⟨"com/example/costbasin/costbasin/Kind", "isLatePrice", "()Z"⟩ : MethodName)) (show plainName "com/example/costbasin/costbasin/Kind" = true by first | (simp [plainName, overriddenIn]; done) | decide +kernel)
theorem d2_0 : own_D prog_14_method_5_code 0 (.aload_n 0) 1 1 := ⟨by decide +kernel, rfl⟩
theorem d2_1 : own_D prog_14_method_5_code 1 (.getfield 48) 3 4 := ⟨by decide +kernel, rfl⟩
theorem d2_4 : own_D prog_14_method_5_code 4 (.aload_n 1) 1 5 := ⟨by decide +kernel, rfl⟩
theorem d2_5 : own_D prog_14_method_5_code 5 (.invokeinterface 69 2) 5 10 := ⟨by decide +kernel, rfl⟩
theorem d2_10 : own_D prog_14_method_5_code 10 (.ireturn) 1 11 := ⟨by decide +kernel, rfl⟩
theorem pd2 : parseMethodDescriptor "(Lcom/example/costbasin/costbasin/Column;)Z" = some ⟨[(.object "com/example/costbasin/costbasin/Column")], some .boolean⟩ := by decide +kernel
theorem pn2 : plainFor (⟨"com/example/costbasin/costbasin/Kind", "needs", "(Lcom/example/costbasin/costbasin/Column;)Z"⟩ : MethodName) = true := plainFor_of_name (x := (⟨"com/example/costbasin/costbasin/Kind", "needs", "(Lcom/example/costbasin/costbasin/Column;)Z"⟩ : MethodName)) (show plainName "com/example/costbasin/costbasin/Kind" = true by first | (simp [plainName, overriddenIn]; done) | decide +kernel)
theorem d3_0 : own_D jdk_101_method_5_code 0 (.aload_n 1) 1 1 := ⟨by decide +kernel, rfl⟩
theorem d3_1 : own_D jdk_101_method_5_code 1 (.aload_n 0) 1 2 := ⟨by decide +kernel, rfl⟩
theorem d3_2 : own_D jdk_101_method_5_code 2 (.getfield 13) 3 5 := ⟨by decide +kernel, rfl⟩
theorem d3_5 : own_D jdk_101_method_5_code 5 (.invokevirtual 27) 3 8 := ⟨by decide +kernel, rfl⟩
theorem d3_8 : own_D jdk_101_method_5_code 8 (.ifCond .ne 14) 3 11 := ⟨by decide +kernel, rfl⟩
theorem t3_8 : own_T 8 (14) 22 := ⟨by decide, by decide⟩
theorem d3_11 : own_D jdk_101_method_5_code 11 (.aload_n 0) 1 12 := ⟨by decide +kernel, rfl⟩
theorem d3_12 : own_D jdk_101_method_5_code 12 (.getfield 24) 3 15 := ⟨by decide +kernel, rfl⟩
theorem d3_15 : own_D jdk_101_method_5_code 15 (.aload_n 1) 1 16 := ⟨by decide +kernel, rfl⟩
theorem d3_16 : own_D jdk_101_method_5_code 16 (.invokevirtual 27) 3 19 := ⟨by decide +kernel, rfl⟩
theorem d3_19 : own_D jdk_101_method_5_code 19 (.ifCond .eq 7) 3 22 := ⟨by decide +kernel, rfl⟩
theorem t3_19 : own_T 19 (7) 26 := ⟨by decide, by decide⟩
theorem d3_22 : own_D jdk_101_method_5_code 22 (.iconst 1) 1 23 := ⟨by decide +kernel, rfl⟩
theorem d3_23 : own_D jdk_101_method_5_code 23 (.goto 4) 3 26 := ⟨by decide +kernel, rfl⟩
theorem t3_23 : own_T 23 (4) 27 := ⟨by decide, by decide⟩
theorem d3_26 : own_D jdk_101_method_5_code 26 (.iconst 0) 1 27 := ⟨by decide +kernel, rfl⟩
theorem d3_27 : own_D jdk_101_method_5_code 27 (.ireturn) 1 28 := ⟨by decide +kernel, rfl⟩
theorem pd3 : parseMethodDescriptor "(Ljava/lang/Object;)Z" = some ⟨[(.object "java/lang/Object")], some .boolean⟩ := by decide +kernel
theorem pn3 : plainFor (⟨"java/util/ImmutableCollections$Set12", "contains", "(Ljava/lang/Object;)Z"⟩ : MethodName) = true := plainFor_of_name (x := (⟨"java/util/ImmutableCollections$Set12", "contains", "(Ljava/lang/Object;)Z"⟩ : MethodName)) (show plainName "java/util/ImmutableCollections$Set12" = true by first | (simp [plainName, overriddenIn]; done) | decide +kernel)
theorem d4_0 : own_D jdk_37_method_5_code 0 (.aload_n 0) 1 1 := ⟨by decide +kernel, rfl⟩
theorem d4_1 : own_D jdk_37_method_5_code 1 (.aload_n 1) 1 2 := ⟨by decide +kernel, rfl⟩
theorem d4_2 : own_D jdk_37_method_5_code 2 (.if_acmp .ne 7) 3 5 := ⟨by decide +kernel, rfl⟩
theorem t4_2 : own_T 2 (7) 9 := ⟨by decide, by decide⟩
theorem d4_5 : own_D jdk_37_method_5_code 5 (.iconst 1) 1 6 := ⟨by decide +kernel, rfl⟩
theorem d4_6 : own_D jdk_37_method_5_code 6 (.goto 4) 3 9 := ⟨by decide +kernel, rfl⟩
theorem t4_6 : own_T 6 (4) 10 := ⟨by decide, by decide⟩
theorem d4_9 : own_D jdk_37_method_5_code 9 (.iconst 0) 1 10 := ⟨by decide +kernel, rfl⟩
theorem d4_10 : own_D jdk_37_method_5_code 10 (.ireturn) 1 11 := ⟨by decide +kernel, rfl⟩
theorem pd4 : parseMethodDescriptor "(Ljava/lang/Object;)Z" = some ⟨[(.object "java/lang/Object")], some .boolean⟩ := by decide +kernel
theorem pn4 : plainFor (⟨"java/lang/Enum", "equals", "(Ljava/lang/Object;)Z"⟩ : MethodName) = true := plainFor_of_name (x := (⟨"java/lang/Enum", "equals", "(Ljava/lang/Object;)Z"⟩ : MethodName)) (show plainName "java/lang/Enum" = true by first | (simp [plainName, overriddenIn]; done) | decide +kernel)
theorem d5_0 : own_D object_method_4_code 0 (.aload_n 0) 1 1 := ⟨by decide +kernel, rfl⟩
theorem d5_1 : own_D object_method_4_code 1 (.aload_n 1) 1 2 := ⟨by decide +kernel, rfl⟩
theorem d5_2 : own_D object_method_4_code 2 (.if_acmp .ne 7) 3 5 := ⟨by decide +kernel, rfl⟩
theorem t5_2 : own_T 2 (7) 9 := ⟨by decide, by decide⟩
theorem d5_5 : own_D object_method_4_code 5 (.iconst 1) 1 6 := ⟨by decide +kernel, rfl⟩
theorem d5_6 : own_D object_method_4_code 6 (.goto 4) 3 9 := ⟨by decide +kernel, rfl⟩
theorem t5_6 : own_T 6 (4) 10 := ⟨by decide, by decide⟩
theorem d5_9 : own_D object_method_4_code 9 (.iconst 0) 1 10 := ⟨by decide +kernel, rfl⟩
theorem d5_10 : own_D object_method_4_code 10 (.ireturn) 1 11 := ⟨by decide +kernel, rfl⟩
theorem pd5 : parseMethodDescriptor "(Ljava/lang/Object;)Z" = some ⟨[(.object "java/lang/Object")], some .boolean⟩ := by decide +kernel
theorem pn5 : plainFor (⟨"java/lang/Object", "equals", "(Ljava/lang/Object;)Z"⟩ : MethodName) = true := by decide +kernel
set_option maxRecDepth 65536 in
set_option maxHeartbeats 40000000 in
theorem own_late_inv (l : Launch) (Z : State) (a0 : Array Value) (hw : ∀ d ∈ tables_1, d.before a0 Z = true) (n0 : Nat) (h : Heap) (a : Addr) (S_INVOICE : Sta Z h "com/example/costbasin/costbasin/Kind" "INVOICE" "Lcom/example/costbasin/costbasin/Kind;" (.ref a)) : own_Con l Z (⟨"com/example/costbasin/costbasin/Kind", "isLatePrice", "()Z"⟩ : MethodName) prog_14_method_8_code 1 (some .boolean) ({ frames := 0, cells := 0, slots := 0, locals := 0 } : Room) n0 [(.ref a)] h (fun v h' => v = some (.int (1 : Int32)) ∧ h = h') := by
  refine own_Con.mk (Ls := [.val (.ref a)]) pn1 (fun m => by first | (simp [entryFrame, mkF, argsToLocals, Value.category]; done) | rfl) ?_
  intro p e s m below meth c C
  refine own_aloadN C d1_0 rfl rfl ?_
  refine own_getS C d1_1 (hw _ (List.mem_of_getElem? (i := 24) rfl)) S_INVOICE ?_
  refine own_acmpeq C d1_4 t1_4 rfl rfl (fun _ => ?_) (fun h' => absurd h' (fun z => z rfl))
  refine own_iconst C (1 : Int32) d1_14 rfl ?_
  refine own_goto C d1_15 t1_15 ?_
  exact own_retZ C d1_19 (Or.inr rfl) (by decide) (by decide) ⟨rfl, rfl⟩
set_option maxRecDepth 65536 in
set_option maxHeartbeats 40000000 in
theorem own_late_add (l : Launch) (Z : State) (a0 : Array Value) (hw : ∀ d ∈ tables_1, d.before a0 Z = true) (n0 : Nat) (h : Heap) (a a1 : Addr) (S_INVOICE : Sta Z h "com/example/costbasin/costbasin/Kind" "INVOICE" "Lcom/example/costbasin/costbasin/Kind;" (.ref a1))(S_ADDITIONAL_COST : Sta Z h "com/example/costbasin/costbasin/Kind" "ADDITIONAL_COST" "Lcom/example/costbasin/costbasin/Kind;" (.ref a)) (q1 : ¬ a = a1) : own_Con l Z (⟨"com/example/costbasin/costbasin/Kind", "isLatePrice", "()Z"⟩ : MethodName) prog_14_method_8_code 1 (some .boolean) ({ frames := 0, cells := 0, slots := 0, locals := 0 } : Room) n0 [(.ref a)] h (fun v h' => v = some (.int (1 : Int32)) ∧ h = h') := by
  refine own_Con.mk (Ls := [.val (.ref a)]) pn1 (fun m => by first | (simp [entryFrame, mkF, argsToLocals, Value.category]; done) | rfl) ?_
  intro p e s m below meth c C
  refine own_aloadN C d1_0 rfl rfl ?_
  refine own_getS C d1_1 (hw _ (List.mem_of_getElem? (i := 24) rfl)) S_INVOICE ?_
  refine own_acmpeq C d1_4 t1_4 rfl rfl (fun h' => absurd h' (fun z => q1 (Value.ref.inj z))) (fun _ => ?_)
  refine own_aloadN C d1_7 rfl rfl ?_
  refine own_getS C d1_8 (hw _ (List.mem_of_getElem? (i := 25) rfl)) S_ADDITIONAL_COST ?_
  refine own_acmpne C d1_11 t1_11 rfl rfl (fun h' => absurd h' (fun z => z rfl)) (fun _ => ?_)
  refine own_iconst C (1 : Int32) d1_14 rfl ?_
  refine own_goto C d1_15 t1_15 ?_
  exact own_retZ C d1_19 (Or.inr rfl) (by decide) (by decide) ⟨rfl, rfl⟩
set_option maxRecDepth 65536 in
set_option maxHeartbeats 40000000 in
theorem own_late_no (l : Launch) (Z : State) (a0 : Array Value) (hw : ∀ d ∈ tables_1, d.before a0 Z = true) (n0 : Nat) (h : Heap) (a a1 a2 : Addr) (S_INVOICE : Sta Z h "com/example/costbasin/costbasin/Kind" "INVOICE" "Lcom/example/costbasin/costbasin/Kind;" (.ref a1))(S_ADDITIONAL_COST : Sta Z h "com/example/costbasin/costbasin/Kind" "ADDITIONAL_COST" "Lcom/example/costbasin/costbasin/Kind;" (.ref a2)) (q1 : ¬ a = a1) (q2 : ¬ a = a2) : own_Con l Z (⟨"com/example/costbasin/costbasin/Kind", "isLatePrice", "()Z"⟩ : MethodName) prog_14_method_8_code 1 (some .boolean) ({ frames := 0, cells := 0, slots := 0, locals := 0 } : Room) n0 [(.ref a)] h (fun v h' => v = some (.int (0 : Int32)) ∧ h = h') := by
  refine own_Con.mk (Ls := [.val (.ref a)]) pn1 (fun m => by first | (simp [entryFrame, mkF, argsToLocals, Value.category]; done) | rfl) ?_
  intro p e s m below meth c C
  refine own_aloadN C d1_0 rfl rfl ?_
  refine own_getS C d1_1 (hw _ (List.mem_of_getElem? (i := 24) rfl)) S_INVOICE ?_
  refine own_acmpeq C d1_4 t1_4 rfl rfl (fun h' => absurd h' (fun z => q1 (Value.ref.inj z))) (fun _ => ?_)
  refine own_aloadN C d1_7 rfl rfl ?_
  refine own_getS C d1_8 (hw _ (List.mem_of_getElem? (i := 25) rfl)) S_ADDITIONAL_COST ?_
  refine own_acmpne C d1_11 t1_11 rfl rfl (fun _ => ?_) (fun h' => absurd h' (fun z => q2 (Value.ref.inj z)))
  refine own_iconst C (0 : Int32) d1_18 rfl ?_
  exact own_retZ C d1_19 (Or.inl rfl) (by decide) (by decide) ⟨rfl, rfl⟩
set_option maxRecDepth 65536 in
set_option maxHeartbeats 40000000 in
theorem own_eneq_ne (l : Launch) (Z : State) (a0 : Array Value) (hw : ∀ d ∈ tables_1, d.before a0 Z = true) (n0 : Nat) (h : Heap) (a b : Addr) (q : ¬ a = b) : own_Con l Z (⟨"java/lang/Enum", "equals", "(Ljava/lang/Object;)Z"⟩ : MethodName) jdk_37_method_5_code 2 (some .boolean) ({ frames := 0, cells := 0, slots := 0, locals := 0 } : Room) n0 [(.ref a), (.ref b)] h (fun v h' => v = some (.int (0 : Int32)) ∧ h = h') := by
  refine own_Con.mk (Ls := [.val (.ref a), .val (.ref b)]) pn4 (fun m => by first | (simp [entryFrame, mkF, argsToLocals, Value.category]; done) | rfl) ?_
  intro p e s m below meth c C
  refine own_aloadN C d4_0 rfl rfl ?_
  refine own_aloadN C d4_1 rfl rfl ?_
  refine own_acmpne C d4_2 t4_2 rfl rfl (fun _ => ?_) (fun h' => absurd h' (fun z => q (Value.ref.inj z)))
  refine own_iconst C (0 : Int32) d4_9 rfl ?_
  exact own_retZ C d4_10 (Or.inl rfl) (by decide) (by decide) ⟨rfl, rfl⟩
set_option maxRecDepth 65536 in
set_option maxHeartbeats 40000000 in
theorem own_eneq_eq (l : Launch) (Z : State) (a0 : Array Value) (hw : ∀ d ∈ tables_1, d.before a0 Z = true) (n0 : Nat) (h : Heap) (a b : Addr) (q : a = b) : own_Con l Z (⟨"java/lang/Enum", "equals", "(Ljava/lang/Object;)Z"⟩ : MethodName) jdk_37_method_5_code 2 (some .boolean) ({ frames := 0, cells := 0, slots := 0, locals := 0 } : Room) n0 [(.ref a), (.ref b)] h (fun v h' => v = some (.int (1 : Int32)) ∧ h = h') := by
  refine own_Con.mk (Ls := [.val (.ref a), .val (.ref b)]) pn4 (fun m => by first | (simp [entryFrame, mkF, argsToLocals, Value.category]; done) | rfl) ?_
  intro p e s m below meth c C
  refine own_aloadN C d4_0 rfl rfl ?_
  refine own_aloadN C d4_1 rfl rfl ?_
  refine own_acmpne C d4_2 t4_2 rfl rfl (fun h' => absurd h' (fun z => z (congrArg Value.ref q))) (fun _ => ?_)
  refine own_iconst C (1 : Int32) d4_5 rfl ?_
  refine own_goto C d4_6 t4_6 ?_
  exact own_retZ C d4_10 (Or.inr rfl) (by decide) (by decide) ⟨rfl, rfl⟩
set_option maxRecDepth 65536 in
set_option maxHeartbeats 40000000 in
theorem own_has_hit (l : Launch) (Z : State) (a0 : Array Value) (hw : ∀ d ∈ tables_1, d.before a0 Z = true) (n0 : Nat) (h : Heap) (a o x y : Addr) (F0 : Fld Z h a "java/util/ImmutableCollections$Set12" "e0" "Ljava/lang/Object;" (.ref x)) (F1 : Fld Z h a "java/util/ImmutableCollections$Set12" "e1" "Ljava/lang/Object;" (.ref y)) (Eo : Exa Z h o "com/example/costbasin/costbasin/Column") (q0 : ¬ o = x) (q1 : y = o) (Ey : Exa Z h y "com/example/costbasin/costbasin/Column") : own_Con l Z (⟨"java/util/ImmutableCollections$Set12", "contains", "(Ljava/lang/Object;)Z"⟩ : MethodName) jdk_101_method_5_code 2 (some .boolean) ({ frames := 1, cells := 0, slots := 0, locals := 40 } : Room) n0 [(.ref a), (.ref o)] h (fun v h' => v = some (.int (1 : Int32)) ∧ h = h') := by
  refine own_Con.mk (Ls := [.val (.ref a), .val (.ref o)]) pn3 (fun m => by first | (simp [entryFrame, mkF, argsToLocals, Value.category]; done) | rfl) ?_
  intro p e s m below meth c C
  refine own_aloadN C d3_0 rfl rfl ?_
  refine own_aloadN C d3_1 rfl rfl ?_
  refine own_getF C d3_2 (hw _ (List.mem_of_getElem? (i := 46) rfl)) Via.refl F0 ?_
  refine own_callV C (own_eneq_ne l Z a0 hw n0 h o x q0) Eo d3_5 (hw _ (List.mem_of_getElem? (i := 49) rfl)) (hw _ (List.mem_of_getElem? (i := 50) rfl)) (hw _ (List.mem_of_getElem? (i := 52) rfl)) (own_nf (args := #[]) C.2.1 (hw _ (List.mem_of_getElem? (i := 60) rfl))) (hw _ (List.mem_of_getElem? (i := 53) rfl)) (hw _ (List.mem_of_getElem? (i := 55) rfl)) (hw _ (List.mem_of_getElem? (i := 54) rfl)) (by decide) pd4 rfl rfl rfl (by decide) (Nat.le_of_ble_eq_true rfl) (Nat.le_of_ble_eq_true rfl) (by decide) ?_
  rintro _ _ ⟨rfl, rfl⟩
  refine own_ifne C d3_8 t3_8 (fun h' => absurd h' (by decide)) (fun _ => ?_)
  refine own_aloadN C d3_11 rfl rfl ?_
  refine own_getF C d3_12 (hw _ (List.mem_of_getElem? (i := 56) rfl)) Via.refl F1 ?_
  refine own_aloadN C d3_15 rfl rfl ?_
  refine own_callV C (own_eneq_eq l Z a0 hw n0 _ y o q1) Ey d3_16 (hw _ (List.mem_of_getElem? (i := 49) rfl)) (hw _ (List.mem_of_getElem? (i := 50) rfl)) (hw _ (List.mem_of_getElem? (i := 52) rfl)) (own_nf (args := #[]) C.2.1 (hw _ (List.mem_of_getElem? (i := 60) rfl))) (hw _ (List.mem_of_getElem? (i := 53) rfl)) (hw _ (List.mem_of_getElem? (i := 55) rfl)) (hw _ (List.mem_of_getElem? (i := 54) rfl)) (by decide) pd4 rfl rfl rfl (by decide) (Nat.le_of_ble_eq_true rfl) (Nat.le_of_ble_eq_true rfl) (by decide) ?_
  rintro _ _ ⟨rfl, rfl⟩
  refine own_ifeq C d3_19 t3_19 (fun h' => absurd h' (by decide)) (fun _ => ?_)
  refine own_iconst C (1 : Int32) d3_22 rfl ?_
  refine own_goto C d3_23 t3_23 ?_
  exact own_retZ C d3_27 (Or.inr rfl) (by decide) (by decide) ⟨rfl, rfl⟩
set_option maxRecDepth 65536 in
set_option maxHeartbeats 40000000 in
theorem own_has_miss (l : Launch) (Z : State) (a0 : Array Value) (hw : ∀ d ∈ tables_1, d.before a0 Z = true) (n0 : Nat) (h : Heap) (a o x y : Addr) (F0 : Fld Z h a "java/util/ImmutableCollections$Set12" "e0" "Ljava/lang/Object;" (.ref x)) (F1 : Fld Z h a "java/util/ImmutableCollections$Set12" "e1" "Ljava/lang/Object;" (.ref y)) (Eo : Exa Z h o "com/example/costbasin/costbasin/Column") (q0 : ¬ o = x) (q1 : ¬ y = o) (Ey : Exa Z h y "com/example/costbasin/costbasin/Column") : own_Con l Z (⟨"java/util/ImmutableCollections$Set12", "contains", "(Ljava/lang/Object;)Z"⟩ : MethodName) jdk_101_method_5_code 2 (some .boolean) ({ frames := 1, cells := 0, slots := 0, locals := 40 } : Room) n0 [(.ref a), (.ref o)] h (fun v h' => v = some (.int (0 : Int32)) ∧ h = h') := by
  refine own_Con.mk (Ls := [.val (.ref a), .val (.ref o)]) pn3 (fun m => by first | (simp [entryFrame, mkF, argsToLocals, Value.category]; done) | rfl) ?_
  intro p e s m below meth c C
  refine own_aloadN C d3_0 rfl rfl ?_
  refine own_aloadN C d3_1 rfl rfl ?_
  refine own_getF C d3_2 (hw _ (List.mem_of_getElem? (i := 46) rfl)) Via.refl F0 ?_
  refine own_callV C (own_eneq_ne l Z a0 hw n0 h o x q0) Eo d3_5 (hw _ (List.mem_of_getElem? (i := 49) rfl)) (hw _ (List.mem_of_getElem? (i := 50) rfl)) (hw _ (List.mem_of_getElem? (i := 52) rfl)) (own_nf (args := #[]) C.2.1 (hw _ (List.mem_of_getElem? (i := 60) rfl))) (hw _ (List.mem_of_getElem? (i := 53) rfl)) (hw _ (List.mem_of_getElem? (i := 55) rfl)) (hw _ (List.mem_of_getElem? (i := 54) rfl)) (by decide) pd4 rfl rfl rfl (by decide) (Nat.le_of_ble_eq_true rfl) (Nat.le_of_ble_eq_true rfl) (by decide) ?_
  rintro _ _ ⟨rfl, rfl⟩
  refine own_ifne C d3_8 t3_8 (fun h' => absurd h' (by decide)) (fun _ => ?_)
  refine own_aloadN C d3_11 rfl rfl ?_
  refine own_getF C d3_12 (hw _ (List.mem_of_getElem? (i := 56) rfl)) Via.refl F1 ?_
  refine own_aloadN C d3_15 rfl rfl ?_
  refine own_callV C (own_eneq_ne l Z a0 hw n0 _ y o q1) Ey d3_16 (hw _ (List.mem_of_getElem? (i := 49) rfl)) (hw _ (List.mem_of_getElem? (i := 50) rfl)) (hw _ (List.mem_of_getElem? (i := 52) rfl)) (own_nf (args := #[]) C.2.1 (hw _ (List.mem_of_getElem? (i := 60) rfl))) (hw _ (List.mem_of_getElem? (i := 53) rfl)) (hw _ (List.mem_of_getElem? (i := 55) rfl)) (hw _ (List.mem_of_getElem? (i := 54) rfl)) (by decide) pd4 rfl rfl rfl (by decide) (Nat.le_of_ble_eq_true rfl) (Nat.le_of_ble_eq_true rfl) (by decide) ?_
  rintro _ _ ⟨rfl, rfl⟩
  refine own_ifeq C d3_19 t3_19 (fun _ => ?_) (fun h' => absurd h' (by decide))
  refine own_iconst C (0 : Int32) d3_26 rfl ?_
  exact own_retZ C d3_27 (Or.inl rfl) (by decide) (by decide) ⟨rfl, rfl⟩
set_option maxRecDepth 65536 in
set_option maxHeartbeats 40000000 in
theorem own_has_one (l : Launch) (Z : State) (a0 : Array Value) (hw : ∀ d ∈ tables_1, d.before a0 Z = true) (n0 : Nat) (h : Heap) (a o x y : Addr) (F0 : Fld Z h a "java/util/ImmutableCollections$Set12" "e0" "Ljava/lang/Object;" (.ref x)) (F1 : Fld Z h a "java/util/ImmutableCollections$Set12" "e1" "Ljava/lang/Object;" (.ref y)) (Eo : Exa Z h o "com/example/costbasin/costbasin/Column") (q0 : ¬ o = x) (q1 : ¬ y = o) (Ey : Exa Z h y "java/lang/Object") : own_Con l Z (⟨"java/util/ImmutableCollections$Set12", "contains", "(Ljava/lang/Object;)Z"⟩ : MethodName) jdk_101_method_5_code 2 (some .boolean) ({ frames := 1, cells := 0, slots := 0, locals := 40 } : Room) n0 [(.ref a), (.ref o)] h (fun v h' => v = some (.int (0 : Int32)) ∧ h = h') := by
  refine own_Con.mk (Ls := [.val (.ref a), .val (.ref o)]) pn3 (fun m => by first | (simp [entryFrame, mkF, argsToLocals, Value.category]; done) | rfl) ?_
  intro p e s m below meth c C
  refine own_aloadN C d3_0 rfl rfl ?_
  refine own_aloadN C d3_1 rfl rfl ?_
  refine own_getF C d3_2 (hw _ (List.mem_of_getElem? (i := 46) rfl)) Via.refl F0 ?_
  refine own_callV C (own_eneq_ne l Z a0 hw n0 h o x q0) Eo d3_5 (hw _ (List.mem_of_getElem? (i := 49) rfl)) (hw _ (List.mem_of_getElem? (i := 50) rfl)) (hw _ (List.mem_of_getElem? (i := 52) rfl)) (own_nf (args := #[]) C.2.1 (hw _ (List.mem_of_getElem? (i := 60) rfl))) (hw _ (List.mem_of_getElem? (i := 53) rfl)) (hw _ (List.mem_of_getElem? (i := 55) rfl)) (hw _ (List.mem_of_getElem? (i := 54) rfl)) (by decide) pd4 rfl rfl rfl (by decide) (Nat.le_of_ble_eq_true rfl) (Nat.le_of_ble_eq_true rfl) (by decide) ?_
  rintro _ _ ⟨rfl, rfl⟩
  refine own_ifne C d3_8 t3_8 (fun h' => absurd h' (by decide)) (fun _ => ?_)
  refine own_aloadN C d3_11 rfl rfl ?_
  refine own_getF C d3_12 (hw _ (List.mem_of_getElem? (i := 56) rfl)) Via.refl F1 ?_
  refine own_aloadN C d3_15 rfl rfl ?_
  refine own_objEq C d3_16 (hw _ (List.mem_of_getElem? (i := 49) rfl)) (hw _ (List.mem_of_getElem? (i := 50) rfl)) (hw _ (List.mem_of_getElem? (i := 60) rfl)) (hw _ (List.mem_of_getElem? (i := 51) rfl)) (hw _ (List.mem_of_getElem? (i := 61) rfl)) d5_0.1 d5_1.1 d5_2.1 d5_5.1 d5_6.1 d5_9.1 d5_10.1 Ey rfl rfl (by decide) (Nat.le_of_ble_eq_true rfl) ?_
  rw [if_neg (fun z => q1 (Value.ref.inj z))]
  refine own_ifeq C d3_19 t3_19 (fun _ => ?_) (fun h' => absurd h' (by decide))
  refine own_iconst C (0 : Int32) d3_26 rfl ?_
  exact own_retZ C d3_27 (Or.inl rfl) (by decide) (by decide) ⟨rfl, rfl⟩
set_option maxRecDepth 65536 in
set_option maxHeartbeats 40000000 in
theorem own_needs_0 (l : Launch) (Z : State) (a0 : Array Value) (hw : ∀ d ∈ tables_1, d.before a0 Z = true) (n0 : Nat) (h : Heap) (a o sn : Addr) (F : Fld Z h a "com/example/costbasin/costbasin/Kind" "needed" "Ljava/util/Set;" (.ref sn)) (Es : Exa Z h sn "java/util/ImmutableCollections$Set12") (KK : own_Con l Z (⟨"java/util/ImmutableCollections$Set12", "contains", "(Ljava/lang/Object;)Z"⟩ : MethodName) jdk_101_method_5_code 2 (some .boolean) ({ frames := 1, cells := 0, slots := 0, locals := 40 } : Room) n0 [(.ref sn), (.ref o)] h (fun v h' => v = some (.int (0 : Int32)) ∧ h = h')) : own_Con l Z (⟨"com/example/costbasin/costbasin/Kind", "needs", "(Lcom/example/costbasin/costbasin/Column;)Z"⟩ : MethodName) prog_14_method_5_code 2 (some .boolean) ({ frames := 2, cells := 0, slots := 0, locals := 60 } : Room) n0 [(.ref a), (.ref o)] h (fun v h' => v = some (.int (0 : Int32)) ∧ h = h') := by
  refine own_Con.mk (Ls := [.val (.ref a), .val (.ref o)]) pn2 (fun m => by first | (simp [entryFrame, mkF, argsToLocals, Value.category]; done) | rfl) ?_
  intro p e s m below meth c C
  refine own_aloadN C d2_0 rfl rfl ?_
  refine own_getF C d2_1 (hw _ (List.mem_of_getElem? (i := 34) rfl)) Via.refl F ?_
  refine own_aloadN C d2_4 rfl rfl ?_
  refine own_callF C KK Es d2_5 (hw _ (List.mem_of_getElem? (i := 36) rfl)) (hw _ (List.mem_of_getElem? (i := 37) rfl)) (hw _ (List.mem_of_getElem? (i := 38) rfl)) rfl (hw _ (List.mem_of_getElem? (i := 39) rfl)) (hw _ (List.mem_of_getElem? (i := 40) rfl)) (hw _ (List.mem_of_getElem? (i := 41) rfl)) (hw _ (List.mem_of_getElem? (i := 42) rfl)) (hw _ (List.mem_of_getElem? (i := 43) rfl)) (hw _ (List.mem_of_getElem? (i := 45) rfl)) (hw _ (List.mem_of_getElem? (i := 44) rfl)) (by decide) pd3 rfl rfl rfl (by decide) (Nat.le_of_ble_eq_true rfl) (Nat.le_of_ble_eq_true rfl) (by decide) ?_
  rintro _ _ ⟨rfl, rfl⟩
  exact own_retZ C d2_10 (Or.inl rfl) (by decide) (by decide) ⟨rfl, rfl⟩
set_option maxRecDepth 65536 in
set_option maxHeartbeats 40000000 in
theorem own_needs_1 (l : Launch) (Z : State) (a0 : Array Value) (hw : ∀ d ∈ tables_1, d.before a0 Z = true) (n0 : Nat) (h : Heap) (a o sn : Addr) (F : Fld Z h a "com/example/costbasin/costbasin/Kind" "needed" "Ljava/util/Set;" (.ref sn)) (Es : Exa Z h sn "java/util/ImmutableCollections$Set12") (KK : own_Con l Z (⟨"java/util/ImmutableCollections$Set12", "contains", "(Ljava/lang/Object;)Z"⟩ : MethodName) jdk_101_method_5_code 2 (some .boolean) ({ frames := 1, cells := 0, slots := 0, locals := 40 } : Room) n0 [(.ref sn), (.ref o)] h (fun v h' => v = some (.int (1 : Int32)) ∧ h = h')) : own_Con l Z (⟨"com/example/costbasin/costbasin/Kind", "needs", "(Lcom/example/costbasin/costbasin/Column;)Z"⟩ : MethodName) prog_14_method_5_code 2 (some .boolean) ({ frames := 2, cells := 0, slots := 0, locals := 60 } : Room) n0 [(.ref a), (.ref o)] h (fun v h' => v = some (.int (1 : Int32)) ∧ h = h') := by
  refine own_Con.mk (Ls := [.val (.ref a), .val (.ref o)]) pn2 (fun m => by first | (simp [entryFrame, mkF, argsToLocals, Value.category]; done) | rfl) ?_
  intro p e s m below meth c C
  refine own_aloadN C d2_0 rfl rfl ?_
  refine own_getF C d2_1 (hw _ (List.mem_of_getElem? (i := 34) rfl)) Via.refl F ?_
  refine own_aloadN C d2_4 rfl rfl ?_
  refine own_callF C KK Es d2_5 (hw _ (List.mem_of_getElem? (i := 36) rfl)) (hw _ (List.mem_of_getElem? (i := 37) rfl)) (hw _ (List.mem_of_getElem? (i := 38) rfl)) rfl (hw _ (List.mem_of_getElem? (i := 39) rfl)) (hw _ (List.mem_of_getElem? (i := 40) rfl)) (hw _ (List.mem_of_getElem? (i := 41) rfl)) (hw _ (List.mem_of_getElem? (i := 42) rfl)) (hw _ (List.mem_of_getElem? (i := 43) rfl)) (hw _ (List.mem_of_getElem? (i := 45) rfl)) (hw _ (List.mem_of_getElem? (i := 44) rfl)) (by decide) pd3 rfl rfl rfl (by decide) (Nat.le_of_ble_eq_true rfl) (Nat.le_of_ble_eq_true rfl) (by decide) ?_
  rintro _ _ ⟨rfl, rfl⟩
  exact own_retZ C d2_10 (Or.inr rfl) (by decide) (by decide) ⟨rfl, rfl⟩
theorem own_seven (x : Int32) : (x &&& 2147483647) % 7 = 0 ∨ (x &&& 2147483647) % 7 = 1 ∨ (x &&& 2147483647) % 7 = 2 ∨ (x &&& 2147483647) % 7 = 3 ∨ (x &&& 2147483647) % 7 = 4 ∨ (x &&& 2147483647) % 7 = 5 ∨ (x &&& 2147483647) % 7 = 6 := by
  have h1 := (c_andS x 2147483647).2.2 (by decide)
  have h2 := (c_irem (x &&& 2147483647) 7 7 rfl).1 h1
  simp only [← Int32.toInt_inj]
  have e0 : (0 : Int32).toInt = 0 := rfl
  have e1 : (1 : Int32).toInt = 1 := rfl
  have e2 : (2 : Int32).toInt = 2 := rfl
  have e3 : (3 : Int32).toInt = 3 := rfl
  have e4 : (4 : Int32).toInt = 4 := rfl
  have e5 : (5 : Int32).toInt = 5 := rfl
  have e6 : (6 : Int32).toInt = 6 := rfl
  rw [h2, e0, e1, e2, e3, e4, e5, e6]
  omega
set_option maxRecDepth 65536 in
set_option maxHeartbeats 40000000 in
theorem own_law (l : Launch) (Z : State) (a0 : Array Value) (hw : ∀ d ∈ tables_1, d.before a0 Z = true) (n0 : Nat) (h : Heap) (i0 : Int32) (Z0 : n0 ≤ h.size) (a_RECEIPT : Addr) (S_RECEIPT : Sta Z h "com/example/costbasin/costbasin/Kind" "RECEIPT" "Lcom/example/costbasin/costbasin/Kind;" (.ref a_RECEIPT)) (E_RECEIPT : Exa Z h a_RECEIPT "com/example/costbasin/costbasin/Kind") (a_ISSUE : Addr) (S_ISSUE : Sta Z h "com/example/costbasin/costbasin/Kind" "ISSUE" "Lcom/example/costbasin/costbasin/Kind;" (.ref a_ISSUE)) (E_ISSUE : Exa Z h a_ISSUE "com/example/costbasin/costbasin/Kind") (a_INVOICE : Addr) (S_INVOICE : Sta Z h "com/example/costbasin/costbasin/Kind" "INVOICE" "Lcom/example/costbasin/costbasin/Kind;" (.ref a_INVOICE)) (E_INVOICE : Exa Z h a_INVOICE "com/example/costbasin/costbasin/Kind") (a_ADDITIONAL_COST : Addr) (S_ADDITIONAL_COST : Sta Z h "com/example/costbasin/costbasin/Kind" "ADDITIONAL_COST" "Lcom/example/costbasin/costbasin/Kind;" (.ref a_ADDITIONAL_COST)) (E_ADDITIONAL_COST : Exa Z h a_ADDITIONAL_COST "com/example/costbasin/costbasin/Kind") (a_COUNT : Addr) (S_COUNT : Sta Z h "com/example/costbasin/costbasin/Kind" "COUNT" "Lcom/example/costbasin/costbasin/Kind;" (.ref a_COUNT)) (E_COUNT : Exa Z h a_COUNT "com/example/costbasin/costbasin/Kind") (a_VALUE_CHANGE : Addr) (S_VALUE_CHANGE : Sta Z h "com/example/costbasin/costbasin/Kind" "VALUE_CHANGE" "Lcom/example/costbasin/costbasin/Kind;" (.ref a_VALUE_CHANGE)) (E_VALUE_CHANGE : Exa Z h a_VALUE_CHANGE "com/example/costbasin/costbasin/Kind") (a_STANDARD_COST : Addr) (S_STANDARD_COST : Sta Z h "com/example/costbasin/costbasin/Kind" "STANDARD_COST" "Lcom/example/costbasin/costbasin/Kind;" (.ref a_STANDARD_COST)) (E_STANDARD_COST : Exa Z h a_STANDARD_COST "com/example/costbasin/costbasin/Kind") (a_APPLIES_TO : Addr) (S_APPLIES_TO : Sta Z h "com/example/costbasin/costbasin/Column" "APPLIES_TO" "Lcom/example/costbasin/costbasin/Column;" (.ref a_APPLIES_TO)) (E_APPLIES_TO : Exa Z h a_APPLIES_TO "com/example/costbasin/costbasin/Column") (a_RECEIPT_needed : Addr) (F_RECEIPT_needed : Fld Z h a_RECEIPT "com/example/costbasin/costbasin/Kind" "needed" "Ljava/util/Set;" (.ref a_RECEIPT_needed)) (E_RECEIPT_needed : Exa Z h a_RECEIPT_needed "java/util/ImmutableCollections$Set12") (a_QTY : Addr) (S_QTY : Sta Z h "com/example/costbasin/costbasin/Column" "QTY" "Lcom/example/costbasin/costbasin/Column;" (.ref a_QTY)) (E_QTY : Exa Z h a_QTY "com/example/costbasin/costbasin/Column") (a_UNIT_PRICE : Addr) (S_UNIT_PRICE : Sta Z h "com/example/costbasin/costbasin/Column" "UNIT_PRICE" "Lcom/example/costbasin/costbasin/Column;" (.ref a_UNIT_PRICE)) (E_UNIT_PRICE : Exa Z h a_UNIT_PRICE "com/example/costbasin/costbasin/Column") (a_ADDITIONAL_COST_needed : Addr) (F_ADDITIONAL_COST_needed : Fld Z h a_ADDITIONAL_COST "com/example/costbasin/costbasin/Kind" "needed" "Ljava/util/Set;" (.ref a_ADDITIONAL_COST_needed)) (E_ADDITIONAL_COST_needed : Exa Z h a_ADDITIONAL_COST_needed "java/util/ImmutableCollections$Set12") (a_AMOUNT : Addr) (S_AMOUNT : Sta Z h "com/example/costbasin/costbasin/Column" "AMOUNT" "Lcom/example/costbasin/costbasin/Column;" (.ref a_AMOUNT)) (E_AMOUNT : Exa Z h a_AMOUNT "com/example/costbasin/costbasin/Column") (a_VALUE_CHANGE_needed : Addr) (F_VALUE_CHANGE_needed : Fld Z h a_VALUE_CHANGE "com/example/costbasin/costbasin/Kind" "needed" "Ljava/util/Set;" (.ref a_VALUE_CHANGE_needed)) (E_VALUE_CHANGE_needed : Exa Z h a_VALUE_CHANGE_needed "java/util/ImmutableCollections$Set12") (a_VALUE_CHANGE_needed_e1 : Addr) (F_VALUE_CHANGE_needed_e1 : Fld Z h a_VALUE_CHANGE_needed "java/util/ImmutableCollections$Set12" "e1" "Ljava/lang/Object;" (.ref a_VALUE_CHANGE_needed_e1)) (E_VALUE_CHANGE_needed_e1 : Exa Z h a_VALUE_CHANGE_needed_e1 "java/lang/Object") (a_STANDARD_COST_needed : Addr) (F_STANDARD_COST_needed : Fld Z h a_STANDARD_COST "com/example/costbasin/costbasin/Kind" "needed" "Ljava/util/Set;" (.ref a_STANDARD_COST_needed)) (E_STANDARD_COST_needed : Exa Z h a_STANDARD_COST_needed "java/util/ImmutableCollections$Set12") (a_COUNT_needed : Addr) (F_COUNT_needed : Fld Z h a_COUNT "com/example/costbasin/costbasin/Kind" "needed" "Ljava/util/Set;" (.ref a_COUNT_needed)) (E_COUNT_needed : Exa Z h a_COUNT_needed "java/util/ImmutableCollections$Set12") (a_INVOICE_needed : Addr) (F_INVOICE_needed : Fld Z h a_INVOICE "com/example/costbasin/costbasin/Kind" "needed" "Ljava/util/Set;" (.ref a_INVOICE_needed)) (E_INVOICE_needed : Exa Z h a_INVOICE_needed "java/util/ImmutableCollections$Set12") (a_ISSUE_needed : Addr) (F_ISSUE_needed : Fld Z h a_ISSUE "com/example/costbasin/costbasin/Kind" "needed" "Ljava/util/Set;" (.ref a_ISSUE_needed)) (E_ISSUE_needed : Exa Z h a_ISSUE_needed "java/util/ImmutableCollections$Set12") (F_RECEIPT_ordinal : Fld Z h a_RECEIPT "java/lang/Enum" "ordinal" "I" (.int (0 : Int32))) (F_INVOICE_ordinal : Fld Z h a_INVOICE "java/lang/Enum" "ordinal" "I" (.int (2 : Int32))) (F_ADDITIONAL_COST_ordinal : Fld Z h a_ADDITIONAL_COST "java/lang/Enum" "ordinal" "I" (.int (3 : Int32))) (F_RECEIPT_needed_e0 : Fld Z h a_RECEIPT_needed "java/util/ImmutableCollections$Set12" "e0" "Ljava/lang/Object;" (.ref a_QTY)) (F_APPLIES_TO_ordinal : Fld Z h a_APPLIES_TO "java/lang/Enum" "ordinal" "I" (.int (9 : Int32))) (F_QTY_ordinal : Fld Z h a_QTY "java/lang/Enum" "ordinal" "I" (.int (6 : Int32))) (F_RECEIPT_needed_e1 : Fld Z h a_RECEIPT_needed "java/util/ImmutableCollections$Set12" "e1" "Ljava/lang/Object;" (.ref a_UNIT_PRICE)) (F_UNIT_PRICE_ordinal : Fld Z h a_UNIT_PRICE "java/lang/Enum" "ordinal" "I" (.int (7 : Int32))) (F_ADDITIONAL_COST_needed_e0 : Fld Z h a_ADDITIONAL_COST_needed "java/util/ImmutableCollections$Set12" "e0" "Ljava/lang/Object;" (.ref a_AMOUNT)) (F_AMOUNT_ordinal : Fld Z h a_AMOUNT "java/lang/Enum" "ordinal" "I" (.int (8 : Int32))) (F_ADDITIONAL_COST_needed_e1 : Fld Z h a_ADDITIONAL_COST_needed "java/util/ImmutableCollections$Set12" "e1" "Ljava/lang/Object;" (.ref a_APPLIES_TO)) (F_VALUE_CHANGE_ordinal : Fld Z h a_VALUE_CHANGE "java/lang/Enum" "ordinal" "I" (.int (5 : Int32))) (F_VALUE_CHANGE_needed_e0 : Fld Z h a_VALUE_CHANGE_needed "java/util/ImmutableCollections$Set12" "e0" "Ljava/lang/Object;" (.ref a_UNIT_PRICE)) (F_STANDARD_COST_ordinal : Fld Z h a_STANDARD_COST "java/lang/Enum" "ordinal" "I" (.int (6 : Int32))) (F_STANDARD_COST_needed_e0 : Fld Z h a_STANDARD_COST_needed "java/util/ImmutableCollections$Set12" "e0" "Ljava/lang/Object;" (.ref a_UNIT_PRICE)) (F_STANDARD_COST_needed_e1 : Fld Z h a_STANDARD_COST_needed "java/util/ImmutableCollections$Set12" "e1" "Ljava/lang/Object;" (.ref a_VALUE_CHANGE_needed_e1)) (F_COUNT_ordinal : Fld Z h a_COUNT "java/lang/Enum" "ordinal" "I" (.int (4 : Int32))) (F_COUNT_needed_e0 : Fld Z h a_COUNT_needed "java/util/ImmutableCollections$Set12" "e0" "Ljava/lang/Object;" (.ref a_QTY)) (F_COUNT_needed_e1 : Fld Z h a_COUNT_needed "java/util/ImmutableCollections$Set12" "e1" "Ljava/lang/Object;" (.ref a_VALUE_CHANGE_needed_e1)) (F_INVOICE_needed_e0 : Fld Z h a_INVOICE_needed "java/util/ImmutableCollections$Set12" "e0" "Ljava/lang/Object;" (.ref a_UNIT_PRICE)) (F_INVOICE_needed_e1 : Fld Z h a_INVOICE_needed "java/util/ImmutableCollections$Set12" "e1" "Ljava/lang/Object;" (.ref a_APPLIES_TO)) (F_ISSUE_ordinal : Fld Z h a_ISSUE "java/lang/Enum" "ordinal" "I" (.int (1 : Int32))) (F_ISSUE_needed_e0 : Fld Z h a_ISSUE_needed "java/util/ImmutableCollections$Set12" "e0" "Ljava/lang/Object;" (.ref a_QTY)) (F_ISSUE_needed_e1 : Fld Z h a_ISSUE_needed "java/util/ImmutableCollections$Set12" "e1" "Ljava/lang/Object;" (.ref a_VALUE_CHANGE_needed_e1))  : own_Con l Z x code maxLocals ret room_1 n0 [(.int i0)] h (fun v h' => v = some (.int (1 : Int32))) := by
  refine own_Con.mk (Ls := [.val (.int i0), .unset, .unset, .unset, .unset, .unset, .unset]) pn0 (fun m => by first | (simp [entryFrame, mkF, argsToLocals, Value.category, maxLocals]; done) | rfl) ?_
  intro p e s m below meth c C
  refine own_iloadN C d0_0 rfl ?_
  refine own_ldc C d0_1 (hw _ (List.mem_of_getElem? (i := 0) rfl)) ?_
  refine own_iand C d0_3 ?_
  refine own_bipush C (7 : Int32) d0_4 rfl ?_
  refine own_irem C d0_6 (by decide) ?_
  refine own_istoreN C 1 d0_7 rfl rfl rfl ?_
  refine own_bipush C (7 : Int32) d0_8 rfl ?_
  refine own_newA C d0_10 (hw _ (List.mem_of_getElem? (i := 1) rfl)) (hw _ (List.mem_of_getElem? (i := 2) rfl)) (by decide) 7 rfl (by decide) (by decide) (by decide) ?_
  intro h0 b cA eb E0 A0 O1
  have Y0 := E0
  have Zb : n0 ≤ b := by rw [eb]; exact Z0
  refine own_dup C d0_13 rfl ?_
  refine own_iconst C (0 : Int32) d0_14 rfl ?_
  refine own_getS C d0_15 (hw _ (List.mem_of_getElem? (i := 3) rfl)) (S_RECEIPT.ext Y0) ?_
  refine own_stA C d0_18 A0 O1 (Ins.self (E_RECEIPT.ext Y0)) 0 (by decide) rfl (by simp) Zb ?_
  intro h1 W1 A1
  have Y1 := own_ext_wr Y0 W1 (Nat.le_of_eq eb.symm)
  refine own_dup C d0_19 rfl ?_
  refine own_iconst C (1 : Int32) d0_20 rfl ?_
  refine own_getS C d0_21 (hw _ (List.mem_of_getElem? (i := 7) rfl)) (S_ISSUE.ext Y1) ?_
  refine own_stA C d0_24 A1 O1 (Ins.self (E_ISSUE.ext Y1)) 1 (by decide) rfl (by simp) Zb ?_
  intro h2 W2 A2
  have Y2 := own_ext_wr Y1 W2 (Nat.le_of_eq eb.symm)
  refine own_dup C d0_25 rfl ?_
  refine own_iconst C (2 : Int32) d0_26 rfl ?_
  refine own_getS C d0_27 (hw _ (List.mem_of_getElem? (i := 9) rfl)) (S_INVOICE.ext Y2) ?_
  refine own_stA C d0_30 A2 O1 (Ins.self (E_INVOICE.ext Y2)) 2 (by decide) rfl (by simp) Zb ?_
  intro h3 W3 A3
  have Y3 := own_ext_wr Y2 W3 (Nat.le_of_eq eb.symm)
  refine own_dup C d0_31 rfl ?_
  refine own_iconst C (3 : Int32) d0_32 rfl ?_
  refine own_getS C d0_33 (hw _ (List.mem_of_getElem? (i := 11) rfl)) (S_ADDITIONAL_COST.ext Y3) ?_
  refine own_stA C d0_36 A3 O1 (Ins.self (E_ADDITIONAL_COST.ext Y3)) 3 (by decide) rfl (by simp) Zb ?_
  intro h4 W4 A4
  have Y4 := own_ext_wr Y3 W4 (Nat.le_of_eq eb.symm)
  refine own_dup C d0_37 rfl ?_
  refine own_iconst C (4 : Int32) d0_38 rfl ?_
  refine own_getS C d0_39 (hw _ (List.mem_of_getElem? (i := 13) rfl)) (S_COUNT.ext Y4) ?_
  refine own_stA C d0_42 A4 O1 (Ins.self (E_COUNT.ext Y4)) 4 (by decide) rfl (by simp) Zb ?_
  intro h5 W5 A5
  have Y5 := own_ext_wr Y4 W5 (Nat.le_of_eq eb.symm)
  refine own_dup C d0_43 rfl ?_
  refine own_iconst C (5 : Int32) d0_44 rfl ?_
  refine own_getS C d0_45 (hw _ (List.mem_of_getElem? (i := 15) rfl)) (S_VALUE_CHANGE.ext Y5) ?_
  refine own_stA C d0_48 A5 O1 (Ins.self (E_VALUE_CHANGE.ext Y5)) 5 (by decide) rfl (by simp) Zb ?_
  intro h6 W6 A6
  have Y6 := own_ext_wr Y5 W6 (Nat.le_of_eq eb.symm)
  refine own_dup C d0_49 rfl ?_
  refine own_bipush C (6 : Int32) d0_50 rfl ?_
  refine own_getS C d0_52 (hw _ (List.mem_of_getElem? (i := 17) rfl)) (S_STANDARD_COST.ext Y6) ?_
  refine own_stA C d0_55 A6 O1 (Ins.self (E_STANDARD_COST.ext Y6)) 6 (by decide) rfl (by simp) Zb ?_
  intro h7 W7 A7
  have Y7 := own_ext_wr Y6 W7 (Nat.le_of_eq eb.symm)
  have A : own_Av Z h7 b (.object "com/example/costbasin/costbasin/Kind") cA [.ref a_RECEIPT, .ref a_ISSUE, .ref a_INVOICE, .ref a_ADDITIONAL_COST, .ref a_COUNT, .ref a_VALUE_CHANGE, .ref a_STANDARD_COST] := A7
  clear A0 A1 A2 A3 A4 A5 A6 A7
  refine own_astoreN C 2 d0_56 rfl rfl rfl rfl ?_
  refine own_aloadN C d0_57 rfl rfl ?_
  have hk := own_seven i0
  generalize (i0 &&& 2147483647) % 7 = k at hk ⊢
  rcases hk with rfl | rfl | rfl | rfl | rfl | rfl | rfl
  · refine own_iloadN C d0_58 rfl ?_
    refine own_ldA C d0_59 A rfl 0 (by decide) rfl rfl ?_
    refine own_astoreN C 3 d0_60 rfl rfl rfl rfl ?_
    refine own_aloadN C d0_61 rfl rfl ?_
    refine own_callV C (own_late_no l Z a0 hw n0 _ _ _ _ (S_INVOICE.ext Y7) (S_ADDITIONAL_COST.ext Y7) (F_RECEIPT_ordinal.ne F_INVOICE_ordinal (by decide)) (F_RECEIPT_ordinal.ne F_ADDITIONAL_COST_ordinal (by decide))) (E_RECEIPT.ext Y7) d0_62 (hw _ (List.mem_of_getElem? (i := 19) rfl)) (hw _ (List.mem_of_getElem? (i := 20) rfl)) (hw _ (List.mem_of_getElem? (i := 22) rfl)) (own_nf (args := #[]) C.2.1 (hw _ (List.mem_of_getElem? (i := 22) rfl))) (hw _ (List.mem_of_getElem? (i := 21) rfl)) (hw _ (List.mem_of_getElem? (i := 23) rfl)) (hw _ (List.mem_of_getElem? (i := 4) rfl)) (by decide) pd1 rfl rfl rfl (by decide) (Nat.le_of_ble_eq_true rfl) (by decide) (by decide) ?_
    rintro _ _ ⟨rfl, rfl⟩
    refine own_istore C 4 d0_65 rfl rfl rfl ?_
    refine own_iloadN C d0_67 rfl ?_
    refine own_iconst C (2 : Int32) d0_68 rfl ?_
    refine own_icmpeq C d0_69 t0_69 (fun h' => absurd h' (by decide)) (fun _ => ?_)
    refine own_iloadN C d0_72 rfl ?_
    refine own_iconst C (3 : Int32) d0_73 rfl ?_
    refine own_icmpne C d0_74 t0_74 (fun _ => ?_) (fun h' => absurd h' (by decide))
    refine own_iconst C (0 : Int32) d0_81 rfl ?_
    refine own_istore C 5 d0_82 rfl rfl rfl ?_
    refine own_aloadN C d0_84 rfl rfl ?_
    refine own_getS C d0_85 (hw _ (List.mem_of_getElem? (i := 26) rfl)) (S_APPLIES_TO.ext Y7) ?_
    refine own_callV C (own_needs_0 l Z a0 hw n0 _ _ a_APPLIES_TO a_RECEIPT_needed (F_RECEIPT_needed.ext Y7) (E_RECEIPT_needed.ext Y7) (own_has_miss l Z a0 hw n0 _ a_RECEIPT_needed a_APPLIES_TO a_QTY a_UNIT_PRICE (F_RECEIPT_needed_e0.ext Y7) (F_RECEIPT_needed_e1.ext Y7) (E_APPLIES_TO.ext Y7) (F_APPLIES_TO_ordinal.ne F_QTY_ordinal (by decide)) (F_UNIT_PRICE_ordinal.ne F_APPLIES_TO_ordinal (by decide)) (E_UNIT_PRICE.ext Y7))) (E_RECEIPT.ext Y7) d0_88 (hw _ (List.mem_of_getElem? (i := 29) rfl)) (hw _ (List.mem_of_getElem? (i := 30) rfl)) (hw _ (List.mem_of_getElem? (i := 32) rfl)) (own_nf (args := #[]) C.2.1 (hw _ (List.mem_of_getElem? (i := 32) rfl))) (hw _ (List.mem_of_getElem? (i := 31) rfl)) (hw _ (List.mem_of_getElem? (i := 33) rfl)) (hw _ (List.mem_of_getElem? (i := 4) rfl)) (by decide) pd2 rfl rfl rfl (by decide) (Nat.le_of_ble_eq_true rfl) (by decide) (by decide) ?_
    rintro _ _ ⟨rfl, rfl⟩
    refine own_istore C 6 d0_91 rfl rfl rfl ?_
    refine own_iload C d0_93 rfl ?_
    refine own_iload C d0_95 rfl ?_
    refine own_icmpne C d0_97 t0_97 (fun h' => absurd h' (by decide)) (fun _ => ?_)
    refine own_iload C d0_100 rfl ?_
    refine own_iload C d0_102 rfl ?_
    refine own_icmpne C d0_104 t0_104 (fun h' => absurd h' (by decide)) (fun _ => ?_)
    refine own_iconst C (1 : Int32) d0_107 rfl ?_
    refine own_goto C d0_108 t0_108 ?_
    exact own_retZ C d0_112 (Or.inr rfl) (by decide) (by decide) rfl
  · refine own_iloadN C d0_58 rfl ?_
    refine own_ldA C d0_59 A rfl 1 (by decide) rfl rfl ?_
    refine own_astoreN C 3 d0_60 rfl rfl rfl rfl ?_
    refine own_aloadN C d0_61 rfl rfl ?_
    refine own_callV C (own_late_no l Z a0 hw n0 _ _ _ _ (S_INVOICE.ext Y7) (S_ADDITIONAL_COST.ext Y7) (F_ISSUE_ordinal.ne F_INVOICE_ordinal (by decide)) (F_ISSUE_ordinal.ne F_ADDITIONAL_COST_ordinal (by decide))) (E_ISSUE.ext Y7) d0_62 (hw _ (List.mem_of_getElem? (i := 19) rfl)) (hw _ (List.mem_of_getElem? (i := 20) rfl)) (hw _ (List.mem_of_getElem? (i := 22) rfl)) (own_nf (args := #[]) C.2.1 (hw _ (List.mem_of_getElem? (i := 22) rfl))) (hw _ (List.mem_of_getElem? (i := 21) rfl)) (hw _ (List.mem_of_getElem? (i := 23) rfl)) (hw _ (List.mem_of_getElem? (i := 4) rfl)) (by decide) pd1 rfl rfl rfl (by decide) (Nat.le_of_ble_eq_true rfl) (by decide) (by decide) ?_
    rintro _ _ ⟨rfl, rfl⟩
    refine own_istore C 4 d0_65 rfl rfl rfl ?_
    refine own_iloadN C d0_67 rfl ?_
    refine own_iconst C (2 : Int32) d0_68 rfl ?_
    refine own_icmpeq C d0_69 t0_69 (fun h' => absurd h' (by decide)) (fun _ => ?_)
    refine own_iloadN C d0_72 rfl ?_
    refine own_iconst C (3 : Int32) d0_73 rfl ?_
    refine own_icmpne C d0_74 t0_74 (fun _ => ?_) (fun h' => absurd h' (by decide))
    refine own_iconst C (0 : Int32) d0_81 rfl ?_
    refine own_istore C 5 d0_82 rfl rfl rfl ?_
    refine own_aloadN C d0_84 rfl rfl ?_
    refine own_getS C d0_85 (hw _ (List.mem_of_getElem? (i := 26) rfl)) (S_APPLIES_TO.ext Y7) ?_
    refine own_callV C (own_needs_0 l Z a0 hw n0 _ _ a_APPLIES_TO a_ISSUE_needed (F_ISSUE_needed.ext Y7) (E_ISSUE_needed.ext Y7) (own_has_one l Z a0 hw n0 _ a_ISSUE_needed a_APPLIES_TO a_QTY a_VALUE_CHANGE_needed_e1 (F_ISSUE_needed_e0.ext Y7) (F_ISSUE_needed_e1.ext Y7) (E_APPLIES_TO.ext Y7) (F_APPLIES_TO_ordinal.ne F_QTY_ordinal (by decide)) (ne_exa E_VALUE_CHANGE_needed_e1 E_APPLIES_TO (by decide)) (E_VALUE_CHANGE_needed_e1.ext Y7))) (E_ISSUE.ext Y7) d0_88 (hw _ (List.mem_of_getElem? (i := 29) rfl)) (hw _ (List.mem_of_getElem? (i := 30) rfl)) (hw _ (List.mem_of_getElem? (i := 32) rfl)) (own_nf (args := #[]) C.2.1 (hw _ (List.mem_of_getElem? (i := 32) rfl))) (hw _ (List.mem_of_getElem? (i := 31) rfl)) (hw _ (List.mem_of_getElem? (i := 33) rfl)) (hw _ (List.mem_of_getElem? (i := 4) rfl)) (by decide) pd2 rfl rfl rfl (by decide) (Nat.le_of_ble_eq_true rfl) (by decide) (by decide) ?_
    rintro _ _ ⟨rfl, rfl⟩
    refine own_istore C 6 d0_91 rfl rfl rfl ?_
    refine own_iload C d0_93 rfl ?_
    refine own_iload C d0_95 rfl ?_
    refine own_icmpne C d0_97 t0_97 (fun h' => absurd h' (by decide)) (fun _ => ?_)
    refine own_iload C d0_100 rfl ?_
    refine own_iload C d0_102 rfl ?_
    refine own_icmpne C d0_104 t0_104 (fun h' => absurd h' (by decide)) (fun _ => ?_)
    refine own_iconst C (1 : Int32) d0_107 rfl ?_
    refine own_goto C d0_108 t0_108 ?_
    exact own_retZ C d0_112 (Or.inr rfl) (by decide) (by decide) rfl
  · refine own_iloadN C d0_58 rfl ?_
    refine own_ldA C d0_59 A rfl 2 (by decide) rfl rfl ?_
    refine own_astoreN C 3 d0_60 rfl rfl rfl rfl ?_
    refine own_aloadN C d0_61 rfl rfl ?_
    refine own_callV C (own_late_inv l Z a0 hw n0 _ _ (S_INVOICE.ext Y7)) (E_INVOICE.ext Y7) d0_62 (hw _ (List.mem_of_getElem? (i := 19) rfl)) (hw _ (List.mem_of_getElem? (i := 20) rfl)) (hw _ (List.mem_of_getElem? (i := 22) rfl)) (own_nf (args := #[]) C.2.1 (hw _ (List.mem_of_getElem? (i := 22) rfl))) (hw _ (List.mem_of_getElem? (i := 21) rfl)) (hw _ (List.mem_of_getElem? (i := 23) rfl)) (hw _ (List.mem_of_getElem? (i := 4) rfl)) (by decide) pd1 rfl rfl rfl (by decide) (Nat.le_of_ble_eq_true rfl) (by decide) (by decide) ?_
    rintro _ _ ⟨rfl, rfl⟩
    refine own_istore C 4 d0_65 rfl rfl rfl ?_
    refine own_iloadN C d0_67 rfl ?_
    refine own_iconst C (2 : Int32) d0_68 rfl ?_
    refine own_icmpeq C d0_69 t0_69 (fun _ => ?_) (fun h' => absurd h' (by decide))
    refine own_iconst C (1 : Int32) d0_77 rfl ?_
    refine own_goto C d0_78 t0_78 ?_
    refine own_istore C 5 d0_82 rfl rfl rfl ?_
    refine own_aloadN C d0_84 rfl rfl ?_
    refine own_getS C d0_85 (hw _ (List.mem_of_getElem? (i := 26) rfl)) (S_APPLIES_TO.ext Y7) ?_
    refine own_callV C (own_needs_1 l Z a0 hw n0 _ _ a_APPLIES_TO a_INVOICE_needed (F_INVOICE_needed.ext Y7) (E_INVOICE_needed.ext Y7) (own_has_hit l Z a0 hw n0 _ a_INVOICE_needed a_APPLIES_TO a_UNIT_PRICE a_APPLIES_TO (F_INVOICE_needed_e0.ext Y7) (F_INVOICE_needed_e1.ext Y7) (E_APPLIES_TO.ext Y7) (F_APPLIES_TO_ordinal.ne F_UNIT_PRICE_ordinal (by decide)) rfl (E_APPLIES_TO.ext Y7))) (E_INVOICE.ext Y7) d0_88 (hw _ (List.mem_of_getElem? (i := 29) rfl)) (hw _ (List.mem_of_getElem? (i := 30) rfl)) (hw _ (List.mem_of_getElem? (i := 32) rfl)) (own_nf (args := #[]) C.2.1 (hw _ (List.mem_of_getElem? (i := 32) rfl))) (hw _ (List.mem_of_getElem? (i := 31) rfl)) (hw _ (List.mem_of_getElem? (i := 33) rfl)) (hw _ (List.mem_of_getElem? (i := 4) rfl)) (by decide) pd2 rfl rfl rfl (by decide) (Nat.le_of_ble_eq_true rfl) (by decide) (by decide) ?_
    rintro _ _ ⟨rfl, rfl⟩
    refine own_istore C 6 d0_91 rfl rfl rfl ?_
    refine own_iload C d0_93 rfl ?_
    refine own_iload C d0_95 rfl ?_
    refine own_icmpne C d0_97 t0_97 (fun h' => absurd h' (by decide)) (fun _ => ?_)
    refine own_iload C d0_100 rfl ?_
    refine own_iload C d0_102 rfl ?_
    refine own_icmpne C d0_104 t0_104 (fun h' => absurd h' (by decide)) (fun _ => ?_)
    refine own_iconst C (1 : Int32) d0_107 rfl ?_
    refine own_goto C d0_108 t0_108 ?_
    exact own_retZ C d0_112 (Or.inr rfl) (by decide) (by decide) rfl
  · refine own_iloadN C d0_58 rfl ?_
    refine own_ldA C d0_59 A rfl 3 (by decide) rfl rfl ?_
    refine own_astoreN C 3 d0_60 rfl rfl rfl rfl ?_
    refine own_aloadN C d0_61 rfl rfl ?_
    refine own_callV C (own_late_add l Z a0 hw n0 _ _ _ (S_INVOICE.ext Y7) (S_ADDITIONAL_COST.ext Y7) (F_ADDITIONAL_COST_ordinal.ne F_INVOICE_ordinal (by decide))) (E_ADDITIONAL_COST.ext Y7) d0_62 (hw _ (List.mem_of_getElem? (i := 19) rfl)) (hw _ (List.mem_of_getElem? (i := 20) rfl)) (hw _ (List.mem_of_getElem? (i := 22) rfl)) (own_nf (args := #[]) C.2.1 (hw _ (List.mem_of_getElem? (i := 22) rfl))) (hw _ (List.mem_of_getElem? (i := 21) rfl)) (hw _ (List.mem_of_getElem? (i := 23) rfl)) (hw _ (List.mem_of_getElem? (i := 4) rfl)) (by decide) pd1 rfl rfl rfl (by decide) (Nat.le_of_ble_eq_true rfl) (by decide) (by decide) ?_
    rintro _ _ ⟨rfl, rfl⟩
    refine own_istore C 4 d0_65 rfl rfl rfl ?_
    refine own_iloadN C d0_67 rfl ?_
    refine own_iconst C (2 : Int32) d0_68 rfl ?_
    refine own_icmpeq C d0_69 t0_69 (fun h' => absurd h' (by decide)) (fun _ => ?_)
    refine own_iloadN C d0_72 rfl ?_
    refine own_iconst C (3 : Int32) d0_73 rfl ?_
    refine own_icmpne C d0_74 t0_74 (fun h' => absurd h' (by decide)) (fun _ => ?_)
    refine own_iconst C (1 : Int32) d0_77 rfl ?_
    refine own_goto C d0_78 t0_78 ?_
    refine own_istore C 5 d0_82 rfl rfl rfl ?_
    refine own_aloadN C d0_84 rfl rfl ?_
    refine own_getS C d0_85 (hw _ (List.mem_of_getElem? (i := 26) rfl)) (S_APPLIES_TO.ext Y7) ?_
    refine own_callV C (own_needs_1 l Z a0 hw n0 _ _ a_APPLIES_TO a_ADDITIONAL_COST_needed (F_ADDITIONAL_COST_needed.ext Y7) (E_ADDITIONAL_COST_needed.ext Y7) (own_has_hit l Z a0 hw n0 _ a_ADDITIONAL_COST_needed a_APPLIES_TO a_AMOUNT a_APPLIES_TO (F_ADDITIONAL_COST_needed_e0.ext Y7) (F_ADDITIONAL_COST_needed_e1.ext Y7) (E_APPLIES_TO.ext Y7) (F_APPLIES_TO_ordinal.ne F_AMOUNT_ordinal (by decide)) rfl (E_APPLIES_TO.ext Y7))) (E_ADDITIONAL_COST.ext Y7) d0_88 (hw _ (List.mem_of_getElem? (i := 29) rfl)) (hw _ (List.mem_of_getElem? (i := 30) rfl)) (hw _ (List.mem_of_getElem? (i := 32) rfl)) (own_nf (args := #[]) C.2.1 (hw _ (List.mem_of_getElem? (i := 32) rfl))) (hw _ (List.mem_of_getElem? (i := 31) rfl)) (hw _ (List.mem_of_getElem? (i := 33) rfl)) (hw _ (List.mem_of_getElem? (i := 4) rfl)) (by decide) pd2 rfl rfl rfl (by decide) (Nat.le_of_ble_eq_true rfl) (by decide) (by decide) ?_
    rintro _ _ ⟨rfl, rfl⟩
    refine own_istore C 6 d0_91 rfl rfl rfl ?_
    refine own_iload C d0_93 rfl ?_
    refine own_iload C d0_95 rfl ?_
    refine own_icmpne C d0_97 t0_97 (fun h' => absurd h' (by decide)) (fun _ => ?_)
    refine own_iload C d0_100 rfl ?_
    refine own_iload C d0_102 rfl ?_
    refine own_icmpne C d0_104 t0_104 (fun h' => absurd h' (by decide)) (fun _ => ?_)
    refine own_iconst C (1 : Int32) d0_107 rfl ?_
    refine own_goto C d0_108 t0_108 ?_
    exact own_retZ C d0_112 (Or.inr rfl) (by decide) (by decide) rfl
  · refine own_iloadN C d0_58 rfl ?_
    refine own_ldA C d0_59 A rfl 4 (by decide) rfl rfl ?_
    refine own_astoreN C 3 d0_60 rfl rfl rfl rfl ?_
    refine own_aloadN C d0_61 rfl rfl ?_
    refine own_callV C (own_late_no l Z a0 hw n0 _ _ _ _ (S_INVOICE.ext Y7) (S_ADDITIONAL_COST.ext Y7) (F_COUNT_ordinal.ne F_INVOICE_ordinal (by decide)) (F_COUNT_ordinal.ne F_ADDITIONAL_COST_ordinal (by decide))) (E_COUNT.ext Y7) d0_62 (hw _ (List.mem_of_getElem? (i := 19) rfl)) (hw _ (List.mem_of_getElem? (i := 20) rfl)) (hw _ (List.mem_of_getElem? (i := 22) rfl)) (own_nf (args := #[]) C.2.1 (hw _ (List.mem_of_getElem? (i := 22) rfl))) (hw _ (List.mem_of_getElem? (i := 21) rfl)) (hw _ (List.mem_of_getElem? (i := 23) rfl)) (hw _ (List.mem_of_getElem? (i := 4) rfl)) (by decide) pd1 rfl rfl rfl (by decide) (Nat.le_of_ble_eq_true rfl) (by decide) (by decide) ?_
    rintro _ _ ⟨rfl, rfl⟩
    refine own_istore C 4 d0_65 rfl rfl rfl ?_
    refine own_iloadN C d0_67 rfl ?_
    refine own_iconst C (2 : Int32) d0_68 rfl ?_
    refine own_icmpeq C d0_69 t0_69 (fun h' => absurd h' (by decide)) (fun _ => ?_)
    refine own_iloadN C d0_72 rfl ?_
    refine own_iconst C (3 : Int32) d0_73 rfl ?_
    refine own_icmpne C d0_74 t0_74 (fun _ => ?_) (fun h' => absurd h' (by decide))
    refine own_iconst C (0 : Int32) d0_81 rfl ?_
    refine own_istore C 5 d0_82 rfl rfl rfl ?_
    refine own_aloadN C d0_84 rfl rfl ?_
    refine own_getS C d0_85 (hw _ (List.mem_of_getElem? (i := 26) rfl)) (S_APPLIES_TO.ext Y7) ?_
    refine own_callV C (own_needs_0 l Z a0 hw n0 _ _ a_APPLIES_TO a_COUNT_needed (F_COUNT_needed.ext Y7) (E_COUNT_needed.ext Y7) (own_has_one l Z a0 hw n0 _ a_COUNT_needed a_APPLIES_TO a_QTY a_VALUE_CHANGE_needed_e1 (F_COUNT_needed_e0.ext Y7) (F_COUNT_needed_e1.ext Y7) (E_APPLIES_TO.ext Y7) (F_APPLIES_TO_ordinal.ne F_QTY_ordinal (by decide)) (ne_exa E_VALUE_CHANGE_needed_e1 E_APPLIES_TO (by decide)) (E_VALUE_CHANGE_needed_e1.ext Y7))) (E_COUNT.ext Y7) d0_88 (hw _ (List.mem_of_getElem? (i := 29) rfl)) (hw _ (List.mem_of_getElem? (i := 30) rfl)) (hw _ (List.mem_of_getElem? (i := 32) rfl)) (own_nf (args := #[]) C.2.1 (hw _ (List.mem_of_getElem? (i := 32) rfl))) (hw _ (List.mem_of_getElem? (i := 31) rfl)) (hw _ (List.mem_of_getElem? (i := 33) rfl)) (hw _ (List.mem_of_getElem? (i := 4) rfl)) (by decide) pd2 rfl rfl rfl (by decide) (Nat.le_of_ble_eq_true rfl) (by decide) (by decide) ?_
    rintro _ _ ⟨rfl, rfl⟩
    refine own_istore C 6 d0_91 rfl rfl rfl ?_
    refine own_iload C d0_93 rfl ?_
    refine own_iload C d0_95 rfl ?_
    refine own_icmpne C d0_97 t0_97 (fun h' => absurd h' (by decide)) (fun _ => ?_)
    refine own_iload C d0_100 rfl ?_
    refine own_iload C d0_102 rfl ?_
    refine own_icmpne C d0_104 t0_104 (fun h' => absurd h' (by decide)) (fun _ => ?_)
    refine own_iconst C (1 : Int32) d0_107 rfl ?_
    refine own_goto C d0_108 t0_108 ?_
    exact own_retZ C d0_112 (Or.inr rfl) (by decide) (by decide) rfl
  · refine own_iloadN C d0_58 rfl ?_
    refine own_ldA C d0_59 A rfl 5 (by decide) rfl rfl ?_
    refine own_astoreN C 3 d0_60 rfl rfl rfl rfl ?_
    refine own_aloadN C d0_61 rfl rfl ?_
    refine own_callV C (own_late_no l Z a0 hw n0 _ _ _ _ (S_INVOICE.ext Y7) (S_ADDITIONAL_COST.ext Y7) (F_VALUE_CHANGE_ordinal.ne F_INVOICE_ordinal (by decide)) (F_VALUE_CHANGE_ordinal.ne F_ADDITIONAL_COST_ordinal (by decide))) (E_VALUE_CHANGE.ext Y7) d0_62 (hw _ (List.mem_of_getElem? (i := 19) rfl)) (hw _ (List.mem_of_getElem? (i := 20) rfl)) (hw _ (List.mem_of_getElem? (i := 22) rfl)) (own_nf (args := #[]) C.2.1 (hw _ (List.mem_of_getElem? (i := 22) rfl))) (hw _ (List.mem_of_getElem? (i := 21) rfl)) (hw _ (List.mem_of_getElem? (i := 23) rfl)) (hw _ (List.mem_of_getElem? (i := 4) rfl)) (by decide) pd1 rfl rfl rfl (by decide) (Nat.le_of_ble_eq_true rfl) (by decide) (by decide) ?_
    rintro _ _ ⟨rfl, rfl⟩
    refine own_istore C 4 d0_65 rfl rfl rfl ?_
    refine own_iloadN C d0_67 rfl ?_
    refine own_iconst C (2 : Int32) d0_68 rfl ?_
    refine own_icmpeq C d0_69 t0_69 (fun h' => absurd h' (by decide)) (fun _ => ?_)
    refine own_iloadN C d0_72 rfl ?_
    refine own_iconst C (3 : Int32) d0_73 rfl ?_
    refine own_icmpne C d0_74 t0_74 (fun _ => ?_) (fun h' => absurd h' (by decide))
    refine own_iconst C (0 : Int32) d0_81 rfl ?_
    refine own_istore C 5 d0_82 rfl rfl rfl ?_
    refine own_aloadN C d0_84 rfl rfl ?_
    refine own_getS C d0_85 (hw _ (List.mem_of_getElem? (i := 26) rfl)) (S_APPLIES_TO.ext Y7) ?_
    refine own_callV C (own_needs_0 l Z a0 hw n0 _ _ a_APPLIES_TO a_VALUE_CHANGE_needed (F_VALUE_CHANGE_needed.ext Y7) (E_VALUE_CHANGE_needed.ext Y7) (own_has_one l Z a0 hw n0 _ a_VALUE_CHANGE_needed a_APPLIES_TO a_UNIT_PRICE a_VALUE_CHANGE_needed_e1 (F_VALUE_CHANGE_needed_e0.ext Y7) (F_VALUE_CHANGE_needed_e1.ext Y7) (E_APPLIES_TO.ext Y7) (F_APPLIES_TO_ordinal.ne F_UNIT_PRICE_ordinal (by decide)) (ne_exa E_VALUE_CHANGE_needed_e1 E_APPLIES_TO (by decide)) (E_VALUE_CHANGE_needed_e1.ext Y7))) (E_VALUE_CHANGE.ext Y7) d0_88 (hw _ (List.mem_of_getElem? (i := 29) rfl)) (hw _ (List.mem_of_getElem? (i := 30) rfl)) (hw _ (List.mem_of_getElem? (i := 32) rfl)) (own_nf (args := #[]) C.2.1 (hw _ (List.mem_of_getElem? (i := 32) rfl))) (hw _ (List.mem_of_getElem? (i := 31) rfl)) (hw _ (List.mem_of_getElem? (i := 33) rfl)) (hw _ (List.mem_of_getElem? (i := 4) rfl)) (by decide) pd2 rfl rfl rfl (by decide) (Nat.le_of_ble_eq_true rfl) (by decide) (by decide) ?_
    rintro _ _ ⟨rfl, rfl⟩
    refine own_istore C 6 d0_91 rfl rfl rfl ?_
    refine own_iload C d0_93 rfl ?_
    refine own_iload C d0_95 rfl ?_
    refine own_icmpne C d0_97 t0_97 (fun h' => absurd h' (by decide)) (fun _ => ?_)
    refine own_iload C d0_100 rfl ?_
    refine own_iload C d0_102 rfl ?_
    refine own_icmpne C d0_104 t0_104 (fun h' => absurd h' (by decide)) (fun _ => ?_)
    refine own_iconst C (1 : Int32) d0_107 rfl ?_
    refine own_goto C d0_108 t0_108 ?_
    exact own_retZ C d0_112 (Or.inr rfl) (by decide) (by decide) rfl
  · refine own_iloadN C d0_58 rfl ?_
    refine own_ldA C d0_59 A rfl 6 (by decide) rfl rfl ?_
    refine own_astoreN C 3 d0_60 rfl rfl rfl rfl ?_
    refine own_aloadN C d0_61 rfl rfl ?_
    refine own_callV C (own_late_no l Z a0 hw n0 _ _ _ _ (S_INVOICE.ext Y7) (S_ADDITIONAL_COST.ext Y7) (F_STANDARD_COST_ordinal.ne F_INVOICE_ordinal (by decide)) (F_STANDARD_COST_ordinal.ne F_ADDITIONAL_COST_ordinal (by decide))) (E_STANDARD_COST.ext Y7) d0_62 (hw _ (List.mem_of_getElem? (i := 19) rfl)) (hw _ (List.mem_of_getElem? (i := 20) rfl)) (hw _ (List.mem_of_getElem? (i := 22) rfl)) (own_nf (args := #[]) C.2.1 (hw _ (List.mem_of_getElem? (i := 22) rfl))) (hw _ (List.mem_of_getElem? (i := 21) rfl)) (hw _ (List.mem_of_getElem? (i := 23) rfl)) (hw _ (List.mem_of_getElem? (i := 4) rfl)) (by decide) pd1 rfl rfl rfl (by decide) (Nat.le_of_ble_eq_true rfl) (by decide) (by decide) ?_
    rintro _ _ ⟨rfl, rfl⟩
    refine own_istore C 4 d0_65 rfl rfl rfl ?_
    refine own_iloadN C d0_67 rfl ?_
    refine own_iconst C (2 : Int32) d0_68 rfl ?_
    refine own_icmpeq C d0_69 t0_69 (fun h' => absurd h' (by decide)) (fun _ => ?_)
    refine own_iloadN C d0_72 rfl ?_
    refine own_iconst C (3 : Int32) d0_73 rfl ?_
    refine own_icmpne C d0_74 t0_74 (fun _ => ?_) (fun h' => absurd h' (by decide))
    refine own_iconst C (0 : Int32) d0_81 rfl ?_
    refine own_istore C 5 d0_82 rfl rfl rfl ?_
    refine own_aloadN C d0_84 rfl rfl ?_
    refine own_getS C d0_85 (hw _ (List.mem_of_getElem? (i := 26) rfl)) (S_APPLIES_TO.ext Y7) ?_
    refine own_callV C (own_needs_0 l Z a0 hw n0 _ _ a_APPLIES_TO a_STANDARD_COST_needed (F_STANDARD_COST_needed.ext Y7) (E_STANDARD_COST_needed.ext Y7) (own_has_one l Z a0 hw n0 _ a_STANDARD_COST_needed a_APPLIES_TO a_UNIT_PRICE a_VALUE_CHANGE_needed_e1 (F_STANDARD_COST_needed_e0.ext Y7) (F_STANDARD_COST_needed_e1.ext Y7) (E_APPLIES_TO.ext Y7) (F_APPLIES_TO_ordinal.ne F_UNIT_PRICE_ordinal (by decide)) (ne_exa E_VALUE_CHANGE_needed_e1 E_APPLIES_TO (by decide)) (E_VALUE_CHANGE_needed_e1.ext Y7))) (E_STANDARD_COST.ext Y7) d0_88 (hw _ (List.mem_of_getElem? (i := 29) rfl)) (hw _ (List.mem_of_getElem? (i := 30) rfl)) (hw _ (List.mem_of_getElem? (i := 32) rfl)) (own_nf (args := #[]) C.2.1 (hw _ (List.mem_of_getElem? (i := 32) rfl))) (hw _ (List.mem_of_getElem? (i := 31) rfl)) (hw _ (List.mem_of_getElem? (i := 33) rfl)) (hw _ (List.mem_of_getElem? (i := 4) rfl)) (by decide) pd2 rfl rfl rfl (by decide) (Nat.le_of_ble_eq_true rfl) (by decide) (by decide) ?_
    rintro _ _ ⟨rfl, rfl⟩
    refine own_istore C 6 d0_91 rfl rfl rfl ?_
    refine own_iload C d0_93 rfl ?_
    refine own_iload C d0_95 rfl ?_
    refine own_icmpne C d0_97 t0_97 (fun h' => absurd h' (by decide)) (fun _ => ?_)
    refine own_iload C d0_100 rfl ?_
    refine own_iload C d0_102 rfl ?_
    refine own_icmpne C d0_104 t0_104 (fun h' => absurd h' (by decide)) (fun _ => ?_)
    refine own_iconst C (1 : Int32) d0_107 rfl ?_
    refine own_goto C d0_108 t0_108 ?_
    exact own_retZ C d0_112 (Or.inr rfl) (by decide) (by decide) rfl
set_option maxRecDepth 65536 in
set_option maxHeartbeats 40000000 in
theorem comes_1 {Post : Tables → Env → Array Value → State → Outcome → State → Prop} (hpost : ∀ tb e args s v u, (limb_1_1.after args s (.returned v) u = true ∧ limb_1_2.after args s (.returned v) u = true ∧ True) → FrameEnd s (.returned v) u (Jvm.fieldLocs frame_1_writes args s ++ Jvm.arrayLocs frame_1_arrays args s ++ Jvm.staticLocs frame_1_statics s) 16 128 → Post tb e args s (.returned v) u) :
    ArmFor flags0 classFile x code maxLocals ret World_1 tables_1 room_1 Calls_1 rest_1 Pre_1 Post := by
  intro l hfl _ _ p e ha hc hk s m args below hf hA hF happ hP
  obtain ⟨hcalls, hrest, hpre⟩ := hP
  obtain ⟨-, -, -, hnamed, -, -, -, hat⟩ := (Spec.applies_iff hf).mp happ
  obtain ⟨hg, hn⟩ := and_e (Cond.before_iff.mp (show (Jvm.Cond.and given_1 narrow_1).before args s = true from hpre))
  obtain ⟨hg0, hg1⟩ := and_e hg
  obtain ⟨w0, rfl⟩ : ∃ w0 : Value, args = #[w0] := by
    have hs : args.size = 1 := by simpa [Cond.value, given_1] using hg0
    obtain ⟨L⟩ := args
    match L, hs with
    | [w0], _ => exact ⟨w0, rfl⟩
  have hw := fun d (hd : d ∈ tables_1) => atoms_spec (ws := Jvm.Cond.code x code maxLocals ret :: tables_1) hat d (List.mem_cons_of_mem _ hd)
  have hfit : Fit s := fun {y c} hc i hi => by
    obtain ⟨ha, rfl⟩ := Array.getElem?_eq_some_iff.mp hc
    have q := List.all_eq_true.mp ((Array.all_eq_true_iff_forall_mem.mp hF) _ (Array.getElem_mem ha)) i (List.mem_range.mpr hi)
    simpa [Array.getElem?_eq_getElem hi] using q
  obtain ⟨i0, ea0⟩ := is_v hg1
  obtain rfl : w0 = (.int i0) := Option.some.inj ea0
  obtain ⟨hc0, hr0⟩ := and_e hn
  obtain ⟨hc1, hr1⟩ := and_e hr0
  obtain ⟨hc2, hr2⟩ := and_e hr1
  obtain ⟨hc3, hr3⟩ := and_e hr2
  obtain ⟨hc4, hr4⟩ := and_e hr3
  obtain ⟨hc5, hr5⟩ := and_e hr4
  obtain ⟨hc6, hr6⟩ := and_e hr5
  obtain ⟨hc7, hr7⟩ := and_e hr6
  obtain ⟨hc8, hr8⟩ := and_e hr7
  obtain ⟨hc9, hr9⟩ := and_e hr8
  obtain ⟨hc10, hr10⟩ := and_e hr9
  obtain ⟨hc11, hr11⟩ := and_e hr10
  obtain ⟨hc12, hr12⟩ := and_e hr11
  obtain ⟨hc13, hr13⟩ := and_e hr12
  obtain ⟨hc14, hr14⟩ := and_e hr13
  obtain ⟨hc15, hr15⟩ := and_e hr14
  obtain ⟨hc16, hr16⟩ := and_e hr15
  obtain ⟨hc17, hr17⟩ := and_e hr16
  obtain ⟨hc18, hr18⟩ := and_e hr17
  obtain ⟨hc19, hr19⟩ := and_e hr18
  obtain ⟨hc20, hr20⟩ := and_e hr19
  obtain ⟨hc21, hr21⟩ := and_e hr20
  obtain ⟨hc22, hr22⟩ := and_e hr21
  obtain ⟨hc23, hr23⟩ := and_e hr22
  obtain ⟨hc24, hr24⟩ := and_e hr23
  obtain ⟨hc25, hr25⟩ := and_e hr24
  obtain ⟨hc26, hr26⟩ := and_e hr25
  obtain ⟨hc27, hr27⟩ := and_e hr26
  obtain ⟨hc28, hr28⟩ := and_e hr27
  obtain ⟨hc29, hr29⟩ := and_e hr28
  obtain ⟨hc30, hr30⟩ := and_e hr29
  obtain ⟨hc31, hr31⟩ := and_e hr30
  obtain ⟨hc32, hr32⟩ := and_e hr31
  obtain ⟨hc33, hr33⟩ := and_e hr32
  obtain ⟨hc34, hr34⟩ := and_e hr33
  obtain ⟨hc35, hr35⟩ := and_e hr34
  obtain ⟨hc36, hr36⟩ := and_e hr35
  obtain ⟨hc37, hr37⟩ := and_e hr36
  obtain ⟨hc38, hr38⟩ := and_e hr37
  obtain ⟨hc39, hr39⟩ := and_e hr38
  obtain ⟨hc40, hr40⟩ := and_e hr39
  obtain ⟨hc41, hr41⟩ := and_e hr40
  obtain ⟨a_RECEIPT, ev_RECEIPT⟩ := exa_v hc0
  have S_RECEIPT : Sta s s.heap "com/example/costbasin/costbasin/Kind" "RECEIPT" "Lcom/example/costbasin/costbasin/Kind;" (.ref a_RECEIPT) := Sta.start ev_RECEIPT (Or.inr ⟨(hw _ (List.mem_of_getElem? (i := 4) rfl)), (hw _ (List.mem_of_getElem? (i := 5) rfl))⟩)
  have E_RECEIPT : Exa s s.heap a_RECEIPT "com/example/costbasin/costbasin/Kind" := Exa.start ev_RECEIPT hc0
  obtain ⟨a_ISSUE, ev_ISSUE⟩ := exa_v hc1
  have S_ISSUE : Sta s s.heap "com/example/costbasin/costbasin/Kind" "ISSUE" "Lcom/example/costbasin/costbasin/Kind;" (.ref a_ISSUE) := Sta.start ev_ISSUE (Or.inr ⟨(hw _ (List.mem_of_getElem? (i := 4) rfl)), (hw _ (List.mem_of_getElem? (i := 8) rfl))⟩)
  have E_ISSUE : Exa s s.heap a_ISSUE "com/example/costbasin/costbasin/Kind" := Exa.start ev_ISSUE hc1
  obtain ⟨a_INVOICE, ev_INVOICE⟩ := exa_v hc2
  have S_INVOICE : Sta s s.heap "com/example/costbasin/costbasin/Kind" "INVOICE" "Lcom/example/costbasin/costbasin/Kind;" (.ref a_INVOICE) := Sta.start ev_INVOICE (Or.inr ⟨(hw _ (List.mem_of_getElem? (i := 4) rfl)), (hw _ (List.mem_of_getElem? (i := 10) rfl))⟩)
  have E_INVOICE : Exa s s.heap a_INVOICE "com/example/costbasin/costbasin/Kind" := Exa.start ev_INVOICE hc2
  obtain ⟨a_ADDITIONAL_COST, ev_ADDITIONAL_COST⟩ := exa_v hc3
  have S_ADDITIONAL_COST : Sta s s.heap "com/example/costbasin/costbasin/Kind" "ADDITIONAL_COST" "Lcom/example/costbasin/costbasin/Kind;" (.ref a_ADDITIONAL_COST) := Sta.start ev_ADDITIONAL_COST (Or.inr ⟨(hw _ (List.mem_of_getElem? (i := 4) rfl)), (hw _ (List.mem_of_getElem? (i := 12) rfl))⟩)
  have E_ADDITIONAL_COST : Exa s s.heap a_ADDITIONAL_COST "com/example/costbasin/costbasin/Kind" := Exa.start ev_ADDITIONAL_COST hc3
  obtain ⟨a_COUNT, ev_COUNT⟩ := exa_v hc4
  have S_COUNT : Sta s s.heap "com/example/costbasin/costbasin/Kind" "COUNT" "Lcom/example/costbasin/costbasin/Kind;" (.ref a_COUNT) := Sta.start ev_COUNT (Or.inr ⟨(hw _ (List.mem_of_getElem? (i := 4) rfl)), (hw _ (List.mem_of_getElem? (i := 14) rfl))⟩)
  have E_COUNT : Exa s s.heap a_COUNT "com/example/costbasin/costbasin/Kind" := Exa.start ev_COUNT hc4
  obtain ⟨a_VALUE_CHANGE, ev_VALUE_CHANGE⟩ := exa_v hc5
  have S_VALUE_CHANGE : Sta s s.heap "com/example/costbasin/costbasin/Kind" "VALUE_CHANGE" "Lcom/example/costbasin/costbasin/Kind;" (.ref a_VALUE_CHANGE) := Sta.start ev_VALUE_CHANGE (Or.inr ⟨(hw _ (List.mem_of_getElem? (i := 4) rfl)), (hw _ (List.mem_of_getElem? (i := 16) rfl))⟩)
  have E_VALUE_CHANGE : Exa s s.heap a_VALUE_CHANGE "com/example/costbasin/costbasin/Kind" := Exa.start ev_VALUE_CHANGE hc5
  obtain ⟨a_STANDARD_COST, ev_STANDARD_COST⟩ := exa_v hc6
  have S_STANDARD_COST : Sta s s.heap "com/example/costbasin/costbasin/Kind" "STANDARD_COST" "Lcom/example/costbasin/costbasin/Kind;" (.ref a_STANDARD_COST) := Sta.start ev_STANDARD_COST (Or.inr ⟨(hw _ (List.mem_of_getElem? (i := 4) rfl)), (hw _ (List.mem_of_getElem? (i := 18) rfl))⟩)
  have E_STANDARD_COST : Exa s s.heap a_STANDARD_COST "com/example/costbasin/costbasin/Kind" := Exa.start ev_STANDARD_COST hc6
  obtain ⟨a_APPLIES_TO, ev_APPLIES_TO⟩ := exa_v hc10
  have S_APPLIES_TO : Sta s s.heap "com/example/costbasin/costbasin/Column" "APPLIES_TO" "Lcom/example/costbasin/costbasin/Column;" (.ref a_APPLIES_TO) := Sta.start ev_APPLIES_TO (Or.inr ⟨(hw _ (List.mem_of_getElem? (i := 27) rfl)), (hw _ (List.mem_of_getElem? (i := 28) rfl))⟩)
  have E_APPLIES_TO : Exa s s.heap a_APPLIES_TO "com/example/costbasin/costbasin/Column" := Exa.start ev_APPLIES_TO hc10
  obtain ⟨a_RECEIPT_needed, ev_RECEIPT_needed⟩ := exa_v hc11
  have F_RECEIPT_needed : Fld s s.heap a_RECEIPT "com/example/costbasin/costbasin/Kind" "needed" "Ljava/util/Set;" (.ref a_RECEIPT_needed) := Fld.start ((fld_at ev_RECEIPT).symm.trans ev_RECEIPT_needed)
  have E_RECEIPT_needed : Exa s s.heap a_RECEIPT_needed "java/util/ImmutableCollections$Set12" := Exa.start ev_RECEIPT_needed hc11
  obtain ⟨a_QTY, ev_QTY⟩ := exa_v hc12
  have S_QTY : Sta s s.heap "com/example/costbasin/costbasin/Column" "QTY" "Lcom/example/costbasin/costbasin/Column;" (.ref a_QTY) := Sta.start ev_QTY (Or.inr ⟨(hw _ (List.mem_of_getElem? (i := 27) rfl)), (hw _ (List.mem_of_getElem? (i := 48) rfl))⟩)
  have E_QTY : Exa s s.heap a_QTY "com/example/costbasin/costbasin/Column" := Exa.start ev_QTY hc12
  obtain ⟨a_UNIT_PRICE, ev_UNIT_PRICE⟩ := exa_v hc16
  have S_UNIT_PRICE : Sta s s.heap "com/example/costbasin/costbasin/Column" "UNIT_PRICE" "Lcom/example/costbasin/costbasin/Column;" (.ref a_UNIT_PRICE) := Sta.start ev_UNIT_PRICE (Or.inr ⟨(hw _ (List.mem_of_getElem? (i := 27) rfl)), (hw _ (List.mem_of_getElem? (i := 58) rfl))⟩)
  have E_UNIT_PRICE : Exa s s.heap a_UNIT_PRICE "com/example/costbasin/costbasin/Column" := Exa.start ev_UNIT_PRICE hc16
  obtain ⟨a_ADDITIONAL_COST_needed, ev_ADDITIONAL_COST_needed⟩ := exa_v hc19
  have F_ADDITIONAL_COST_needed : Fld s s.heap a_ADDITIONAL_COST "com/example/costbasin/costbasin/Kind" "needed" "Ljava/util/Set;" (.ref a_ADDITIONAL_COST_needed) := Fld.start ((fld_at ev_ADDITIONAL_COST).symm.trans ev_ADDITIONAL_COST_needed)
  have E_ADDITIONAL_COST_needed : Exa s s.heap a_ADDITIONAL_COST_needed "java/util/ImmutableCollections$Set12" := Exa.start ev_ADDITIONAL_COST_needed hc19
  obtain ⟨a_AMOUNT, ev_AMOUNT⟩ := exa_v hc20
  have S_AMOUNT : Sta s s.heap "com/example/costbasin/costbasin/Column" "AMOUNT" "Lcom/example/costbasin/costbasin/Column;" (.ref a_AMOUNT) := Sta.start ev_AMOUNT (Or.inr ⟨(hw _ (List.mem_of_getElem? (i := 27) rfl)), (hw _ (List.mem_of_getElem? (i := 59) rfl))⟩)
  have E_AMOUNT : Exa s s.heap a_AMOUNT "com/example/costbasin/costbasin/Column" := Exa.start ev_AMOUNT hc20
  obtain ⟨a_VALUE_CHANGE_needed, ev_VALUE_CHANGE_needed⟩ := exa_v hc25
  have F_VALUE_CHANGE_needed : Fld s s.heap a_VALUE_CHANGE "com/example/costbasin/costbasin/Kind" "needed" "Ljava/util/Set;" (.ref a_VALUE_CHANGE_needed) := Fld.start ((fld_at ev_VALUE_CHANGE).symm.trans ev_VALUE_CHANGE_needed)
  have E_VALUE_CHANGE_needed : Exa s s.heap a_VALUE_CHANGE_needed "java/util/ImmutableCollections$Set12" := Exa.start ev_VALUE_CHANGE_needed hc25
  obtain ⟨a_VALUE_CHANGE_needed_e1, ev_VALUE_CHANGE_needed_e1⟩ := exa_v hc27
  have F_VALUE_CHANGE_needed_e1 : Fld s s.heap a_VALUE_CHANGE_needed "java/util/ImmutableCollections$Set12" "e1" "Ljava/lang/Object;" (.ref a_VALUE_CHANGE_needed_e1) := Fld.start ((fld_at ev_VALUE_CHANGE_needed).symm.trans ev_VALUE_CHANGE_needed_e1)
  have E_VALUE_CHANGE_needed_e1 : Exa s s.heap a_VALUE_CHANGE_needed_e1 "java/lang/Object" := Exa.start ev_VALUE_CHANGE_needed_e1 hc27
  obtain ⟨a_STANDARD_COST_needed, ev_STANDARD_COST_needed⟩ := exa_v hc29
  have F_STANDARD_COST_needed : Fld s s.heap a_STANDARD_COST "com/example/costbasin/costbasin/Kind" "needed" "Ljava/util/Set;" (.ref a_STANDARD_COST_needed) := Fld.start ((fld_at ev_STANDARD_COST).symm.trans ev_STANDARD_COST_needed)
  have E_STANDARD_COST_needed : Exa s s.heap a_STANDARD_COST_needed "java/util/ImmutableCollections$Set12" := Exa.start ev_STANDARD_COST_needed hc29
  obtain ⟨a_COUNT_needed, ev_COUNT_needed⟩ := exa_v hc33
  have F_COUNT_needed : Fld s s.heap a_COUNT "com/example/costbasin/costbasin/Kind" "needed" "Ljava/util/Set;" (.ref a_COUNT_needed) := Fld.start ((fld_at ev_COUNT).symm.trans ev_COUNT_needed)
  have E_COUNT_needed : Exa s s.heap a_COUNT_needed "java/util/ImmutableCollections$Set12" := Exa.start ev_COUNT_needed hc33
  obtain ⟨a_INVOICE_needed, ev_INVOICE_needed⟩ := exa_v hc36
  have F_INVOICE_needed : Fld s s.heap a_INVOICE "com/example/costbasin/costbasin/Kind" "needed" "Ljava/util/Set;" (.ref a_INVOICE_needed) := Fld.start ((fld_at ev_INVOICE).symm.trans ev_INVOICE_needed)
  have E_INVOICE_needed : Exa s s.heap a_INVOICE_needed "java/util/ImmutableCollections$Set12" := Exa.start ev_INVOICE_needed hc36
  obtain ⟨a_ISSUE_needed, ev_ISSUE_needed⟩ := exa_v hc40
  have F_ISSUE_needed : Fld s s.heap a_ISSUE "com/example/costbasin/costbasin/Kind" "needed" "Ljava/util/Set;" (.ref a_ISSUE_needed) := Fld.start ((fld_at ev_ISSUE).symm.trans ev_ISSUE_needed)
  have E_ISSUE_needed : Exa s s.heap a_ISSUE_needed "java/util/ImmutableCollections$Set12" := Exa.start ev_ISSUE_needed hc40
  have F_RECEIPT_ordinal : Fld s s.heap a_RECEIPT "java/lang/Enum" "ordinal" "I" (.int (0 : Int32)) := own_fld hc7 ev_RECEIPT rfl
  have F_INVOICE_ordinal : Fld s s.heap a_INVOICE "java/lang/Enum" "ordinal" "I" (.int (2 : Int32)) := own_fld hc8 ev_INVOICE rfl
  have F_ADDITIONAL_COST_ordinal : Fld s s.heap a_ADDITIONAL_COST "java/lang/Enum" "ordinal" "I" (.int (3 : Int32)) := own_fld hc9 ev_ADDITIONAL_COST rfl
  have F_RECEIPT_needed_e0 : Fld s s.heap a_RECEIPT_needed "java/util/ImmutableCollections$Set12" "e0" "Ljava/lang/Object;" (.ref a_QTY) := own_fld hc13 ev_RECEIPT_needed ev_QTY
  have F_APPLIES_TO_ordinal : Fld s s.heap a_APPLIES_TO "java/lang/Enum" "ordinal" "I" (.int (9 : Int32)) := own_fld hc14 ev_APPLIES_TO rfl
  have F_QTY_ordinal : Fld s s.heap a_QTY "java/lang/Enum" "ordinal" "I" (.int (6 : Int32)) := own_fld hc15 ev_QTY rfl
  have F_RECEIPT_needed_e1 : Fld s s.heap a_RECEIPT_needed "java/util/ImmutableCollections$Set12" "e1" "Ljava/lang/Object;" (.ref a_UNIT_PRICE) := own_fld hc17 ev_RECEIPT_needed ev_UNIT_PRICE
  have F_UNIT_PRICE_ordinal : Fld s s.heap a_UNIT_PRICE "java/lang/Enum" "ordinal" "I" (.int (7 : Int32)) := own_fld hc18 ev_UNIT_PRICE rfl
  have F_ADDITIONAL_COST_needed_e0 : Fld s s.heap a_ADDITIONAL_COST_needed "java/util/ImmutableCollections$Set12" "e0" "Ljava/lang/Object;" (.ref a_AMOUNT) := own_fld hc21 ev_ADDITIONAL_COST_needed ev_AMOUNT
  have F_AMOUNT_ordinal : Fld s s.heap a_AMOUNT "java/lang/Enum" "ordinal" "I" (.int (8 : Int32)) := own_fld hc22 ev_AMOUNT rfl
  have F_ADDITIONAL_COST_needed_e1 : Fld s s.heap a_ADDITIONAL_COST_needed "java/util/ImmutableCollections$Set12" "e1" "Ljava/lang/Object;" (.ref a_APPLIES_TO) := own_fld hc23 ev_ADDITIONAL_COST_needed ev_APPLIES_TO
  have F_VALUE_CHANGE_ordinal : Fld s s.heap a_VALUE_CHANGE "java/lang/Enum" "ordinal" "I" (.int (5 : Int32)) := own_fld hc24 ev_VALUE_CHANGE rfl
  have F_VALUE_CHANGE_needed_e0 : Fld s s.heap a_VALUE_CHANGE_needed "java/util/ImmutableCollections$Set12" "e0" "Ljava/lang/Object;" (.ref a_UNIT_PRICE) := own_fld hc26 ev_VALUE_CHANGE_needed ev_UNIT_PRICE
  have F_STANDARD_COST_ordinal : Fld s s.heap a_STANDARD_COST "java/lang/Enum" "ordinal" "I" (.int (6 : Int32)) := own_fld hc28 ev_STANDARD_COST rfl
  have F_STANDARD_COST_needed_e0 : Fld s s.heap a_STANDARD_COST_needed "java/util/ImmutableCollections$Set12" "e0" "Ljava/lang/Object;" (.ref a_UNIT_PRICE) := own_fld hc30 ev_STANDARD_COST_needed ev_UNIT_PRICE
  have F_STANDARD_COST_needed_e1 : Fld s s.heap a_STANDARD_COST_needed "java/util/ImmutableCollections$Set12" "e1" "Ljava/lang/Object;" (.ref a_VALUE_CHANGE_needed_e1) := own_fld hc31 ev_STANDARD_COST_needed ev_VALUE_CHANGE_needed_e1
  have F_COUNT_ordinal : Fld s s.heap a_COUNT "java/lang/Enum" "ordinal" "I" (.int (4 : Int32)) := own_fld hc32 ev_COUNT rfl
  have F_COUNT_needed_e0 : Fld s s.heap a_COUNT_needed "java/util/ImmutableCollections$Set12" "e0" "Ljava/lang/Object;" (.ref a_QTY) := own_fld hc34 ev_COUNT_needed ev_QTY
  have F_COUNT_needed_e1 : Fld s s.heap a_COUNT_needed "java/util/ImmutableCollections$Set12" "e1" "Ljava/lang/Object;" (.ref a_VALUE_CHANGE_needed_e1) := own_fld hc35 ev_COUNT_needed ev_VALUE_CHANGE_needed_e1
  have F_INVOICE_needed_e0 : Fld s s.heap a_INVOICE_needed "java/util/ImmutableCollections$Set12" "e0" "Ljava/lang/Object;" (.ref a_UNIT_PRICE) := own_fld hc37 ev_INVOICE_needed ev_UNIT_PRICE
  have F_INVOICE_needed_e1 : Fld s s.heap a_INVOICE_needed "java/util/ImmutableCollections$Set12" "e1" "Ljava/lang/Object;" (.ref a_APPLIES_TO) := own_fld hc38 ev_INVOICE_needed ev_APPLIES_TO
  have F_ISSUE_ordinal : Fld s s.heap a_ISSUE "java/lang/Enum" "ordinal" "I" (.int (1 : Int32)) := own_fld hc39 ev_ISSUE rfl
  have F_ISSUE_needed_e0 : Fld s s.heap a_ISSUE_needed "java/util/ImmutableCollections$Set12" "e0" "Ljava/lang/Object;" (.ref a_QTY) := own_fld hc41 ev_ISSUE_needed ev_QTY
  have F_ISSUE_needed_e1 : Fld s s.heap a_ISSUE_needed "java/util/ImmutableCollections$Set12" "e1" "Ljava/lang/Object;" (.ref a_VALUE_CHANGE_needed_e1) := own_fld hr41 ev_ISSUE_needed ev_VALUE_CHANGE_needed_e1
  obtain ⟨n, o, h1, h2, h3, _, L, rfl, ⟨rfl, N⟩, hq⟩ := own_main (ws := tables_1) (own_law l s _ hw s.heap.size s.heap i0 (Nat.le_refl _) a_RECEIPT S_RECEIPT E_RECEIPT a_ISSUE S_ISSUE E_ISSUE a_INVOICE S_INVOICE E_INVOICE a_ADDITIONAL_COST S_ADDITIONAL_COST E_ADDITIONAL_COST a_COUNT S_COUNT E_COUNT a_VALUE_CHANGE S_VALUE_CHANGE E_VALUE_CHANGE a_STANDARD_COST S_STANDARD_COST E_STANDARD_COST a_APPLIES_TO S_APPLIES_TO E_APPLIES_TO a_RECEIPT_needed F_RECEIPT_needed E_RECEIPT_needed a_QTY S_QTY E_QTY a_UNIT_PRICE S_UNIT_PRICE E_UNIT_PRICE a_ADDITIONAL_COST_needed F_ADDITIONAL_COST_needed E_ADDITIONAL_COST_needed a_AMOUNT S_AMOUNT E_AMOUNT a_VALUE_CHANGE_needed F_VALUE_CHANGE_needed E_VALUE_CHANGE_needed a_VALUE_CHANGE_needed_e1 F_VALUE_CHANGE_needed_e1 E_VALUE_CHANGE_needed_e1 a_STANDARD_COST_needed F_STANDARD_COST_needed E_STANDARD_COST_needed a_COUNT_needed F_COUNT_needed E_COUNT_needed a_INVOICE_needed F_INVOICE_needed E_INVOICE_needed a_ISSUE_needed F_ISSUE_needed E_ISSUE_needed F_RECEIPT_ordinal F_INVOICE_ordinal F_ADDITIONAL_COST_ordinal F_RECEIPT_needed_e0 F_APPLIES_TO_ordinal F_QTY_ordinal F_RECEIPT_needed_e1 F_UNIT_PRICE_ordinal F_ADDITIONAL_COST_needed_e0 F_AMOUNT_ordinal F_ADDITIONAL_COST_needed_e1 F_VALUE_CHANGE_ordinal F_VALUE_CHANGE_needed_e0 F_STANDARD_COST_ordinal F_STANDARD_COST_needed_e0 F_STANDARD_COST_needed_e1 F_COUNT_ordinal F_COUNT_needed_e0 F_COUNT_needed_e1 F_INVOICE_needed_e0 F_INVOICE_needed_e1 F_ISSUE_ordinal F_ISSUE_needed_e0 F_ISSUE_needed_e1) p e ha hc hk s m _ below hf ((Spec.applies_iff_loose hf).mp happ).1 ⟨rfl, State.Warmed39.refl s, rfl⟩ trivial
  refine ⟨n, _, h1, h2, h3, hpost _ _ _ _ _ _ ⟨Cond.after_iff.mpr rfl, Cond.after_iff.mpr (eq_i res_at (Term.int_eval (1)) rfl), trivial⟩ ⟨hq.1, hq.2.1, (hq.2.2.sift fun y hy => Or.inr (N y hy)).mono (by decide) (by decide)⟩⟩
theorem main_1_1 : Claimed_1_1 := comes_1 fun _ _ _ _ _ _ h hF => ⟨h.1, hF⟩
theorem main_1_2 : Claimed_1_2 := comes_1 fun _ _ _ _ _ _ h hF => ⟨h.2.1, hF⟩
end Jvm.Pilot.@@N@@
namespace Jvm.Pilot.@@N@@
open Jvm Jvm.ClassFile Sem Op Lib Jvm.Free Jvm.Stand Jvm.Pilot.@@N@@.Jvm.D
/-! MADE BY PROGRAM (witnessworld.py) out of the Statement's table words and the real class files: 21 classes; the members and pool entries that the words name. The judged class is class 1, her method 1. -/
namespace start1
open Jvm.ClassFile
def u (s : String) : CpInfo := .utf8 (stringToUtf16 s)
/-- a pool by its gaps: so many unusable entries, then the entry; so many at the end -/
def gap : Nat → List CpInfo → List CpInfo
  | 0, r => r
  | n + 1, r => .unusable :: gap n r
def poolList (es : List (Nat × CpInfo)) (last : Nat) : List CpInfo := es.foldr (fun e r => gap e.1 (e.2 :: r)) (gap last [])
def pool (es : List (Nat × CpInfo)) (last : Nat) : Array CpInfo := ⟨poolList es last⟩
def fileOf (pool : Array CpInfo) (this : Nat) (attrs : Array Attribute := #[]) (ms : Array MethodInfo := #[]) (fl : Nat := 33) (sup : Nat := 0) (ifs : Array Nat := #[]) (fds : Array FieldInfo := #[]) : ClassFile where
  minorVersion := 0
  majorVersion := 65
  constantPool := pool
  accessFlags := fl
  thisClass := this
  superClass := sup
  interfaces := ifs
  fields := fds
  methods := ms
  attributes := attrs
def plain (name : String) (sup : Option ClassId) : Class where
  name := name
  kind := .ordinary
  loader := none
  accessFlags := 33
  super := sup
  interfaces := #[]
  cf := none
  fields := #[]
  methods := #[]
  instanceTypes := #[]
  staticTypes := #[]
  resolved := #[]
  callSites := []
  init := .initialized
  statics := none
  mirror := none

def pool0 : Array CpInfo := pool [(5, u "<init>"), (0, u "()V"), (1, .class_ 10), (1, u "java/lang/Object"), (81, u "equals"), (0, u "(Ljava/lang/Object;)Z")] 30

def k0m0 : Method := { name := "<init>", desc := "()V", sig := { parameters := [], returnType := none }, accessFlags := 1, code := none }
def k0c1 : Code := { maxStack := 2, maxLocals := 2, code := object_method_4_code, exceptionTable := #[], attributes := #[] }
def k0m1 : Method := { name := "equals", desc := "(Ljava/lang/Object;)Z", sig := { parameters := [(.object "java/lang/Object")], returnType := some .boolean }, accessFlags := 1, code := some k0c1 }
/-- java/lang/Object -/
def k0 : Class := { plain "java/lang/Object" none with
  accessFlags := 33
  interfaces := #[]
  cf := some (fileOf pool0 8 #[] #[{ accessFlags := 1, nameIndex := 5, descriptorIndex := 6, attributes := #[] }, { accessFlags := 1, nameIndex := 92, descriptorIndex := 93, attributes := #[] }] 33 0 #[] #[])
  fields := #[]
  methods := #[k0m0, k0m1]
  instanceTypes := #[]
  staticTypes := #[]
  resolved := Array.replicate 124 none
  statics := none }

def pool1 : Array CpInfo := pool [(2, .class_ 4), (1, u "java/lang/Object"), (0, u "<init>"), (0, u "()V"), (0, .integer 2147483647), (0, .class_ 9), (0, u "com/example/costbasin/costbasin/Kind"), (0, .fieldref 8 11), (0, .nameAndType 12 13), (0, u "RECEIPT"), (0, u "Lcom/example/costbasin/costbasin/Kind;"), (0, .fieldref 8 15), (0, .nameAndType 16 13), (0, u "ISSUE"), (0, .fieldref 8 18), (0, .nameAndType 19 13), (0, u "INVOICE"), (0, .fieldref 8 21), (0, .nameAndType 22 13), (0, u "ADDITIONAL_COST"), (0, .fieldref 8 24), (0, .nameAndType 25 13), (0, u "COUNT"), (0, .fieldref 8 27), (0, .nameAndType 28 13), (0, u "VALUE_CHANGE"), (0, .fieldref 8 30), (0, .nameAndType 31 13), (0, u "STANDARD_COST"), (0, .methodref 8 33), (0, .nameAndType 34 35), (0, u "isLatePrice"), (0, u "()Z"), (0, .fieldref 37 38), (0, .class_ 39), (0, .nameAndType 40 41), (0, u "com/example/costbasin/costbasin/Column"), (0, u "APPLIES_TO"), (0, u "Lcom/example/costbasin/costbasin/Column;"), (0, .methodref 8 43), (0, .nameAndType 44 45), (0, u "needs"), (0, u "(Lcom/example/costbasin/costbasin/Column;)Z"), (0, .class_ 47), (0, u "com/example/costbasin/costbasin/KindIsLatePricePinLaw"), (2, u "law"), (0, u "(I)Z")] 5

def k1m0 : Method := { name := "<init>", desc := "()V", sig := { parameters := [], returnType := none }, accessFlags := 2, code := none }
def k1c1 : Code := { maxStack := 4, maxLocals := 7, code := code, exceptionTable := #[], attributes := #[] }
def k1m1 : Method := { name := "law", desc := "(I)Z", sig := { parameters := [.int], returnType := some .boolean }, accessFlags := 9, code := some k1c1 }
/-- com/example/costbasin/costbasin/KindIsLatePricePinLaw -/
def k1 : Class := { plain "com/example/costbasin/costbasin/KindIsLatePricePinLaw" (some 0) with
  accessFlags := 49
  interfaces := #[]
  cf := some (fileOf pool1 46 #[] #[{ accessFlags := 2, nameIndex := 5, descriptorIndex := 6, attributes := #[] }, { accessFlags := 9, nameIndex := 50, descriptorIndex := 51, attributes := #[] }] 49 2 #[] #[])
  fields := #[]
  methods := #[k1m0, k1m1]
  instanceTypes := #[]
  staticTypes := #[]
  resolved := Array.replicate 57 none
  statics := none }

def pool2 : Array CpInfo := pool [(1, .class_ 2), (0, u "java/lang/constant/Constable"), (0, .class_ 4), (0, u "java/lang/Object")] 6

/-- java/lang/constant/Constable -/
def k2 : Class := { plain "java/lang/constant/Constable" (some 0) with
  accessFlags := 1537
  interfaces := #[]
  cf := some (fileOf pool2 1 #[] #[] 1537 3 #[] #[])
  fields := #[]
  methods := #[]
  instanceTypes := #[]
  staticTypes := #[]
  resolved := Array.replicate 11 none
  statics := none }

def pool3 : Array CpInfo := pool [(1, .class_ 2), (0, u "java/lang/Comparable"), (0, .class_ 4), (0, u "java/lang/Object")] 7

/-- java/lang/Comparable -/
def k3 : Class := { plain "java/lang/Comparable" (some 0) with
  accessFlags := 1537
  interfaces := #[]
  cf := some (fileOf pool3 1 #[] #[] 1537 3 #[] #[])
  fields := #[]
  methods := #[]
  instanceTypes := #[]
  staticTypes := #[]
  resolved := Array.replicate 12 none
  statics := none }

def pool4 : Array CpInfo := pool [(1, .class_ 2), (0, u "java/io/Serializable"), (0, .class_ 4), (0, u "java/lang/Object")] 2

/-- java/io/Serializable -/
def k4 : Class := { plain "java/io/Serializable" (some 0) with
  accessFlags := 1537
  interfaces := #[]
  cf := some (fileOf pool4 1 #[] #[] 1537 3 #[] #[])
  fields := #[]
  methods := #[]
  instanceTypes := #[]
  staticTypes := #[]
  resolved := Array.replicate 7 none
  statics := none }

def pool5 : Array CpInfo := pool [(2, .class_ 4), (1, u "java/lang/Enum"), (0, u "name"), (0, u "Ljava/lang/String;"), (2, u "ordinal"), (0, u "I"), (1, .class_ 14), (1, u "java/lang/Object"), (4, u "hash"), (86, .class_ 108), (1, u "java/lang/Enum$EnumDesc"), (2, .class_ 112), (0, u "java/lang/constant/Constable"), (0, .class_ 114), (0, u "java/lang/Comparable"), (0, .class_ 116), (0, u "java/io/Serializable"), (11, u "equals"), (0, u "(Ljava/lang/Object;)Z")] 74

def k5c0 : Code := { maxStack := 2, maxLocals := 2, code := jdk_37_method_5_code, exceptionTable := #[], attributes := #[] }
def k5m0 : Method := { name := "equals", desc := "(Ljava/lang/Object;)Z", sig := { parameters := [(.object "java/lang/Object")], returnType := some .boolean }, accessFlags := 17, code := some k5c0 }
/-- java/lang/Enum -/
def k5 : Class := { plain "java/lang/Enum" (some 0) with
  accessFlags := 1057
  interfaces := #[2, 3, 4]
  cf := some (fileOf pool5 2 #[.nestMembers #[106]] #[{ accessFlags := 17, nameIndex := 128, descriptorIndex := 129, attributes := #[] }] 1057 12 #[111, 113, 115] #[{ accessFlags := 18, nameIndex := 5, descriptorIndex := 6, attributes := #[] }, { accessFlags := 18, nameIndex := 9, descriptorIndex := 10, attributes := #[] }, { accessFlags := 2, nameIndex := 19, descriptorIndex := 10, attributes := #[] }])
  fields := #[{ name := "name", type := (.object "java/lang/String"), accessFlags := 18, slot := 0, constantValue := 0 }, { name := "ordinal", type := .int, accessFlags := 18, slot := 1, constantValue := 0 }, { name := "hash", type := .int, accessFlags := 2, slot := 2, constantValue := 0 }]
  methods := #[k5m0]
  instanceTypes := #[(.object "java/lang/String"), .int, .int]
  staticTypes := #[]
  resolved := Array.replicate 204 none
  statics := none }

def pool6 : Array CpInfo := pool [(1, .class_ 2), (0, u "com/example/costbasin/costbasin/Kind"), (2, u "RECEIPT"), (0, u "Lcom/example/costbasin/costbasin/Kind;"), (2, u "ISSUE"), (0, .fieldref 1 11), (0, .nameAndType 12 6), (0, u "INVOICE"), (0, .fieldref 1 14), (0, .nameAndType 15 6), (0, u "ADDITIONAL_COST"), (2, u "COUNT"), (2, u "VALUE_CHANGE"), (2, u "STANDARD_COST"), (2, u "$VALUES"), (0, u "[Lcom/example/costbasin/costbasin/Kind;"), (6, .class_ 37), (1, u "java/lang/Enum"), (8, u "journalName"), (0, u "Ljava/lang/String;"), (0, .fieldref 1 49), (0, .nameAndType 50 51), (0, u "needed"), (0, u "Ljava/util/Set;"), (10, u "taken"), (1, .class_ 66), (1, u "java/util/Set"), (2, .interfaceMethodref 64 70), (0, .nameAndType 71 72), (0, u "contains"), (0, u "(Ljava/lang/Object;)Z"), (70, u "needs"), (0, u "(Lcom/example/costbasin/costbasin/Column;)Z"), (2, u "()Z"), (1, u "isLatePrice")] 6

def k6c0 : Code := { maxStack := 2, maxLocals := 2, code := prog_14_method_5_code, exceptionTable := #[], attributes := #[] }
def k6m0 : Method := { name := "needs", desc := "(Lcom/example/costbasin/costbasin/Column;)Z", sig := { parameters := [(.object "com/example/costbasin/costbasin/Column")], returnType := some .boolean }, accessFlags := 0, code := some k6c0 }
def k6c1 : Code := { maxStack := 2, maxLocals := 1, code := prog_14_method_8_code, exceptionTable := #[], attributes := #[] }
def k6m1 : Method := { name := "isLatePrice", desc := "()Z", sig := { parameters := [], returnType := some .boolean }, accessFlags := 0, code := some k6c1 }
/-- com/example/costbasin/costbasin/Kind -/
def k6 : Class := { plain "com/example/costbasin/costbasin/Kind" (some 5) with
  accessFlags := 16433
  interfaces := #[]
  cf := some (fileOf pool6 1 #[] #[{ accessFlags := 0, nameIndex := 143, descriptorIndex := 144, attributes := #[] }, { accessFlags := 0, nameIndex := 149, descriptorIndex := 147, attributes := #[] }] 16433 35 #[] #[{ accessFlags := 16409, nameIndex := 5, descriptorIndex := 6, attributes := #[] }, { accessFlags := 16409, nameIndex := 9, descriptorIndex := 6, attributes := #[] }, { accessFlags := 16409, nameIndex := 12, descriptorIndex := 6, attributes := #[] }, { accessFlags := 16409, nameIndex := 15, descriptorIndex := 6, attributes := #[] }, { accessFlags := 16409, nameIndex := 18, descriptorIndex := 6, attributes := #[] }, { accessFlags := 16409, nameIndex := 21, descriptorIndex := 6, attributes := #[] }, { accessFlags := 16409, nameIndex := 24, descriptorIndex := 6, attributes := #[] }, { accessFlags := 18, nameIndex := 46, descriptorIndex := 47, attributes := #[] }, { accessFlags := 18, nameIndex := 50, descriptorIndex := 51, attributes := #[] }, { accessFlags := 18, nameIndex := 62, descriptorIndex := 51, attributes := #[] }, { accessFlags := 4122, nameIndex := 27, descriptorIndex := 28, attributes := #[] }])
  fields := #[{ name := "RECEIPT", type := (.object "com/example/costbasin/costbasin/Kind"), accessFlags := 16409, slot := 0, constantValue := 0 }, { name := "ISSUE", type := (.object "com/example/costbasin/costbasin/Kind"), accessFlags := 16409, slot := 1, constantValue := 0 }, { name := "INVOICE", type := (.object "com/example/costbasin/costbasin/Kind"), accessFlags := 16409, slot := 2, constantValue := 0 }, { name := "ADDITIONAL_COST", type := (.object "com/example/costbasin/costbasin/Kind"), accessFlags := 16409, slot := 3, constantValue := 0 }, { name := "COUNT", type := (.object "com/example/costbasin/costbasin/Kind"), accessFlags := 16409, slot := 4, constantValue := 0 }, { name := "VALUE_CHANGE", type := (.object "com/example/costbasin/costbasin/Kind"), accessFlags := 16409, slot := 5, constantValue := 0 }, { name := "STANDARD_COST", type := (.object "com/example/costbasin/costbasin/Kind"), accessFlags := 16409, slot := 6, constantValue := 0 }, { name := "journalName", type := (.object "java/lang/String"), accessFlags := 18, slot := 3, constantValue := 0 }, { name := "needed", type := (.object "java/util/Set"), accessFlags := 18, slot := 4, constantValue := 0 }, { name := "taken", type := (.object "java/util/Set"), accessFlags := 18, slot := 5, constantValue := 0 }, { name := "$VALUES", type := (.array (.object "com/example/costbasin/costbasin/Kind")), accessFlags := 4122, slot := 7, constantValue := 0 }]
  methods := #[k6m0, k6m1]
  instanceTypes := #[(.object "java/lang/String"), .int, .int, (.object "java/lang/String"), (.object "java/util/Set"), (.object "java/util/Set")]
  staticTypes := #[(.object "com/example/costbasin/costbasin/Kind"), (.object "com/example/costbasin/costbasin/Kind"), (.object "com/example/costbasin/costbasin/Kind"), (.object "com/example/costbasin/costbasin/Kind"), (.object "com/example/costbasin/costbasin/Kind"), (.object "com/example/costbasin/costbasin/Kind"), (.object "com/example/costbasin/costbasin/Kind"), (.array (.object "com/example/costbasin/costbasin/Kind"))]
  resolved := Array.replicate 156 none
  statics := some 0 }

def pool7 : Array CpInfo := pool [(1, .class_ 2), (0, u "com/example/costbasin/costbasin/Column"), (2, u "DATE"), (0, u "Lcom/example/costbasin/costbasin/Column;"), (2, u "SITE"), (2, u "PRODUCT"), (2, u "LOT"), (2, u "KIND"), (2, u "REF"), (2, u "QTY"), (2, u "UNIT_PRICE"), (2, u "AMOUNT"), (2, u "APPLIES_TO"), (2, u "$VALUES"), (0, u "[Lcom/example/costbasin/costbasin/Column;"), (6, .class_ 46), (1, u "java/lang/Enum"), (8, u "journalName"), (0, u "Ljava/lang/String;"), (2, u "given"), (0, u "Ljava/util/function/Predicate;")] 130

/-- com/example/costbasin/costbasin/Column -/
def k7 : Class := { plain "com/example/costbasin/costbasin/Column" (some 5) with
  accessFlags := 16432
  interfaces := #[]
  cf := some (fileOf pool7 1 #[] #[] 16432 44 #[] #[{ accessFlags := 16409, nameIndex := 5, descriptorIndex := 6, attributes := #[] }, { accessFlags := 16409, nameIndex := 9, descriptorIndex := 6, attributes := #[] }, { accessFlags := 16409, nameIndex := 12, descriptorIndex := 6, attributes := #[] }, { accessFlags := 16409, nameIndex := 15, descriptorIndex := 6, attributes := #[] }, { accessFlags := 16409, nameIndex := 18, descriptorIndex := 6, attributes := #[] }, { accessFlags := 16409, nameIndex := 21, descriptorIndex := 6, attributes := #[] }, { accessFlags := 16409, nameIndex := 24, descriptorIndex := 6, attributes := #[] }, { accessFlags := 16409, nameIndex := 27, descriptorIndex := 6, attributes := #[] }, { accessFlags := 16409, nameIndex := 30, descriptorIndex := 6, attributes := #[] }, { accessFlags := 16409, nameIndex := 33, descriptorIndex := 6, attributes := #[] }, { accessFlags := 18, nameIndex := 55, descriptorIndex := 56, attributes := #[] }, { accessFlags := 18, nameIndex := 59, descriptorIndex := 60, attributes := #[] }, { accessFlags := 4122, nameIndex := 36, descriptorIndex := 37, attributes := #[] }])
  fields := #[{ name := "DATE", type := (.object "com/example/costbasin/costbasin/Column"), accessFlags := 16409, slot := 0, constantValue := 0 }, { name := "SITE", type := (.object "com/example/costbasin/costbasin/Column"), accessFlags := 16409, slot := 1, constantValue := 0 }, { name := "PRODUCT", type := (.object "com/example/costbasin/costbasin/Column"), accessFlags := 16409, slot := 2, constantValue := 0 }, { name := "LOT", type := (.object "com/example/costbasin/costbasin/Column"), accessFlags := 16409, slot := 3, constantValue := 0 }, { name := "KIND", type := (.object "com/example/costbasin/costbasin/Column"), accessFlags := 16409, slot := 4, constantValue := 0 }, { name := "REF", type := (.object "com/example/costbasin/costbasin/Column"), accessFlags := 16409, slot := 5, constantValue := 0 }, { name := "QTY", type := (.object "com/example/costbasin/costbasin/Column"), accessFlags := 16409, slot := 6, constantValue := 0 }, { name := "UNIT_PRICE", type := (.object "com/example/costbasin/costbasin/Column"), accessFlags := 16409, slot := 7, constantValue := 0 }, { name := "AMOUNT", type := (.object "com/example/costbasin/costbasin/Column"), accessFlags := 16409, slot := 8, constantValue := 0 }, { name := "APPLIES_TO", type := (.object "com/example/costbasin/costbasin/Column"), accessFlags := 16409, slot := 9, constantValue := 0 }, { name := "journalName", type := (.object "java/lang/String"), accessFlags := 18, slot := 3, constantValue := 0 }, { name := "given", type := (.object "java/util/function/Predicate"), accessFlags := 18, slot := 4, constantValue := 0 }, { name := "$VALUES", type := (.array (.object "com/example/costbasin/costbasin/Column")), accessFlags := 4122, slot := 10, constantValue := 0 }]
  methods := #[]
  instanceTypes := #[(.object "java/lang/String"), .int, .int, (.object "java/lang/String"), (.object "java/util/function/Predicate")]
  staticTypes := #[(.object "com/example/costbasin/costbasin/Column"), (.object "com/example/costbasin/costbasin/Column"), (.object "com/example/costbasin/costbasin/Column"), (.object "com/example/costbasin/costbasin/Column"), (.object "com/example/costbasin/costbasin/Column"), (.object "com/example/costbasin/costbasin/Column"), (.object "com/example/costbasin/costbasin/Column"), (.object "com/example/costbasin/costbasin/Column"), (.object "com/example/costbasin/costbasin/Column"), (.object "com/example/costbasin/costbasin/Column"), (.array (.object "com/example/costbasin/costbasin/Column"))]
  resolved := Array.replicate 191 none
  statics := some 1 }

def pool8 : Array CpInfo := pool [(8, .class_ 10), (1, u "java/lang/Iterable"), (24, .class_ 36), (0, u "java/lang/Object")] 25

/-- java/lang/Iterable -/
def k8 : Class := { plain "java/lang/Iterable" (some 0) with
  accessFlags := 1537
  interfaces := #[]
  cf := some (fileOf pool8 8 #[] #[] 1537 35 #[] #[])
  fields := #[]
  methods := #[]
  instanceTypes := #[]
  staticTypes := #[]
  resolved := Array.replicate 62 none
  statics := none }

def pool9 : Array CpInfo := pool [(10, .class_ 12), (1, u "java/util/Collection"), (47, .class_ 61), (0, u "java/lang/Object"), (0, .class_ 63), (0, u "java/lang/Iterable")] 51

/-- java/util/Collection -/
def k9 : Class := { plain "java/util/Collection" (some 0) with
  accessFlags := 1537
  interfaces := #[8]
  cf := some (fileOf pool9 10 #[] #[] 1537 60 #[62] #[])
  fields := #[]
  methods := #[]
  instanceTypes := #[]
  staticTypes := #[]
  resolved := Array.replicate 115 none
  statics := none }

def pool10 : Array CpInfo := pool [(26, .class_ 27), (0, u "java/lang/Object"), (5, .class_ 34), (0, u "java/util/Set"), (1, .class_ 38), (1, u "java/util/Collection"), (20, u "contains"), (0, u "(Ljava/lang/Object;)Z")] 83

def k10m0 : Method := { name := "contains", desc := "(Ljava/lang/Object;)Z", sig := { parameters := [(.object "java/lang/Object")], returnType := some .boolean }, accessFlags := 1025, code := none }
/-- java/util/Set -/
def k10 : Class := { plain "java/util/Set" (some 0) with
  accessFlags := 1537
  interfaces := #[9]
  cf := some (fileOf pool10 33 #[] #[{ accessFlags := 1025, nameIndex := 59, descriptorIndex := 60, attributes := #[] }] 1537 26 #[36] #[])
  fields := #[]
  methods := #[k10m0]
  instanceTypes := #[]
  staticTypes := #[]
  resolved := Array.replicate 144 none
  statics := none }

def pool11 : Array CpInfo := pool [(2, .class_ 4), (1, u "java/lang/Object"), (0, u "<init>"), (0, u "()V"), (1, .class_ 10), (1, u "java/util/AbstractCollection"), (66, .class_ 78), (0, u "java/util/Collection")] 81

def k11m0 : Method := { name := "<init>", desc := "()V", sig := { parameters := [], returnType := none }, accessFlags := 4, code := none }
/-- java/util/AbstractCollection -/
def k11 : Class := { plain "java/util/AbstractCollection" (some 0) with
  accessFlags := 1057
  interfaces := #[9]
  cf := some (fileOf pool11 8 #[] #[{ accessFlags := 4, nameIndex := 5, descriptorIndex := 6, attributes := #[] }] 1057 2 #[77] #[])
  fields := #[]
  methods := #[k11m0]
  instanceTypes := #[]
  staticTypes := #[]
  resolved := Array.replicate 160 none
  statics := none }

def pool12 : Array CpInfo := pool [(2, .class_ 4), (1, u "java/util/AbstractCollection"), (0, u "<init>"), (0, u "()V"), (1, .class_ 10), (1, u "java/util/ImmutableCollections"), (2, .class_ 14), (0, u "java/util/ImmutableCollections$AbstractImmutableCollection")] 41

def k12m0 : Method := { name := "<init>", desc := "()V", sig := { parameters := [], returnType := none }, accessFlags := 0, code := none }
/-- java/util/ImmutableCollections$AbstractImmutableCollection -/
def k12 : Class := { plain "java/util/ImmutableCollections$AbstractImmutableCollection" (some 11) with
  accessFlags := 1056
  interfaces := #[]
  cf := some (fileOf pool12 13 #[.nestHost 8] #[{ accessFlags := 0, nameIndex := 5, descriptorIndex := 6, attributes := #[] }] 1056 2 #[] #[])
  fields := #[]
  methods := #[k12m0]
  instanceTypes := #[]
  staticTypes := #[]
  resolved := Array.replicate 56 none
  statics := none }

def pool13 : Array CpInfo := pool [(2, .class_ 4), (1, u "java/util/ImmutableCollections$AbstractImmutableCollection"), (0, u "<init>"), (0, u "()V"), (0, .class_ 8), (0, u "java/util/Set"), (7, .class_ 17), (0, u "java/util/ImmutableCollections$AbstractImmutableSet"), (43, .class_ 62), (0, u "java/util/ImmutableCollections")] 3

def k13m0 : Method := { name := "<init>", desc := "()V", sig := { parameters := [], returnType := none }, accessFlags := 0, code := none }
/-- java/util/ImmutableCollections$AbstractImmutableSet -/
def k13 : Class := { plain "java/util/ImmutableCollections$AbstractImmutableSet" (some 12) with
  accessFlags := 1056
  interfaces := #[10]
  cf := some (fileOf pool13 16 #[.nestHost 61] #[{ accessFlags := 0, nameIndex := 5, descriptorIndex := 6, attributes := #[] }] 1056 2 #[7] #[])
  fields := #[]
  methods := #[k13m0]
  instanceTypes := #[]
  staticTypes := #[]
  resolved := Array.replicate 66 none
  statics := none }

def pool14 : Array CpInfo := pool [(2, .class_ 4), (1, u "java/util/ImmutableCollections$AbstractImmutableSet"), (8, .fieldref 14 15), (0, .class_ 16), (0, .nameAndType 17 18), (0, u "java/util/ImmutableCollections$Set12"), (0, u "e0"), (0, u "Ljava/lang/Object;"), (1, .class_ 22), (1, u "java/util/ImmutableCollections"), (1, .fieldref 14 25), (0, .nameAndType 26 18), (0, u "e1"), (0, .methodref 28 29), (0, .class_ 30), (0, .nameAndType 31 32), (0, u "java/lang/Object"), (0, u "equals"), (0, u "(Ljava/lang/Object;)Z"), (64, .class_ 98), (0, u "java/io/Serializable"), (18, u "contains")] 31

def k14c0 : Code := { maxStack := 2, maxLocals := 2, code := jdk_101_method_5_code, exceptionTable := #[], attributes := #[] }
def k14m0 : Method := { name := "contains", desc := "(Ljava/lang/Object;)Z", sig := { parameters := [(.object "java/lang/Object")], returnType := some .boolean }, accessFlags := 1, code := some k14c0 }
/-- java/util/ImmutableCollections$Set12 -/
def k14 : Class := { plain "java/util/ImmutableCollections$Set12" (some 13) with
  accessFlags := 48
  interfaces := #[4]
  cf := some (fileOf pool14 14 #[.nestHost 20] #[{ accessFlags := 1, nameIndex := 117, descriptorIndex := 32, attributes := #[] }] 48 2 #[97] #[{ accessFlags := 18, nameIndex := 17, descriptorIndex := 18, attributes := #[] }, { accessFlags := 18, nameIndex := 26, descriptorIndex := 18, attributes := #[] }])
  fields := #[{ name := "e0", type := (.object "java/lang/Object"), accessFlags := 18, slot := 0, constantValue := 0 }, { name := "e1", type := (.object "java/lang/Object"), accessFlags := 18, slot := 1, constantValue := 0 }]
  methods := #[k14m0]
  instanceTypes := #[(.object "java/lang/Object"), (.object "java/lang/Object")]
  staticTypes := #[]
  resolved := Array.replicate 149 none
  statics := none }

def pool15 : Array CpInfo := pool [(1, u "java/lang/Cloneable"), (0, .class_ 1), (0, u "java/lang/Object"), (0, .class_ 3)] 3

/-- java/lang/Cloneable -/
def k15 : Class := { plain "java/lang/Cloneable" (some 0) with
  accessFlags := 1537
  interfaces := #[]
  cf := some (fileOf pool15 2 #[] #[] 1537 4 #[] #[])
  fields := #[]
  methods := #[]
  instanceTypes := #[]
  staticTypes := #[]
  resolved := Array.replicate 8 none
  statics := none }

/-- the primitive byte -/
def k16 : Class := { plain "byte" none with kind := .primitive 'B', accessFlags := 0x411 }
/-- [B -/
def k17 : Class := { plain "[B" (some 0) with kind := .array 16 .byte, interfaces := #[15, 4], accessFlags := 1041 }

/-- the primitive int -/
def k18 : Class := { plain "int" none with kind := .primitive 'I', accessFlags := 0x411 }
/-- [I -/
def k19 : Class := { plain "[I" (some 0) with kind := .array 18 .int, interfaces := #[15, 4], accessFlags := 1041 }

/-- [Lcom/example/costbasin/costbasin/Kind; -/
def k20 : Class := { plain "[Lcom/example/costbasin/costbasin/Kind;" (some 0) with kind := .array 6 (.object "com/example/costbasin/costbasin/Kind"), interfaces := #[15, 4], accessFlags := 1041 }

def heap : Heap := #[{ cls := 6, slots := #[.ref 2, .ref 3, .ref 4, .ref 5, .ref 6, .ref 7, .ref 8, .null], vm := .statics 6 },
  { cls := 7, slots := #[.null, .null, .null, .null, .null, .null, .ref 9, .ref 10, .ref 11, .ref 12, .null], vm := .statics 7 },
  { cls := 6, slots := #[.null, .int 0, .int 0, .null, .ref 14, .null], vm := .none },
  { cls := 6, slots := #[.null, .int 1, .int 0, .null, .ref 15, .null], vm := .none },
  { cls := 6, slots := #[.null, .int 2, .int 0, .null, .ref 16, .null], vm := .none },
  { cls := 6, slots := #[.null, .int 3, .int 0, .null, .ref 17, .null], vm := .none },
  { cls := 6, slots := #[.null, .int 4, .int 0, .null, .ref 18, .null], vm := .none },
  { cls := 6, slots := #[.null, .int 5, .int 0, .null, .ref 19, .null], vm := .none },
  { cls := 6, slots := #[.null, .int 6, .int 0, .null, .ref 20, .null], vm := .none },
  { cls := 7, slots := #[.null, .int 6, .int 0, .null, .null], vm := .none },
  { cls := 7, slots := #[.null, .int 7, .int 0, .null, .null], vm := .none },
  { cls := 7, slots := #[.null, .int 8, .int 0, .null, .null], vm := .none },
  { cls := 7, slots := #[.null, .int 9, .int 0, .null, .null], vm := .none },
  { cls := 0, slots := #[], vm := .none },
  { cls := 14, slots := #[.ref 9, .ref 10], vm := .none },
  { cls := 14, slots := #[.ref 9, .ref 13], vm := .none },
  { cls := 14, slots := #[.ref 10, .ref 12], vm := .none },
  { cls := 14, slots := #[.ref 11, .ref 12], vm := .none },
  { cls := 14, slots := #[.ref 9, .ref 13], vm := .none },
  { cls := 14, slots := #[.ref 10, .ref 13], vm := .none },
  { cls := 14, slots := #[.ref 10, .ref 13], vm := .none }]
def classes : Array Class := #[k0, k1, k2, k3, k4, k5, k6, k7, k8, k9, k10, k11, k12, k13, k14, k15, k16, k17, k18, k19, k20]
def interned : List (Array UInt16 × Addr) := []
def slotsUsed : Nat := 95
def theMethod : MethodId := ⟨1, 1⟩
def args0 : Array Value := #[.int 5]
def aboutOver (below : List Frame) : State where
  vm := { classes := classes, interned := interned.toArray }
  heap := heap
  slotsUsed := slotsUsed
  threads := #[{ frames := .invoking theMethod args0 :: below }]
def below0 : List Frame := [.native { method := ⟨0, 0⟩, args := #[] }]
def about1 : State := aboutOver below0
def p0 : Program := .bare "" "" ""
def e0 : Env := launch0.env 0 0 0
theorem w_frames : about1.frames = Frame.invoking theMethod args0 :: below0 := rfl
set_option maxRecDepth 65536 in
theorem w_args : argsFit about1.vm theMethod args0 = true := by decide +kernel
set_option maxRecDepth 65536 in
theorem w_heap : heapFits about1 = true := by decide +kernel
set_option maxRecDepth 65536 in
theorem w_runnable : about1.curStatus? = some .runnable := by decide +kernel
set_option maxRecDepth 65536 in
theorem w_alone : about1.alone = true := by decide +kernel
set_option maxRecDepth 65536 in
theorem w_named : about1.methodNamed? x = some theMethod := by decide +kernel
set_option maxRecDepth 65536 in
theorem w_hears : about1.hears theMethod below0 = true := by decide +kernel
set_option maxRecDepth 65536 in
theorem w_ripe : about1.ripe theMethod args0 below0 = true := by decide +kernel
theorem w_running : about1.status = .running := rfl
set_option maxRecDepth 65536 in
theorem w_room : about1.hasRoom e0.platform room_1 = true :=
  launch0.hasRoom_least _ room_1 (by decide +kernel) (by decide +kernel) (by decide +kernel) (by decide +kernel) (by decide +kernel) (by decide +kernel)
theorem allAtoms_all (ts : List Jvm.Cond) (a : Array Jvm.Value) (st : Jvm.State) : (allAtoms ts).before a st = ts.all (fun c => c.before a st) := by
  induction ts with
  | nil => rfl
  | cons c t ih =>
    show (Jvm.Cond.and c (allAtoms t)).before a st = _
    rw [Jvm.Cond.before_and, ih, List.all_cons]
def words1 : List Jvm.Cond := Jvm.Cond.code x code maxLocals ret :: tables_1
/-- a 'code' word, met by the world's own term for the bytes: nothing is compared byte by byte -/
theorem code_word {y : MethodName} {bytes : ByteArray} {mx : Nat} {rt : Option FieldType} {a : Array Value} {s : State} {m : MethodId} {meth : Method} {c : Code} (h1 : s.methodNamed? y = some m) (h2 : s.vm.method? m = some meth) (h3 : meth.code = some c) (h4 : c.code = bytes)
    (h5 : (c.maxLocals == mx && c.exceptionTable.isEmpty && decide (c.maxStack ≤ mostOperands) && decide (meth.sig.returnType = rt) && !meth.locks && decide (parseMethodDescriptor y.desc = some meth.sig)) = true) : (Jvm.Cond.code y bytes mx rt).before a s = true := by
  simp only [Bool.and_eq_true, beq_iff_eq, Bool.not_eq_true', decide_eq_true_eq] at h5
  obtain ⟨⟨⟨⟨⟨g1, g2⟩, g3⟩, g4⟩, g5⟩, g6⟩ := h5
  simp [Cond.before, Cond.holds, Cond.value, h1, h2, h3, h4, g1, g2, g3, g4, g5, g6]
def isCode : Jvm.Cond → Bool
  | .code _ _ _ _ => true
  | _ => false
theorem all_split {L : List Jvm.Cond} {P : Jvm.Cond → Bool} (h1 : L.all (fun c => isCode c || P c) = true) (h2 : ∀ c ∈ L.filter isCode, P c = true) : L.all P = true := by
  refine List.all_eq_true.mpr fun c hc => ?_
  have h := List.all_eq_true.mp h1 c hc
  rcases Bool.eq_false_or_eq_true (isCode c) with hi | hi
  · exact h2 c (List.mem_filter.mpr ⟨hc, hi⟩)
  · simpa [hi] using h
set_option maxRecDepth 65536 in
theorem w_c0 : (Jvm.Cond.code x code maxLocals ret).before args0 about1 = true := code_word (m := ⟨1, 1⟩) (meth := k1m1) (c := k1c1) (by decide +kernel) rfl rfl rfl (by decide +kernel)
set_option maxRecDepth 65536 in
theorem w_c1 : (Jvm.Cond.code ({ cls := "com/example/costbasin/costbasin/Kind", name := "isLatePrice", desc := "()Z" } : Jvm.MethodName) prog_14_method_8_code (1 : Nat) (Option.some Jvm.ClassFile.FieldType.boolean)).before args0 about1 = true := code_word (m := ⟨6, 1⟩) (meth := k6m1) (c := k6c1) (by decide +kernel) rfl rfl rfl (by decide +kernel)
set_option maxRecDepth 65536 in
theorem w_c2 : (Jvm.Cond.code ({ cls := "com/example/costbasin/costbasin/Kind", name := "needs", desc := "(Lcom/example/costbasin/costbasin/Column;)Z" } : Jvm.MethodName) prog_14_method_5_code (2 : Nat) (Option.some Jvm.ClassFile.FieldType.boolean)).before args0 about1 = true := code_word (m := ⟨6, 0⟩) (meth := k6m0) (c := k6c0) (by decide +kernel) rfl rfl rfl (by decide +kernel)
set_option maxRecDepth 65536 in
theorem w_c3 : (Jvm.Cond.code ({ cls := "java/util/ImmutableCollections$Set12", name := "contains", desc := "(Ljava/lang/Object;)Z" } : Jvm.MethodName) jdk_101_method_5_code (2 : Nat) (Option.some Jvm.ClassFile.FieldType.boolean)).before args0 about1 = true := code_word (m := ⟨14, 0⟩) (meth := k14m0) (c := k14c0) (by decide +kernel) rfl rfl rfl (by decide +kernel)
set_option maxRecDepth 65536 in
theorem w_c4 : (Jvm.Cond.code ({ cls := "java/lang/Enum", name := "equals", desc := "(Ljava/lang/Object;)Z" } : Jvm.MethodName) jdk_37_method_5_code (2 : Nat) (Option.some Jvm.ClassFile.FieldType.boolean)).before args0 about1 = true := code_word (m := ⟨5, 0⟩) (meth := k5m0) (c := k5c0) (by decide +kernel) rfl rfl rfl (by decide +kernel)
set_option maxRecDepth 65536 in
theorem w_c5 : (Jvm.Cond.code ({ cls := "java/lang/Object", name := "equals", desc := "(Ljava/lang/Object;)Z" } : Jvm.MethodName) object_method_4_code (2 : Nat) (Option.some Jvm.ClassFile.FieldType.boolean)).before args0 about1 = true := code_word (m := ⟨0, 1⟩) (meth := k0m1) (c := k0c1) (by decide +kernel) rfl rfl rfl (by decide +kernel)
def codes1 : List Jvm.Cond := [Jvm.Cond.code x code maxLocals ret, Jvm.Cond.code ({ cls := "com/example/costbasin/costbasin/Kind", name := "isLatePrice", desc := "()Z" } : Jvm.MethodName) prog_14_method_8_code (1 : Nat) (Option.some Jvm.ClassFile.FieldType.boolean), Jvm.Cond.code ({ cls := "com/example/costbasin/costbasin/Kind", name := "needs", desc := "(Lcom/example/costbasin/costbasin/Column;)Z" } : Jvm.MethodName) prog_14_method_5_code (2 : Nat) (Option.some Jvm.ClassFile.FieldType.boolean), Jvm.Cond.code ({ cls := "java/util/ImmutableCollections$Set12", name := "contains", desc := "(Ljava/lang/Object;)Z" } : Jvm.MethodName) jdk_101_method_5_code (2 : Nat) (Option.some Jvm.ClassFile.FieldType.boolean), Jvm.Cond.code ({ cls := "java/lang/Enum", name := "equals", desc := "(Ljava/lang/Object;)Z" } : Jvm.MethodName) jdk_37_method_5_code (2 : Nat) (Option.some Jvm.ClassFile.FieldType.boolean), Jvm.Cond.code ({ cls := "java/lang/Object", name := "equals", desc := "(Ljava/lang/Object;)Z" } : Jvm.MethodName) object_method_4_code (2 : Nat) (Option.some Jvm.ClassFile.FieldType.boolean)]
set_option maxRecDepth 65536 in
theorem codes_eq : words1.filter isCode = codes1 := rfl
theorem w_codes : ∀ c ∈ words1.filter isCode, c.before args0 about1 = true := by
  rw [codes_eq]
  intro c hc
  simp only [codes1, List.mem_cons, List.not_mem_nil, or_false] at hc
  rcases hc with rfl | rfl | rfl | rfl | rfl | rfl
  · exact w_c0
  · exact w_c1
  · exact w_c2
  · exact w_c3
  · exact w_c4
  · exact w_c5
set_option maxRecDepth 65536 in
theorem w_t1 : (words1.take 24).all (fun c => isCode c || c.before args0 about1) = true := by decide +kernel
set_option maxRecDepth 65536 in
theorem w_t2 : ((words1.drop 24).take 24).all (fun c => isCode c || c.before args0 about1) = true := by decide +kernel
set_option maxRecDepth 65536 in
theorem w_t3 : ((words1.drop 24).drop 24).all (fun c => isCode c || c.before args0 about1) = true := by decide +kernel
theorem w_tables : (allAtoms (Jvm.Cond.code x code maxLocals ret :: tables_1)).before args0 about1 = true := by
  rw [allAtoms_all]
  show words1.all (fun c => c.before args0 about1) = true
  refine all_split ?_ w_codes
  rw [← List.take_append_drop 24 words1, List.all_append, w_t1, ← List.take_append_drop 24 (words1.drop 24), List.all_append, w_t2, w_t3]
  rfl
set_option maxRecDepth 65536 in
theorem w_case : (Jvm.Cond.and given_1 narrow_1).before args0 about1 = true := by decide +kernel
theorem w_applies : (headSpec (Jvm.Cond.code x code maxLocals ret :: tables_1) room_1).applies x e0.platform about1 = true :=
  (Spec.applies_iff w_frames).mpr ⟨w_running, w_runnable, w_alone, w_named, w_hears, w_ripe, w_room, w_tables⟩
theorem atStart : AtStart classFile x code maxLocals ret World_1 tables_1 room_1 Calls_1 rest_1 Pre_1 launch0 p0 e0 about1 theMethod args0 below0 :=
  ⟨lists_1, trivial, launch0.admits_env _ _ _, launch0.least_env, fairChoices_fair.cas, fairChoices_fair.clock, w_frames, w_args, w_heap, w_applies, trivial, trivial, w_case⟩
end start1
theorem witness_1 : WitnessClaimed_1 := ⟨start1.p0, start1.e0, start1.about1, start1.theMethod, start1.args0, start1.below0, start1.atStart⟩
end Jvm.Pilot.@@N@@
