import JvmDerived
import JvmDerived.Pilot.@@N@@Statement
import JvmDerived.Pilot.@@N@@Code
set_option linter.unusedVariables false
set_option linter.unusedSimpArgs false
namespace Jvm.RoadKit
open Sem ClassFile Op Lib Jvm.Stand Jvm.Free Jvm.LawKit
section OwnKit
/-- what stands fast while one body is walked -/
def own_Cx (p : Program) (l : Launch) (e : Env) (R : Room) (s : State) (m : MethodId) (args : Array Value) (below : List Frame) (meth : Method) (c : Code) (Z : State) (own nm : String) (bytes : ByteArray) (maxL : Nat) (ret : Option FieldType) : Prop :=
  p.tables.exec = Jvm.exec ∧ Z.Warmed39 s.vm ∧ s.vm.findClass own = some m.cls ∧ c.code = bytes ∧ c.maxLocals = maxL ∧ meth.sig.returnType = ret ∧ meth.locks = false ∧ meth.name = nm
/-- from here the body comes to its end, and Q holds of what it returns and of the heap -/
def own_Go (p : Program) (l : Launch) (e : Env) (R : Room) (s : State) (m : MethodId) (args : Array Value) (below : List Frame) (meth : Method) (c : Code) (n0 : Nat) (Q : Option Value → State → List Loc → Prop) (cells slots : Nat) (h : Heap) (pc : Nat) (Ls : List Slot) (st : List Value) : Prop :=
  ∀ (T : State) (locs : List Loc) (ce sl : Nat), ce ≤ cells → sl ≤ slots → Fr n0 locs → Stand p l e R s m args below meth c T locs ce sl → T.heap = h →
    ∃ s₂ o, Steps p.tables e below (T.setTop (mkF m pc Ls.toArray st)) s₂ ∧ s₂.status = .running ∧ Ended s₂ below o ∧ ∃ v L, o = .returned v ∧ Q v s₂ L
/-- the plain end: what is returned, the heap, what was written, the frame -/
def own_N (s : State) (n0 : Nat) (R : Room) (Q : Option Value → Heap → Prop) (v : Option Value) (t : State) (L : List Loc) : Prop := (Q v t.heap ∧ Fr n0 L) ∧ FrameEnd s (.returned v) t L R.cells R.slots
/-- an instruction and the place behind it -/
def own_D (bytes : ByteArray) (pc : Nat) (i : Instr) (n pn : Nat) : Prop := decode bytes pc = .ok (i, n) ∧ pc + n = pn
/-- where a branch leads -/
def own_T (pc : Nat) (o : Int) (pt : Nat) : Prop := 0 ≤ (pc : Int) + o ∧ ((pc : Int) + o).toNat = pt
/-- a body's contract, over the start's tables Z and the heap h -/
def own_Con (l : Launch) (Z : State) (y : MethodName) (bytes : ByteArray) (maxL : Nat) (ret : Option FieldType) (rm : Room) (n0 : Nat) (as' : List Value) (h : Heap) (Q : Option Value → Heap → Prop) : Prop :=
  ∀ ws : List Jvm.Cond, MetFree l y (head1 (Jvm.Cond.code y bytes maxL ret :: ws) rm) (fun a U => a = as'.toArray ∧ Z.Warmed39 U.vm ∧ U.heap = h) (fun _ _ _ _ _ => True) (fun _ U o U' => ∃ v L, o = .returned v ∧ (Q v U'.heap ∧ Fr n0 L) ∧ FrameEnd U o U' L rm.cells rm.slots)
variable {p : Program} {l : Launch} {e : Env} {R : Room} {s : State} {m : MethodId} {args : Array Value} {below : List Frame} {meth : Method} {c : Code} {Z : State} {a0 : Array Value} {h : Heap} {own nm : String} {bytes : ByteArray} {maxL : Nat} {ret : Option FieldType} {n0 cells slots pc pn pt : Nat} {Q : Option Value → State → List Loc → Prop} {Qn : Option Value → Heap → Prop} {Ls : List Slot} {st rest : List Value}
theorem own_Con.mk {y : MethodName} {rm : Room} {as' : List Value} (hpn : plainFor y = true) (hef : ∀ m, entryFrame m as'.toArray maxL = mkF m 0 Ls.toArray [])
    (body : ∀ p e s m below meth c, own_Cx p l e rm s m as'.toArray below meth c Z y.cls y.name bytes maxL ret → own_Go p l e rm s m as'.toArray below meth c n0 (own_N s n0 rm Qn) 0 0 h 0 Ls []) : own_Con l Z y bytes maxL ret rm n0 as' h Qn := by
  intro ws
  refine MetFree.of_bodySF hpn hisR ?_
  intro p e s m args below meth c s₁ Bd hml0 hP hK
  obtain ⟨rfl, hZ, hh⟩ := hP
  have X0 : Stand p l e rm s m as'.toArray below meth c s₁ [] 0 0 := Stand.of_body Bd
  have e0 : s₁.heap = h := by rw [← hh, Bd.state]; rfl
  obtain ⟨s₂, o, h1, h2, h3, v, L, rfl, h4⟩ := body p e s m below meth c ⟨Bd.exec, hZ, findClass_of_methodNamed Bd.named, Bd.bytes, hml0, Bd.returns, Bd.notSynchronized, (name_of_methodNamed Bd.named Bd.method).1⟩ s₁ [] 0 0 (Nat.le_refl _) (Nat.le_refl _) (Fr.nil n0) X0 e0
  exact ⟨s₂, _, castTop (hef m) h1, h2, h3, v, L, rfl, h4⟩
theorem own_Con.imp {y : MethodName} {rm : Room} {as' : List Value} {Q' : Option Value → Heap → Prop} (K : own_Con l Z y bytes maxL ret rm n0 as' h Qn) (q : ∀ v h', Qn v h' → Q' v h') : own_Con l Z y bytes maxL ret rm n0 as' h Q' := by
  intro ws p e ha hc hk s m args below hf happ hP hK
  obtain ⟨n, o, h1, h2, h3, v, L, h4, h5, h6⟩ := K ws p e ha hc hk s m args below hf happ hP hK
  exact ⟨n, o, h1, h2, h3, v, L, h4, ⟨q _ _ h5.1, h5.2⟩, h6⟩
theorem own_step {pc' : Nat} {Ls' : List Slot} {st' : List Value} (H : ∀ (T : State) (locs : List Loc) (ce sl : Nat), Stand p l e R s m args below meth c T locs ce sl → ∀ target, Steps p.tables e below (T.setTop (mkF m pc' Ls'.toArray st')) target → Steps p.tables e below (T.setTop (mkF m pc Ls.toArray st)) target)
    (k : own_Go p l e R s m args below meth c n0 Q cells slots h pc' Ls' st') : own_Go p l e R s m args below meth c n0 Q cells slots h pc Ls st := by
  intro T locs ce sl hc hs hf X eT
  obtain ⟨s₂, o, h1, h2⟩ := k T locs ce sl hc hs hf X eT
  exact ⟨s₂, o, H T locs ce sl X _ h1, h2⟩
theorem own_warm {pc' : Nat} {Ls' : List Slot} {st' : List Value} (H : ∀ (T : State) (locs : List Loc) (ce sl : Nat), Stand p l e R s m args below meth c T locs ce sl → T.heap = h → ∃ T', Stand p l e R s m args below meth c T' locs ce sl ∧ T'.heap = h ∧ ∀ target, Steps p.tables e below (T'.setTop (mkF m pc' Ls'.toArray st')) target → Steps p.tables e below (T.setTop (mkF m pc Ls.toArray st)) target)
    (k : own_Go p l e R s m args below meth c n0 Q cells slots h pc' Ls' st') : own_Go p l e R s m args below meth c n0 Q cells slots h pc Ls st := by
  intro T locs ce sl hc hs hf X eT
  obtain ⟨T', X', eT', H'⟩ := H T locs ce sl X eT
  obtain ⟨s₂, o, h1, h2⟩ := k T' locs ce sl hc hs hf X' eT'
  exact ⟨s₂, o, H' _ h1, h2⟩
theorem own_Go.more {cells' slots' : Nat} (hc : cells ≤ cells') (hs : slots ≤ slots') (k : own_Go p l e R s m args below meth c n0 Q cells' slots' h pc Ls st) : own_Go p l e R s m args below meth c n0 Q cells slots h pc Ls st :=
  fun T locs ce sl h1 h2 hf X eT => k T locs ce sl (Nat.le_trans h1 hc) (Nat.le_trans h2 hs) hf X eT
theorem own_Go.cast {pc' : Nat} {Ls' : List Slot} {st' : List Value} (k : own_Go p l e R s m args below meth c n0 Q cells slots h pc' Ls' st') (e1 : pc = pc' := by rfl) (e2 : Ls = Ls' := by rfl) (e3 : st = st' := by rfl) : own_Go p l e R s m args below meth c n0 Q cells slots h pc Ls st := by
  subst e1 e2 e3; exact k
theorem own_aloadN (C : own_Cx p l e R s m args below meth c Z own nm bytes maxL ret) {i : Fin 4} {v : Value} (d : own_D bytes pc (.aload_n i) 1 pn) (hl : Ls[i.val]? = some (.val v)) (hv : v.isRef = true) (k : own_Go p l e R s m args below meth c n0 Q cells slots h pn Ls (v :: st)) : own_Go p l e R s m args below meth c n0 Q cells slots h pc Ls st := by
  obtain ⟨hd, rfl⟩ := d
  exact own_step (fun T locs ce sl X t r => XS.aloadN X.here C.1 rfl (hb C.2.2.2.1 hd) (by simpa using hl) hv r) k
theorem own_aload (C : own_Cx p l e R s m args below meth c Z own nm bytes maxL ret) {i : Nat} {v : Value} (d : own_D bytes pc (.aload i) 2 pn) (hl : Ls[i]? = some (.val v)) (hv : v.isRef = true) (k : own_Go p l e R s m args below meth c n0 Q cells slots h pn Ls (v :: st)) : own_Go p l e R s m args below meth c n0 Q cells slots h pc Ls st := by
  obtain ⟨hd, rfl⟩ := d
  exact own_step (fun T locs ce sl X t r => XS.aload X.here C.1 rfl (hb C.2.2.2.1 hd) (by simpa using hl) hv r) k
theorem own_iloadN (C : own_Cx p l e R s m args below meth c Z own nm bytes maxL ret) {i : Fin 4} {v : Int32} (d : own_D bytes pc (.iload_n i) 1 pn) (hl : Ls[i.val]? = some (.val (.int v))) (k : own_Go p l e R s m args below meth c n0 Q cells slots h pn Ls (.int v :: st)) : own_Go p l e R s m args below meth c n0 Q cells slots h pc Ls st := by
  obtain ⟨hd, rfl⟩ := d
  exact own_step (fun T locs ce sl X t r => XS.iloadN X.here C.1 rfl (hb C.2.2.2.1 hd) (by simpa using hl) r) k
theorem own_iload (C : own_Cx p l e R s m args below meth c Z own nm bytes maxL ret) {i : Nat} {v : Int32} (d : own_D bytes pc (.iload i) 2 pn) (hl : Ls[i]? = some (.val (.int v))) (k : own_Go p l e R s m args below meth c n0 Q cells slots h pn Ls (.int v :: st)) : own_Go p l e R s m args below meth c n0 Q cells slots h pc Ls st := by
  obtain ⟨hd, rfl⟩ := d
  exact own_step (fun T locs ce sl X t r => XS.iload X.here C.1 rfl (hb C.2.2.2.1 hd) (by simpa using hl) r) k
theorem own_lloadN (C : own_Cx p l e R s m args below meth c Z own nm bytes maxL ret) {i : Fin 4} {v : Int64} (d : own_D bytes pc (.lload_n i) 1 pn) (hl : Ls[i.val]? = some (.val (.long v))) (k : own_Go p l e R s m args below meth c n0 Q cells slots h pn Ls (.long v :: st)) : own_Go p l e R s m args below meth c n0 Q cells slots h pc Ls st := by
  obtain ⟨hd, rfl⟩ := d
  exact own_step (fun T locs ce sl X t r => XS.lloadN X.here C.1 rfl (hb C.2.2.2.1 hd) (by simpa using hl) r) k
theorem own_lload (C : own_Cx p l e R s m args below meth c Z own nm bytes maxL ret) {i : Nat} {v : Int64} (d : own_D bytes pc (.lload i) 2 pn) (hl : Ls[i]? = some (.val (.long v))) (k : own_Go p l e R s m args below meth c n0 Q cells slots h pn Ls (.long v :: st)) : own_Go p l e R s m args below meth c n0 Q cells slots h pc Ls st := by
  obtain ⟨hd, rfl⟩ := d
  exact own_step (fun T locs ce sl X t r => XS.lload X.here C.1 rfl (hb C.2.2.2.1 hd) (by simpa using hl) r) k
theorem own_iconst (C : own_Cx p l e R s m args below meth c Z own nm bytes maxL ret) {i : Int} (v : Int32) (d : own_D bytes pc (.iconst i) 1 pn) (hv : Int32.ofInt i = v) (k : own_Go p l e R s m args below meth c n0 Q cells slots h pn Ls (.int v :: st)) : own_Go p l e R s m args below meth c n0 Q cells slots h pc Ls st := by
  obtain ⟨hd, rfl⟩ := d
  exact own_step (fun T locs ce sl X t r => XS.iconst X.here C.1 rfl (hb C.2.2.2.1 hd) (by rw [hv]; exact r)) k
theorem own_bipush (C : own_Cx p l e R s m args below meth c Z own nm bytes maxL ret) {i : Int} (v : Int32) (d : own_D bytes pc (.bipush i) 2 pn) (hv : (Int8.ofInt i).toInt32 = v) (k : own_Go p l e R s m args below meth c n0 Q cells slots h pn Ls (.int v :: st)) : own_Go p l e R s m args below meth c n0 Q cells slots h pc Ls st := by
  obtain ⟨hd, rfl⟩ := d
  exact own_step (fun T locs ce sl X t r => XS.bipush X.here C.1 rfl (hb C.2.2.2.1 hd) (by rw [hv]; exact r)) k
theorem own_sipush (C : own_Cx p l e R s m args below meth c Z own nm bytes maxL ret) {i : Int} (v : Int32) (d : own_D bytes pc (.sipush i) 3 pn) (hv : (Int16.ofInt i).toInt32 = v) (k : own_Go p l e R s m args below meth c n0 Q cells slots h pn Ls (.int v :: st)) : own_Go p l e R s m args below meth c n0 Q cells slots h pc Ls st := by
  obtain ⟨hd, rfl⟩ := d
  exact own_step (fun T locs ce sl X t r => XS.sipush X.here C.1 rfl (hb C.2.2.2.1 hd) (by rw [hv]; exact r)) k
theorem own_lconst (C : own_Cx p l e R s m args below meth c Z own nm bytes maxL ret) {i : Fin 2} (v : Int64) (d : own_D bytes pc (.lconst i) 1 pn) (hv : Int64.ofNat i = v) (k : own_Go p l e R s m args below meth c n0 Q cells slots h pn Ls (.long v :: st)) : own_Go p l e R s m args below meth c n0 Q cells slots h pc Ls st := by
  obtain ⟨hd, rfl⟩ := d
  exact own_step (fun T locs ce sl X t r => XS.lconst X.here C.1 rfl (hb C.2.2.2.1 hd) (by rw [hv]; exact r)) k
theorem own_aconst_null (C : own_Cx p l e R s m args below meth c Z own nm bytes maxL ret)  (d : own_D bytes pc (.aconst_null) 1 pn)  (k : own_Go p l e R s m args below meth c n0 Q cells slots h pn Ls (.null :: st)) : own_Go p l e R s m args below meth c n0 Q cells slots h pc Ls st := by
  obtain ⟨hd, rfl⟩ := d
  exact own_step (fun T locs ce sl X t r => XS.aconstNull X.here C.1 rfl (hb C.2.2.2.1 hd) r) k
theorem own_iadd (C : own_Cx p l e R s m args below meth c Z own nm bytes maxL ret) {x y : Int32} (d : own_D bytes pc (.iadd) 1 pn)  (k : own_Go p l e R s m args below meth c n0 Q cells slots h pn Ls (.int (x + y) :: st)) : own_Go p l e R s m args below meth c n0 Q cells slots h pc Ls (.int y :: .int x :: st) := by
  obtain ⟨hd, rfl⟩ := d
  exact own_step (fun T locs ce sl X t r => XS.iadd X.here C.1 rfl (hb C.2.2.2.1 hd) rfl r) k
theorem own_isub (C : own_Cx p l e R s m args below meth c Z own nm bytes maxL ret) {x y : Int32} (d : own_D bytes pc (.isub) 1 pn)  (k : own_Go p l e R s m args below meth c n0 Q cells slots h pn Ls (.int (x - y) :: st)) : own_Go p l e R s m args below meth c n0 Q cells slots h pc Ls (.int y :: .int x :: st) := by
  obtain ⟨hd, rfl⟩ := d
  exact own_step (fun T locs ce sl X t r => XS.isub X.here C.1 rfl (hb C.2.2.2.1 hd) rfl r) k
theorem own_imul (C : own_Cx p l e R s m args below meth c Z own nm bytes maxL ret) {x y : Int32} (d : own_D bytes pc (.imul) 1 pn)  (k : own_Go p l e R s m args below meth c n0 Q cells slots h pn Ls (.int (x * y) :: st)) : own_Go p l e R s m args below meth c n0 Q cells slots h pc Ls (.int y :: .int x :: st) := by
  obtain ⟨hd, rfl⟩ := d
  exact own_step (fun T locs ce sl X t r => XS.imul X.here C.1 rfl (hb C.2.2.2.1 hd) rfl r) k
theorem own_iand (C : own_Cx p l e R s m args below meth c Z own nm bytes maxL ret) {x y : Int32} (d : own_D bytes pc (.iand) 1 pn)  (k : own_Go p l e R s m args below meth c n0 Q cells slots h pn Ls (.int (x &&& y) :: st)) : own_Go p l e R s m args below meth c n0 Q cells slots h pc Ls (.int y :: .int x :: st) := by
  obtain ⟨hd, rfl⟩ := d
  exact own_step (fun T locs ce sl X t r => XS.iand X.here C.1 rfl (hb C.2.2.2.1 hd) rfl r) k
theorem own_ior (C : own_Cx p l e R s m args below meth c Z own nm bytes maxL ret) {x y : Int32} (d : own_D bytes pc (.ior) 1 pn)  (k : own_Go p l e R s m args below meth c n0 Q cells slots h pn Ls (.int (x ||| y) :: st)) : own_Go p l e R s m args below meth c n0 Q cells slots h pc Ls (.int y :: .int x :: st) := by
  obtain ⟨hd, rfl⟩ := d
  exact own_step (fun T locs ce sl X t r => XS.ior X.here C.1 rfl (hb C.2.2.2.1 hd) rfl r) k
theorem own_ixor (C : own_Cx p l e R s m args below meth c Z own nm bytes maxL ret) {x y : Int32} (d : own_D bytes pc (.ixor) 1 pn)  (k : own_Go p l e R s m args below meth c n0 Q cells slots h pn Ls (.int (x ^^^ y) :: st)) : own_Go p l e R s m args below meth c n0 Q cells slots h pc Ls (.int y :: .int x :: st) := by
  obtain ⟨hd, rfl⟩ := d
  exact own_step (fun T locs ce sl X t r => XS.ixor X.here C.1 rfl (hb C.2.2.2.1 hd) rfl r) k
theorem own_ladd (C : own_Cx p l e R s m args below meth c Z own nm bytes maxL ret) {x y : Int64} (d : own_D bytes pc (.ladd) 1 pn)  (k : own_Go p l e R s m args below meth c n0 Q cells slots h pn Ls (.long (x + y) :: st)) : own_Go p l e R s m args below meth c n0 Q cells slots h pc Ls (.long y :: .long x :: st) := by
  obtain ⟨hd, rfl⟩ := d
  exact own_step (fun T locs ce sl X t r => XS.ladd X.here C.1 rfl (hb C.2.2.2.1 hd) rfl r) k
theorem own_lsub (C : own_Cx p l e R s m args below meth c Z own nm bytes maxL ret) {x y : Int64} (d : own_D bytes pc (.lsub) 1 pn)  (k : own_Go p l e R s m args below meth c n0 Q cells slots h pn Ls (.long (x - y) :: st)) : own_Go p l e R s m args below meth c n0 Q cells slots h pc Ls (.long y :: .long x :: st) := by
  obtain ⟨hd, rfl⟩ := d
  exact own_step (fun T locs ce sl X t r => XS.lsub X.here C.1 rfl (hb C.2.2.2.1 hd) rfl r) k
theorem own_land (C : own_Cx p l e R s m args below meth c Z own nm bytes maxL ret) {x y : Int64} (d : own_D bytes pc (.land) 1 pn)  (k : own_Go p l e R s m args below meth c n0 Q cells slots h pn Ls (.long (x &&& y) :: st)) : own_Go p l e R s m args below meth c n0 Q cells slots h pc Ls (.long y :: .long x :: st) := by
  obtain ⟨hd, rfl⟩ := d
  exact own_step (fun T locs ce sl X t r => XS.land X.here C.1 rfl (hb C.2.2.2.1 hd) rfl r) k
theorem own_lor (C : own_Cx p l e R s m args below meth c Z own nm bytes maxL ret) {x y : Int64} (d : own_D bytes pc (.lor) 1 pn)  (k : own_Go p l e R s m args below meth c n0 Q cells slots h pn Ls (.long (x ||| y) :: st)) : own_Go p l e R s m args below meth c n0 Q cells slots h pc Ls (.long y :: .long x :: st) := by
  obtain ⟨hd, rfl⟩ := d
  exact own_step (fun T locs ce sl X t r => XS.lor X.here C.1 rfl (hb C.2.2.2.1 hd) rfl r) k
theorem own_lxor (C : own_Cx p l e R s m args below meth c Z own nm bytes maxL ret) {x y : Int64} (d : own_D bytes pc (.lxor) 1 pn)  (k : own_Go p l e R s m args below meth c n0 Q cells slots h pn Ls (.long (x ^^^ y) :: st)) : own_Go p l e R s m args below meth c n0 Q cells slots h pc Ls (.long y :: .long x :: st) := by
  obtain ⟨hd, rfl⟩ := d
  exact own_step (fun T locs ce sl X t r => XS.lxor X.here C.1 rfl (hb C.2.2.2.1 hd) rfl r) k
theorem own_ishl (C : own_Cx p l e R s m args below meth c Z own nm bytes maxL ret) {x y : Int32} (d : own_D bytes pc (.ishl) 1 pn)  (k : own_Go p l e R s m args below meth c n0 Q cells slots h pn Ls (.int (x <<< (y &&& 31)) :: st)) : own_Go p l e R s m args below meth c n0 Q cells slots h pc Ls (.int y :: .int x :: st) := by
  obtain ⟨hd, rfl⟩ := d
  exact own_step (fun T locs ce sl X t r => XS.ishl X.here C.1 rfl (hb C.2.2.2.1 hd) rfl r) k
theorem own_ishr (C : own_Cx p l e R s m args below meth c Z own nm bytes maxL ret) {x y : Int32} (d : own_D bytes pc (.ishr) 1 pn)  (k : own_Go p l e R s m args below meth c n0 Q cells slots h pn Ls (.int (x >>> (y &&& 31)) :: st)) : own_Go p l e R s m args below meth c n0 Q cells slots h pc Ls (.int y :: .int x :: st) := by
  obtain ⟨hd, rfl⟩ := d
  exact own_step (fun T locs ce sl X t r => XS.ishr X.here C.1 rfl (hb C.2.2.2.1 hd) rfl r) k
theorem own_iushr (C : own_Cx p l e R s m args below meth c Z own nm bytes maxL ret) {x y : Int32} (d : own_D bytes pc (.iushr) 1 pn)  (k : own_Go p l e R s m args below meth c n0 Q cells slots h pn Ls (.int ((x.toUInt32 >>> (y &&& 31).toUInt32).toInt32) :: st)) : own_Go p l e R s m args below meth c n0 Q cells slots h pc Ls (.int y :: .int x :: st) := by
  obtain ⟨hd, rfl⟩ := d
  exact own_step (fun T locs ce sl X t r => XS.iushr X.here C.1 rfl (hb C.2.2.2.1 hd) rfl r) k
theorem own_ineg (C : own_Cx p l e R s m args below meth c Z own nm bytes maxL ret) {x : Int32} (d : own_D bytes pc (.ineg) 1 pn)  (k : own_Go p l e R s m args below meth c n0 Q cells slots h pn Ls (.int (-x) :: st)) : own_Go p l e R s m args below meth c n0 Q cells slots h pc Ls (.int x :: st) := by
  obtain ⟨hd, rfl⟩ := d
  exact own_step (fun T locs ce sl X t r => XS.ineg X.here C.1 rfl (hb C.2.2.2.1 hd) rfl r) k
theorem own_irem (C : own_Cx p l e R s m args below meth c Z own nm bytes maxL ret) {x y : Int32} (d : own_D bytes pc (.irem) 1 pn) (hy : y ≠ 0) (k : own_Go p l e R s m args below meth c n0 Q cells slots h pn Ls (.int (x % y) :: st)) : own_Go p l e R s m args below meth c n0 Q cells slots h pc Ls (.int y :: .int x :: st) := by
  obtain ⟨hd, rfl⟩ := d
  exact own_step (fun T locs ce sl X t r => iremM X C.1 rfl (hb C.2.2.2.1 hd) rfl hy r) k
theorem own_lcmp (C : own_Cx p l e R s m args below meth c Z own nm bytes maxL ret) {x y : Int64} (d : own_D bytes pc (.lcmp) 1 pn)  (k : own_Go p l e R s m args below meth c n0 Q cells slots h pn Ls (.int (lcmpW x y) :: st)) : own_Go p l e R s m args below meth c n0 Q cells slots h pc Ls (.long y :: .long x :: st) := by
  obtain ⟨hd, rfl⟩ := d
  exact own_step (fun T locs ce sl X t r => XS.lcmp X.here C.1 rfl (hb C.2.2.2.1 hd) rfl r) k
theorem own_dup (C : own_Cx p l e R s m args below meth c Z own nm bytes maxL ret) {x : Value} (d : own_D bytes pc (.dup) 1 pn) (hc : x.category = 1) (k : own_Go p l e R s m args below meth c n0 Q cells slots h pn Ls (x :: x :: st)) : own_Go p l e R s m args below meth c n0 Q cells slots h pc Ls (x :: st) := by
  obtain ⟨hd, rfl⟩ := d
  exact own_step (fun T locs ce sl X t r => XS.dup X.here C.1 rfl (hb C.2.2.2.1 hd) rfl hc r) k
theorem own_dupX1 (C : own_Cx p l e R s m args below meth c Z own nm bytes maxL ret) {x y : Value} (d : own_D bytes pc (.dup_x1) 1 pn) (hc : x.category = 1) (hc' : y.category = 1) (k : own_Go p l e R s m args below meth c n0 Q cells slots h pn Ls (x :: y :: x :: st)) : own_Go p l e R s m args below meth c n0 Q cells slots h pc Ls (x :: y :: st) := by
  obtain ⟨hd, rfl⟩ := d
  exact own_step (fun T locs ce sl X t r => XS.dupX1 X.here C.1 rfl (hb C.2.2.2.1 hd) rfl hc hc' r) k
theorem own_dup2 (C : own_Cx p l e R s m args below meth c Z own nm bytes maxL ret) {x y : Value} (d : own_D bytes pc (.dup2) 1 pn) (hc : x.category = 1) (hc' : y.category = 1) (k : own_Go p l e R s m args below meth c n0 Q cells slots h pn Ls (x :: y :: x :: y :: st)) : own_Go p l e R s m args below meth c n0 Q cells slots h pc Ls (x :: y :: st) := by
  obtain ⟨hd, rfl⟩ := d
  exact own_step (fun T locs ce sl X t r => XT.dup2 X.here C.1 rfl (hb C.2.2.2.1 hd) rfl hc hc' r) k
theorem own_pop (C : own_Cx p l e R s m args below meth c Z own nm bytes maxL ret) {x : Value} (d : own_D bytes pc (.pop) 1 pn) (hc : x.category = 1) (k : own_Go p l e R s m args below meth c n0 Q cells slots h pn Ls st) : own_Go p l e R s m args below meth c n0 Q cells slots h pc Ls (x :: st) := by
  obtain ⟨hd, rfl⟩ := d
  exact own_step (fun T locs ce sl X t r => XS.pop X.here C.1 rfl (hb C.2.2.2.1 hd) rfl hc r) k
/-- a slot that one word may be laid over -/
def own_one : Slot → Bool
  | .unset => true
  | .second => false
  | .val w => w.category == 1
theorem own_one_spec {o : Slot} (q : own_one o = true) : o = .unset ∨ ∃ w, o = .val w ∧ w.category = 1 := by
  cases o with
  | unset => exact Or.inl rfl
  | second => cases q
  | val w => exact Or.inr ⟨w, rfl, by simpa [own_one] using q⟩
theorem own_store {k : Nat} {v : Value} {o : Slot} (hold : Ls[k]? = some o) (ho : own_one o = true) (hv : v.category = 1) : storeLocals Ls.toArray k v = some (Ls.set k (.val v)).toArray := by
  rw [XS.store1 (o := o) (by simpa using hold) (own_one_spec ho) hv]; simp
theorem own_istoreN (C : own_Cx p l e R s m args below meth c Z own nm bytes maxL ret) {i : Fin 4} {x : Int32} {o : Slot} (j : Nat) (d : own_D bytes pc (.istore_n i) 1 pn) (hj : i.val = j) (hl : Ls[j]? = some o) (ho : own_one o = true) (k : own_Go p l e R s m args below meth c n0 Q cells slots h pn (Ls.set j (.val (.int x))) st) : own_Go p l e R s m args below meth c n0 Q cells slots h pc Ls (.int x :: st) := by
  obtain ⟨hd, rfl⟩ := d
  exact own_step (fun T locs ce sl X t r => XS.istoreN X.here C.1 rfl (hb C.2.2.2.1 hd) rfl (by rw [hj]; exact own_store hl ho rfl) r) k
theorem own_istore (C : own_Cx p l e R s m args below meth c Z own nm bytes maxL ret) {i : Nat} {x : Int32} {o : Slot} (j : Nat) (d : own_D bytes pc (.istore i) 2 pn) (hj : i = j) (hl : Ls[j]? = some o) (ho : own_one o = true) (k : own_Go p l e R s m args below meth c n0 Q cells slots h pn (Ls.set j (.val (.int x))) st) : own_Go p l e R s m args below meth c n0 Q cells slots h pc Ls (.int x :: st) := by
  obtain ⟨hd, rfl⟩ := d
  exact own_step (fun T locs ce sl X t r => XS.istore X.here C.1 rfl (hb C.2.2.2.1 hd) rfl (by rw [hj]; exact own_store hl ho rfl) r) k
theorem own_astoreN (C : own_Cx p l e R s m args below meth c Z own nm bytes maxL ret) {i : Fin 4} {x : Value} {o : Slot} (j : Nat) (d : own_D bytes pc (.astore_n i) 1 pn) (hj : i.val = j) (hl : Ls[j]? = some o) (ho : own_one o = true) (hv : x.isRef = true) (k : own_Go p l e R s m args below meth c n0 Q cells slots h pn (Ls.set j (.val x)) st) : own_Go p l e R s m args below meth c n0 Q cells slots h pc Ls (x :: st) := by
  obtain ⟨hd, rfl⟩ := d
  exact own_step (fun T locs ce sl X t r => XS.astoreN X.here C.1 rfl (hb C.2.2.2.1 hd) rfl hv (by rw [hj]; exact own_store hl ho (XT.cat1 hv)) r) k
theorem own_astore (C : own_Cx p l e R s m args below meth c Z own nm bytes maxL ret) {i : Nat} {x : Value} {o : Slot} (j : Nat) (d : own_D bytes pc (.astore i) 2 pn) (hj : i = j) (hl : Ls[j]? = some o) (ho : own_one o = true) (hv : x.isRef = true) (k : own_Go p l e R s m args below meth c n0 Q cells slots h pn (Ls.set j (.val x)) st) : own_Go p l e R s m args below meth c n0 Q cells slots h pc Ls (x :: st) := by
  obtain ⟨hd, rfl⟩ := d
  exact own_step (fun T locs ce sl X t r => XS.astore X.here C.1 rfl (hb C.2.2.2.1 hd) rfl hv (by rw [hj]; exact own_store hl ho (XT.cat1 hv)) r) k
theorem own_lstoreN (C : own_Cx p l e R s m args below meth c Z own nm bytes maxL ret) {i : Fin 4} {x : Int64} {Ls' : List Slot} (d : own_D bytes pc (.lstore_n i) 1 pn) (hl : storeLocals Ls.toArray i.val (.long x) = some Ls'.toArray) (k : own_Go p l e R s m args below meth c n0 Q cells slots h pn Ls' st) : own_Go p l e R s m args below meth c n0 Q cells slots h pc Ls (.long x :: st) := by
  obtain ⟨hd, rfl⟩ := d
  exact own_step (fun T locs ce sl X t r => XS.lstoreN X.here C.1 rfl (hb C.2.2.2.1 hd) rfl hl r) k
theorem own_lstore (C : own_Cx p l e R s m args below meth c Z own nm bytes maxL ret) {i : Nat} {x : Int64} {Ls' : List Slot} (d : own_D bytes pc (.lstore i) 2 pn) (hl : storeLocals Ls.toArray i (.long x) = some Ls'.toArray) (k : own_Go p l e R s m args below meth c n0 Q cells slots h pn Ls' st) : own_Go p l e R s m args below meth c n0 Q cells slots h pc Ls (.long x :: st) := by
  obtain ⟨hd, rfl⟩ := d
  exact own_step (fun T locs ce sl X t r => XS.lstore X.here C.1 rfl (hb C.2.2.2.1 hd) rfl hl r) k
theorem own_iinc (C : own_Cx p l e R s m args below meth c Z own nm bytes maxL ret) {i : Nat} {cst : Int} {x : Int32} (v : Int32) (d : own_D bytes pc (.iinc i cst) 3 pn) (hv : Int32.ofInt cst = v) (hl : Ls[i]? = some (.val (.int x))) (k : own_Go p l e R s m args below meth c n0 Q cells slots h pn (Ls.set i (.val (.int (x + v)))) st) : own_Go p l e R s m args below meth c n0 Q cells slots h pc Ls st := by
  obtain ⟨hd, rfl⟩ := d
  exact own_step (fun T locs ce sl X t r => XS.iinc X.here C.1 rfl (hb C.2.2.2.1 hd) (by simpa using hl) (by rw [hv]; exact own_store hl rfl rfl) r) k
theorem own_goto (C : own_Cx p l e R s m args below meth c Z own nm bytes maxL ret) {o : Int} (d : own_D bytes pc (.goto o) 3 pn) (ht : own_T pc o pt) (k : own_Go p l e R s m args below meth c n0 Q cells slots h pt Ls st) : own_Go p l e R s m args below meth c n0 Q cells slots h pc Ls st := by
  obtain ⟨hd, rfl⟩ := d
  exact own_step (fun T locs ce sl X t r => XS.goto X.here C.1 rfl rfl (hb C.2.2.2.1 hd) ht.1 ht.2 r) k
theorem own_icmplt (C : own_Cx p l e R s m args below meth c Z own nm bytes maxL ret) {o : Int} {x y : Int32} (d : own_D bytes pc (.if_icmp .lt o) 3 pn) (ht : own_T pc o pt) (ky : x < y → own_Go p l e R s m args below meth c n0 Q cells slots h pt Ls st) (kn : ¬ x < y → own_Go p l e R s m args below meth c n0 Q cells slots h pn Ls st) : own_Go p l e R s m args below meth c n0 Q cells slots h pc Ls (.int y :: .int x :: st) := by
  obtain ⟨hd, rfl⟩ := d
  by_cases h' : x < y
  · exact own_step (fun T locs ce sl X t r => XS.icmpYes X.here C.1 rfl rfl (hb C.2.2.2.1 hd) rfl (tlt h').1 ht.1 ht.2 r) (ky h')
  · exact own_step (fun T locs ce sl X t r => XS.icmpNo X.here C.1 rfl (hb C.2.2.2.1 hd) rfl (flt h').1 r) (kn h')
theorem own_iflt (C : own_Cx p l e R s m args below meth c Z own nm bytes maxL ret) {o : Int} {x : Int32} (d : own_D bytes pc (.ifCond .lt o) 3 pn) (ht : own_T pc o pt) (ky : x < (0 : Int32) → own_Go p l e R s m args below meth c n0 Q cells slots h pt Ls st) (kn : ¬ x < (0 : Int32) → own_Go p l e R s m args below meth c n0 Q cells slots h pn Ls st) : own_Go p l e R s m args below meth c n0 Q cells slots h pc Ls (.int x :: st) := by
  obtain ⟨hd, rfl⟩ := d
  by_cases h' : x < (0 : Int32)
  · exact own_step (fun T locs ce sl X t r => XS.ifYes X.here C.1 rfl rfl (hb C.2.2.2.1 hd) rfl ((if0 _ _).trans (tlt h').1) ht.1 ht.2 r) (ky h')
  · exact own_step (fun T locs ce sl X t r => XS.ifNo X.here C.1 rfl (hb C.2.2.2.1 hd) rfl ((if0 _ _).trans (flt h').1) r) (kn h')
theorem own_icmpge (C : own_Cx p l e R s m args below meth c Z own nm bytes maxL ret) {o : Int} {x y : Int32} (d : own_D bytes pc (.if_icmp .ge o) 3 pn) (ht : own_T pc o pt) (ky : ¬ x < y → own_Go p l e R s m args below meth c n0 Q cells slots h pt Ls st) (kn : x < y → own_Go p l e R s m args below meth c n0 Q cells slots h pn Ls st) : own_Go p l e R s m args below meth c n0 Q cells slots h pc Ls (.int y :: .int x :: st) := by
  obtain ⟨hd, rfl⟩ := d
  by_cases h' : x < y
  · exact own_step (fun T locs ce sl X t r => XS.icmpNo X.here C.1 rfl (hb C.2.2.2.1 hd) rfl (tlt h').2.1 r) (kn h')
  · exact own_step (fun T locs ce sl X t r => XS.icmpYes X.here C.1 rfl rfl (hb C.2.2.2.1 hd) rfl (flt h').2.1 ht.1 ht.2 r) (ky h')
theorem own_ifge (C : own_Cx p l e R s m args below meth c Z own nm bytes maxL ret) {o : Int} {x : Int32} (d : own_D bytes pc (.ifCond .ge o) 3 pn) (ht : own_T pc o pt) (ky : ¬ x < (0 : Int32) → own_Go p l e R s m args below meth c n0 Q cells slots h pt Ls st) (kn : x < (0 : Int32) → own_Go p l e R s m args below meth c n0 Q cells slots h pn Ls st) : own_Go p l e R s m args below meth c n0 Q cells slots h pc Ls (.int x :: st) := by
  obtain ⟨hd, rfl⟩ := d
  by_cases h' : x < (0 : Int32)
  · exact own_step (fun T locs ce sl X t r => XS.ifNo X.here C.1 rfl (hb C.2.2.2.1 hd) rfl ((if0 _ _).trans (tlt h').2.1) r) (kn h')
  · exact own_step (fun T locs ce sl X t r => XS.ifYes X.here C.1 rfl rfl (hb C.2.2.2.1 hd) rfl ((if0 _ _).trans (flt h').2.1) ht.1 ht.2 r) (ky h')
theorem own_icmpgt (C : own_Cx p l e R s m args below meth c Z own nm bytes maxL ret) {o : Int} {x y : Int32} (d : own_D bytes pc (.if_icmp .gt o) 3 pn) (ht : own_T pc o pt) (ky : y < x → own_Go p l e R s m args below meth c n0 Q cells slots h pt Ls st) (kn : ¬ y < x → own_Go p l e R s m args below meth c n0 Q cells slots h pn Ls st) : own_Go p l e R s m args below meth c n0 Q cells slots h pc Ls (.int y :: .int x :: st) := by
  obtain ⟨hd, rfl⟩ := d
  by_cases h' : y < x
  · exact own_step (fun T locs ce sl X t r => XS.icmpYes X.here C.1 rfl rfl (hb C.2.2.2.1 hd) rfl (tlt h').2.2.1 ht.1 ht.2 r) (ky h')
  · exact own_step (fun T locs ce sl X t r => XS.icmpNo X.here C.1 rfl (hb C.2.2.2.1 hd) rfl (flt h').2.2.1 r) (kn h')
theorem own_ifgt (C : own_Cx p l e R s m args below meth c Z own nm bytes maxL ret) {o : Int} {x : Int32} (d : own_D bytes pc (.ifCond .gt o) 3 pn) (ht : own_T pc o pt) (ky : (0 : Int32) < x → own_Go p l e R s m args below meth c n0 Q cells slots h pt Ls st) (kn : ¬ (0 : Int32) < x → own_Go p l e R s m args below meth c n0 Q cells slots h pn Ls st) : own_Go p l e R s m args below meth c n0 Q cells slots h pc Ls (.int x :: st) := by
  obtain ⟨hd, rfl⟩ := d
  by_cases h' : (0 : Int32) < x
  · exact own_step (fun T locs ce sl X t r => XS.ifYes X.here C.1 rfl rfl (hb C.2.2.2.1 hd) rfl ((if0 _ _).trans (tlt h').2.2.1) ht.1 ht.2 r) (ky h')
  · exact own_step (fun T locs ce sl X t r => XS.ifNo X.here C.1 rfl (hb C.2.2.2.1 hd) rfl ((if0 _ _).trans (flt h').2.2.1) r) (kn h')
theorem own_icmple (C : own_Cx p l e R s m args below meth c Z own nm bytes maxL ret) {o : Int} {x y : Int32} (d : own_D bytes pc (.if_icmp .le o) 3 pn) (ht : own_T pc o pt) (ky : ¬ y < x → own_Go p l e R s m args below meth c n0 Q cells slots h pt Ls st) (kn : y < x → own_Go p l e R s m args below meth c n0 Q cells slots h pn Ls st) : own_Go p l e R s m args below meth c n0 Q cells slots h pc Ls (.int y :: .int x :: st) := by
  obtain ⟨hd, rfl⟩ := d
  by_cases h' : y < x
  · exact own_step (fun T locs ce sl X t r => XS.icmpNo X.here C.1 rfl (hb C.2.2.2.1 hd) rfl (tlt h').2.2.2 r) (kn h')
  · exact own_step (fun T locs ce sl X t r => XS.icmpYes X.here C.1 rfl rfl (hb C.2.2.2.1 hd) rfl (flt h').2.2.2 ht.1 ht.2 r) (ky h')
theorem own_ifle (C : own_Cx p l e R s m args below meth c Z own nm bytes maxL ret) {o : Int} {x : Int32} (d : own_D bytes pc (.ifCond .le o) 3 pn) (ht : own_T pc o pt) (ky : ¬ (0 : Int32) < x → own_Go p l e R s m args below meth c n0 Q cells slots h pt Ls st) (kn : (0 : Int32) < x → own_Go p l e R s m args below meth c n0 Q cells slots h pn Ls st) : own_Go p l e R s m args below meth c n0 Q cells slots h pc Ls (.int x :: st) := by
  obtain ⟨hd, rfl⟩ := d
  by_cases h' : (0 : Int32) < x
  · exact own_step (fun T locs ce sl X t r => XS.ifNo X.here C.1 rfl (hb C.2.2.2.1 hd) rfl ((if0 _ _).trans (tlt h').2.2.2) r) (kn h')
  · exact own_step (fun T locs ce sl X t r => XS.ifYes X.here C.1 rfl rfl (hb C.2.2.2.1 hd) rfl ((if0 _ _).trans (flt h').2.2.2) ht.1 ht.2 r) (ky h')
theorem own_icmpeq (C : own_Cx p l e R s m args below meth c Z own nm bytes maxL ret) {o : Int} {x y : Int32} (d : own_D bytes pc (.if_icmp .eq o) 3 pn) (ht : own_T pc o pt) (ky : x = y → own_Go p l e R s m args below meth c n0 Q cells slots h pt Ls st) (kn : ¬ x = y → own_Go p l e R s m args below meth c n0 Q cells slots h pn Ls st) : own_Go p l e R s m args below meth c n0 Q cells slots h pc Ls (.int y :: .int x :: st) := by
  obtain ⟨hd, rfl⟩ := d
  by_cases h' : x = y
  · exact own_step (fun T locs ce sl X t r => XS.icmpYes X.here C.1 rfl rfl (hb C.2.2.2.1 hd) rfl (teq h').1 ht.1 ht.2 r) (ky h')
  · exact own_step (fun T locs ce sl X t r => XS.icmpNo X.here C.1 rfl (hb C.2.2.2.1 hd) rfl (feq h').1 r) (kn h')
theorem own_ifeq (C : own_Cx p l e R s m args below meth c Z own nm bytes maxL ret) {o : Int} {x : Int32} (d : own_D bytes pc (.ifCond .eq o) 3 pn) (ht : own_T pc o pt) (ky : x = (0 : Int32) → own_Go p l e R s m args below meth c n0 Q cells slots h pt Ls st) (kn : ¬ x = (0 : Int32) → own_Go p l e R s m args below meth c n0 Q cells slots h pn Ls st) : own_Go p l e R s m args below meth c n0 Q cells slots h pc Ls (.int x :: st) := by
  obtain ⟨hd, rfl⟩ := d
  by_cases h' : x = (0 : Int32)
  · exact own_step (fun T locs ce sl X t r => XS.ifYes X.here C.1 rfl rfl (hb C.2.2.2.1 hd) rfl ((if0 _ _).trans (teq h').1) ht.1 ht.2 r) (ky h')
  · exact own_step (fun T locs ce sl X t r => XS.ifNo X.here C.1 rfl (hb C.2.2.2.1 hd) rfl ((if0 _ _).trans (feq h').1) r) (kn h')
theorem own_icmpne (C : own_Cx p l e R s m args below meth c Z own nm bytes maxL ret) {o : Int} {x y : Int32} (d : own_D bytes pc (.if_icmp .ne o) 3 pn) (ht : own_T pc o pt) (ky : ¬ x = y → own_Go p l e R s m args below meth c n0 Q cells slots h pt Ls st) (kn : x = y → own_Go p l e R s m args below meth c n0 Q cells slots h pn Ls st) : own_Go p l e R s m args below meth c n0 Q cells slots h pc Ls (.int y :: .int x :: st) := by
  obtain ⟨hd, rfl⟩ := d
  by_cases h' : x = y
  · exact own_step (fun T locs ce sl X t r => XS.icmpNo X.here C.1 rfl (hb C.2.2.2.1 hd) rfl (teq h').2 r) (kn h')
  · exact own_step (fun T locs ce sl X t r => XS.icmpYes X.here C.1 rfl rfl (hb C.2.2.2.1 hd) rfl (feq h').2 ht.1 ht.2 r) (ky h')
theorem own_ifne (C : own_Cx p l e R s m args below meth c Z own nm bytes maxL ret) {o : Int} {x : Int32} (d : own_D bytes pc (.ifCond .ne o) 3 pn) (ht : own_T pc o pt) (ky : ¬ x = (0 : Int32) → own_Go p l e R s m args below meth c n0 Q cells slots h pt Ls st) (kn : x = (0 : Int32) → own_Go p l e R s m args below meth c n0 Q cells slots h pn Ls st) : own_Go p l e R s m args below meth c n0 Q cells slots h pc Ls (.int x :: st) := by
  obtain ⟨hd, rfl⟩ := d
  by_cases h' : x = (0 : Int32)
  · exact own_step (fun T locs ce sl X t r => XS.ifNo X.here C.1 rfl (hb C.2.2.2.1 hd) rfl ((if0 _ _).trans (teq h').2) r) (kn h')
  · exact own_step (fun T locs ce sl X t r => XS.ifYes X.here C.1 rfl rfl (hb C.2.2.2.1 hd) rfl ((if0 _ _).trans (feq h').2) ht.1 ht.2 r) (ky h')
theorem own_acmpeq (C : own_Cx p l e R s m args below meth c Z own nm bytes maxL ret) {o : Int} {x y : Value} (d : own_D bytes pc (.if_acmp .eq o) 3 pn) (ht : own_T pc o pt) (hx' : x.isRef = true) (hy' : y.isRef = true) (ky : x = y → own_Go p l e R s m args below meth c n0 Q cells slots h pt Ls st) (kn : ¬ x = y → own_Go p l e R s m args below meth c n0 Q cells slots h pn Ls st) : own_Go p l e R s m args below meth c n0 Q cells slots h pc Ls (y :: x :: st) := by
  obtain ⟨hd, rfl⟩ := d
  by_cases h' : x = y
  · exact own_step (fun T locs ce sl X t r => XT.acmpYes X.here C.1 rfl rfl (hb C.2.2.2.1 hd) rfl hx' hy' (XT.aa_eq_t h') ht.1 ht.2 r) (ky h')
  · exact own_step (fun T locs ce sl X t r => XT.acmpNo X.here C.1 rfl (hb C.2.2.2.1 hd) rfl hx' hy' (XT.aa_eq_f h') r) (kn h')
theorem own_acmpne (C : own_Cx p l e R s m args below meth c Z own nm bytes maxL ret) {o : Int} {x y : Value} (d : own_D bytes pc (.if_acmp .ne o) 3 pn) (ht : own_T pc o pt) (hx' : x.isRef = true) (hy' : y.isRef = true) (ky : ¬ x = y → own_Go p l e R s m args below meth c n0 Q cells slots h pt Ls st) (kn : x = y → own_Go p l e R s m args below meth c n0 Q cells slots h pn Ls st) : own_Go p l e R s m args below meth c n0 Q cells slots h pc Ls (y :: x :: st) := by
  obtain ⟨hd, rfl⟩ := d
  by_cases h' : x = y
  · exact own_step (fun T locs ce sl X t r => XT.acmpNo X.here C.1 rfl (hb C.2.2.2.1 hd) rfl hx' hy' (XT.aa_ne_f h') r) (kn h')
  · exact own_step (fun T locs ce sl X t r => XT.acmpYes X.here C.1 rfl rfl (hb C.2.2.2.1 hd) rfl hx' hy' (XT.aa_ne_t h') ht.1 ht.2 r) (ky h')
theorem own_ifnull (C : own_Cx p l e R s m args below meth c Z own nm bytes maxL ret) {o : Int} {v : Value} (d : own_D bytes pc (.ifnull o) 3 pn) (ht : own_T pc o pt) (hv : v.isRef = true) (ky : v = .null → own_Go p l e R s m args below meth c n0 Q cells slots h pt Ls st) (kn : ¬ v = .null → own_Go p l e R s m args below meth c n0 Q cells slots h pn Ls st) : own_Go p l e R s m args below meth c n0 Q cells slots h pc Ls (v :: st) := by
  obtain ⟨hd, rfl⟩ := d
  by_cases h' : v = .null
  · exact own_step (fun T locs ce sl X t r => XT.nullYes X.here C.1 rfl rfl (hb C.2.2.2.1 hd) rfl h' ht.1 ht.2 r) (ky h')
  · exact own_step (fun T locs ce sl X t r => XT.nullNo X.here C.1 rfl (hb C.2.2.2.1 hd) rfl hv h' r) (kn h')
theorem own_ifnonnull (C : own_Cx p l e R s m args below meth c Z own nm bytes maxL ret) {o : Int} {v : Value} (d : own_D bytes pc (.ifnonnull o) 3 pn) (ht : own_T pc o pt) (hv : v.isRef = true) (ky : ¬ v = .null → own_Go p l e R s m args below meth c n0 Q cells slots h pt Ls st) (kn : v = .null → own_Go p l e R s m args below meth c n0 Q cells slots h pn Ls st) : own_Go p l e R s m args below meth c n0 Q cells slots h pc Ls (v :: st) := by
  obtain ⟨hd, rfl⟩ := d
  by_cases h' : v = .null
  · exact own_step (fun T locs ce sl X t r => XT.nonnullNo X.here C.1 rfl (hb C.2.2.2.1 hd) rfl h' r) (kn h')
  · exact own_step (fun T locs ce sl X t r => XT.nonnullYes X.here C.1 rfl rfl (hb C.2.2.2.1 hd) rfl hv h' ht.1 ht.2 r) (ky h')
theorem own_ldc (C : own_Cx p l e R s m args below meth c Z own nm bytes maxL ret) {i : Nat} {v : Int32} (d : own_D bytes pc (.ldc i) 2 pn) (w1 : (Jvm.Cond.constant own i v).before a0 Z = true) (k : own_Go p l e R s m args below meth c n0 Q cells slots h pn Ls (.int v :: st)) : own_Go p l e R s m args below meth c n0 Q cells slots h pc Ls st := by
  obtain ⟨hd, rfl⟩ := d
  exact own_step (fun T locs ce sl X t r => ldcI X C.1 C.2.2.1 (mv C.2.1 w1) rfl (hb C.2.2.2.1 hd) r) k
theorem own_ldc2 (C : own_Cx p l e R s m args below meth c Z own nm bytes maxL ret) {i : Nat} {v : Int64} (d : own_D bytes pc (.ldc2_w i) 3 pn) (w1 : (Jvm.Cond.constantLong own i v).before a0 Z = true) (k : own_Go p l e R s m args below meth c n0 Q cells slots h pn Ls (.long v :: st)) : own_Go p l e R s m args below meth c n0 Q cells slots h pc Ls st := by
  obtain ⟨hd, rfl⟩ := d
  exact own_step (fun T locs ce sl X t r => ldc2J X C.1 C.2.2.1 (mv C.2.1 w1) rfl (hb C.2.2.2.1 hd) r) k
theorem own_getS (C : own_Cx p l e R s m args below meth c Z own nm bytes maxL ret) {O n dd : String} {i : Nat} {v : Value} (d : own_D bytes pc (.getstatic i) 3 pn) (w1 : (Jvm.Cond.fieldLink own i O n dd).before a0 Z = true) (F : Sta Z h O n dd v) (k : own_Go p l e R s m args below meth c n0 Q cells slots h pn Ls (v :: st)) : own_Go p l e R s m args below meth c n0 Q cells slots h pc Ls st := by
  obtain ⟨hd, rfl⟩ := d
  refine own_warm (fun T locs ce sl X eT => ?_) k
  obtain ⟨T', X', e', st'⟩ := getS2 X C.1 C.2.1 C.2.2.1 (host := "") (Or.inl w1) Via.refl eT F (g := mkF m pc Ls.toArray st) rfl (hb C.2.2.2.1 hd)
  exact ⟨T', X', e', st'⟩
theorem own_getF (C : own_Cx p l e R s m args below meth c Z own nm bytes maxL ret) {R0 O n dd : String} {i : Nat} {a : Addr} {v : Value} (d : own_D bytes pc (.getfield i) 3 pn) (w1 : (Jvm.Cond.fieldLink own i R0 n dd).before a0 Z = true) (via : Via Z R0 O n dd) (F : Fld Z h a O n dd v) (k : own_Go p l e R s m args below meth c n0 Q cells slots h pn Ls (v :: st)) : own_Go p l e R s m args below meth c n0 Q cells slots h pc Ls (.ref a :: st) := by
  obtain ⟨hd, rfl⟩ := d
  refine own_warm (fun T locs ce sl X eT => ?_) k
  obtain ⟨T', X', e', st'⟩ := getF X C.1 C.2.1 C.2.2.1 (host := "") (Or.inl w1) via eT F (g := mkF m pc Ls.toArray (.ref a :: st)) rfl rfl (hb C.2.2.2.1 hd)
  exact ⟨T', X', e', st'⟩
theorem own_cast (C : own_Cx p l e R s m args below meth c Z own nm bytes maxL ret) {K : String} {i : Nat} {a : Addr} (d : own_D bytes pc (.checkcast i) 3 pn) (w1 : (Jvm.Cond.classLink own i K).before a0 Z = true) (F : Ins Z h a K true) (k : own_Go p l e R s m args below meth c n0 Q cells slots h pn Ls (.ref a :: st)) : own_Go p l e R s m args below meth c n0 Q cells slots h pc Ls (.ref a :: st) := by
  obtain ⟨hd, rfl⟩ := d
  refine own_warm (fun T locs ce sl X eT => ?_) k
  obtain ⟨T', X', e', st'⟩ := castY X C.1 C.2.1 C.2.2.1 w1 eT F (g := mkF m pc Ls.toArray (.ref a :: st)) rfl rfl (hb C.2.2.2.1 hd)
  exact ⟨T', X', e', st'⟩
theorem own_instY (C : own_Cx p l e R s m args below meth c Z own nm bytes maxL ret) {K : String} {i : Nat} {a : Addr} (d : own_D bytes pc (.instanceof i) 3 pn) (w1 : (Jvm.Cond.classLink own i K).before a0 Z = true) (F : Ins Z h a K true) (k : own_Go p l e R s m args below meth c n0 Q cells slots h pn Ls (.int 1 :: st)) : own_Go p l e R s m args below meth c n0 Q cells slots h pc Ls (.ref a :: st) := by
  obtain ⟨hd, rfl⟩ := d
  refine own_warm (fun T locs ce sl X eT => ?_) k
  obtain ⟨T', X', e', st'⟩ := instY X C.1 C.2.1 C.2.2.1 w1 eT F (g := mkF m pc Ls.toArray (.ref a :: st)) rfl rfl (hb C.2.2.2.1 hd)
  exact ⟨T', X', e', st'⟩
theorem own_write {pc' : Nat} {Ls' : List Slot} {st' : List Value} {a : Addr} {j : Nat} {v : Value} (ha : n0 ≤ a) (H : ∀ (T : State) (locs : List Loc) (ce sl : Nat), Stand p l e R s m args below meth c T locs ce sl → T.heap = h → ∃ T' h', Stand p l e R s m args below meth c T' (locs ++ [⟨a, j⟩]) ce sl ∧ T'.heap = h' ∧ Wr h h' a j v ∧ ∀ target, Steps p.tables e below (T'.setTop (mkF m pc' Ls'.toArray st')) target → Steps p.tables e below (T.setTop (mkF m pc Ls.toArray st)) target)
    (k : ∀ h', Wr h h' a j v → own_Go p l e R s m args below meth c n0 Q cells slots h' pc' Ls' st') : own_Go p l e R s m args below meth c n0 Q cells slots h pc Ls st := by
  intro T locs ce sl hc hs hf X eT
  obtain ⟨T', h', X', eT', W, H'⟩ := H T locs ce sl X eT
  obtain ⟨s₂, o, h1, h2⟩ := k h' W T' _ ce sl hc hs (Fr.snoc X' hf ha) X' eT'
  exact ⟨s₂, o, H' _ h1, h2⟩
theorem own_putF (C : own_Cx p l e R s m args below meth c Z own nm bytes maxL ret) {R0 O n dd K : String} {i kk : Nat} {ty : FieldType} {a : Addr} {v old : Value} (d : own_D bytes pc (.putfield i) 3 pn) (w1 : (Jvm.Cond.fieldLink own i R0 n dd).before a0 Z = true) (via : Via Z R0 O n dd) (F : Fld Z h a O n dd old) (E : Exa Z h a K)
    (L : (Jvm.Cond.lays K O n dd).before a0 Z = true ∨ ((Jvm.Cond.laysFinal K O n dd).before a0 Z = true ∧ own = O ∧ nm = "<init>")) (wi : (Jvm.Cond.instantiable K kk).before a0 Z = true) (hty : parseFieldDescriptor dd = some ty) (hn : narrow ty v = v) (hf : fits ty v = true) (ha : n0 ≤ a)
    (k : ∀ h', Wr h h' a (slotOf Z O n dd) v → own_Go p l e R s m args below meth c n0 Q cells slots h' pn Ls st) : own_Go p l e R s m args below meth c n0 Q cells slots h pc Ls (v :: .ref a :: st) := by
  obtain ⟨hd, rfl⟩ := d
  refine own_write ha (fun T locs ce sl X eT => ?_) k
  obtain ⟨T', h', X', e', W, st'⟩ := putF X C.1 C.2.1 C.2.2.1 (host := "") (Or.inl w1) via eT F E (L.imp id fun q => ⟨q.1, q.2.1, C.2.2.2.2.2.2.2.trans q.2.2⟩) wi hty hn hf (g := mkF m pc Ls.toArray (v :: .ref a :: st)) rfl rfl (hb C.2.2.2.1 hd)
  exact ⟨T', h', X', e', W, st'⟩
theorem own_stR (C : own_Cx p l e R s m args below meth c Z own nm bytes maxL ret) {ty : FieldType} {a : Addr} {v : Value} {cl : Cell} {j : Int32} (d : own_D bytes pc .aastore 1 pn) (A : Arr Z h a cl ty) (hj : ¬ (j < 0 ∨ cl.slots.size ≤ j.toNatClampNeg)) (hty : ty.isReference = true) (F : Sto Z h a v) (ha : n0 ≤ a)
    (k : ∀ h', Wr h h' a j.toNatClampNeg v → own_Go p l e R s m args below meth c n0 Q cells slots h' pn Ls st) : own_Go p l e R s m args below meth c n0 Q cells slots h pc Ls (v :: .int j :: .ref a :: st) := by
  obtain ⟨hd, rfl⟩ := d
  refine own_write ha (fun T locs ce sl X eT => ?_) k
  obtain ⟨T', h', X', e', W, st'⟩ := stR X C.1 C.2.1 eT A hj hty F (g := mkF m pc Ls.toArray (v :: .int j :: .ref a :: st)) rfl rfl (hb C.2.2.2.1 hd)
  exact ⟨T', h', X', e', W, st'⟩
theorem own_newO (C : own_Cx p l e R s m args below meth c Z own nm bytes maxL ret) {K : String} {i n : Nat} (d : own_D bytes pc (.new i) 3 pn) (w1 : (Jvm.Cond.classLink own i K).before a0 Z = true) (w2 : (Jvm.Cond.instantiable K n).before a0 Z = true) (w3 : (Jvm.Cond.initialized K).before a0 Z = true) (hc : cells + 1 ≤ R.cells) (hs : slots + n ≤ R.slots)
    (k : ∀ (h' : Heap) (a : Addr), a = h.size → Ext h h' → Exa Z h' a K → (∀ {O fn dd : String} {ty : FieldType}, Laid Z a0 K O fn dd → parseFieldDescriptor dd = some ty → Fld Z h' a O fn dd (defaultValue ty)) → own_Go p l e R s m args below meth c n0 Q (cells + 1) (slots + n) h' pn Ls (.ref a :: st)) : own_Go p l e R s m args below meth c n0 Q cells slots h pc Ls st := by
  obtain ⟨hd, rfl⟩ := d
  intro T locs ce sl h1 h2 hf X eT
  obtain ⟨T', h', X', e', E', A', D', -, st'⟩ := newO X C.1 C.2.1 C.2.2.1 w1 w2 w3 eT (g := mkF m pc Ls.toArray st) rfl (hb C.2.2.2.1 hd) (Nat.le_trans (Nat.add_le_add_right h1 1) hc) (Nat.le_trans (Nat.add_le_add_right h2 n) hs)
  obtain ⟨s₂, o, g1, g2⟩ := k h' h.size rfl E' A' D' T' locs _ _ (Nat.add_le_add_right h1 1) (Nat.add_le_add_right h2 n) hf X' e'
  exact ⟨s₂, o, st' _ g1, g2⟩
theorem own_newR (C : own_Cx p l e R s m args below meth c Z own nm bytes maxL ret) {K : String} {i : Nat} {n : Int32} (d : own_D bytes pc (.anewarray i) 3 pn) (w1 : (Jvm.Cond.classLink own i K).before a0 Z = true) (w2 : (Jvm.Cond.arrayOver (.object K)).before a0 Z = true) (hn : ¬ n < 0) (cap : Nat) (hcap : n.toNatClampNeg ≤ cap) (hb8 : cap * 8 ≤ 536870912) (hc : cells + 1 ≤ R.cells) (hs : slots + cap ≤ R.slots)
    (k : ∀ (h' : Heap) (a : Addr) (cA : ClassId), a = h.size → Ext h h' → Arr Z h' a (newA cA (.object K) n) (.object K) → Ovr Z cA K → own_Go p l e R s m args below meth c n0 Q (cells + 1) (slots + cap) h' pn Ls (.ref a :: st)) : own_Go p l e R s m args below meth c n0 Q cells slots h pc Ls (.int n :: st) := by
  obtain ⟨hd, rfl⟩ := d
  intro T locs ce sl h1 h2 hf X eT
  obtain ⟨T', h', cA, X', e', E', A', O', st'⟩ := newR X C.1 C.2.1 C.2.2.1 w1 w2 eT (g := mkF m pc Ls.toArray (.int n :: st)) rfl (hb C.2.2.2.1 hd) rfl hn hcap hb8 (Nat.le_trans (Nat.add_le_add_right h1 1) hc) (Nat.le_trans (Nat.add_le_add_right h2 cap) hs)
  obtain ⟨s₂, o, g1, g2⟩ := k h' h.size cA rfl E' A' O' T' locs _ _ (Nat.add_le_add_right h1 1) (Nat.add_le_add_right h2 cap) hf X' e'
  exact ⟨s₂, o, st' _ g1, g2⟩
theorem own_aaload (C : own_Cx p l e R s m args below meth c Z own nm bytes maxL ret) {ty : FieldType} {a : Addr} {v : Value} {cl : Cell} {j : Int32} (d : own_D bytes pc .aaload 1 pn) (A : Arr Z h a cl ty) (hty : ty.isReference = true) (hj : ¬ (j < 0 ∨ cl.slots.size ≤ j.toNatClampNeg)) (hat : cl.slots[j.toNatClampNeg]? = some v)
    (k : own_Go p l e R s m args below meth c n0 Q cells slots h pn Ls (v :: st)) : own_Go p l e R s m args below meth c n0 Q cells slots h pc Ls (.int j :: .ref a :: st) := by
  obtain ⟨hd, rfl⟩ := d
  refine own_warm (fun T locs ce sl X eT => ⟨T, X, eT, ?_⟩) k
  exact X.aaload C.1 (by rw [eT]; exact A.1) (State.isArrayOf_alike C.2.1.alike A.2.1) hty A.2.2 hj hat (g := mkF m pc Ls.toArray (.int j :: .ref a :: st)) rfl rfl (hb C.2.2.2.1 hd)
theorem own_arraylength (C : own_Cx p l e R s m args below meth c Z own nm bytes maxL ret) {ty : FieldType} {a : Addr} {cl : Cell} (d : own_D bytes pc .arraylength 1 pn) (A : Arr Z h a cl ty)
    (k : own_Go p l e R s m args below meth c n0 Q cells slots h pn Ls (.int cl.slots.size.toInt32 :: st)) : own_Go p l e R s m args below meth c n0 Q cells slots h pc Ls (.ref a :: st) := by
  obtain ⟨hd, rfl⟩ := d
  refine own_warm (fun T locs ce sl X eT => ⟨T, X, eT, ?_⟩) k
  exact X.arraylength C.1 (by rw [eT]; exact A.1) (State.isArrayOf_alike C.2.1.alike A.2.1) (g := mkF m pc Ls.toArray (.ref a :: st)) rfl rfl (hb C.2.2.2.1 hd)
theorem own_ret {t : FieldType} (C : own_Cx p l e R s m args below meth c Z own nm bytes maxL (some t)) {w : Value} {i : Instr} (d : own_D bytes pc i 1 pn) (hn : narrow t w = w)
    (hi : (i = .ireturn ∧ (t = .int ∨ t = .boolean ∨ t = .byte ∨ t = .char ∨ t = .short) ∧ ∃ z, w = .int z) ∨ (i = .lreturn ∧ t = .long ∧ ∃ z, w = .long z) ∨ (i = .dreturn ∧ t = .double ∧ ∃ z, w = .double z) ∨ (i = .freturn ∧ t = .float ∧ ∃ z, w = .float z) ∨ (i = .areturn ∧ t.isReference = true ∧ w.isRef = true))
    (hc : cells ≤ R.cells) (hs : slots ≤ R.slots) (q : Qn (some w) h) : own_Go p l e R s m args below meth c n0 (own_N s n0 R Qn) cells slots h pc Ls (w :: st) := by
  obtain ⟨hd, rfl⟩ := d
  intro T locs ce sl h1 h2 hf X eT
  obtain ⟨fs, hr, hrun, hended, hW, hsame⟩ := X.leave (v := some w) (fun h => by rw [C.2.2.2.2.2.1] at h; cases h) C.2.2.2.2.2.2.1
  exact ⟨_, _, retOut X C.1 C.2.2.2.2.2.1 hn hi (hb C.2.2.2.1 hd) hr, hrun, hended, _, locs, rfl, ⟨by show Qn (some w) T.heap; rw [eT]; exact q, hf⟩, ⟨_, rfl⟩, hW, hsame.mono (Nat.le_trans h1 hc) (Nat.le_trans h2 hs)⟩
theorem own_retA {t : FieldType} (C : own_Cx p l e R s m args below meth c Z own nm bytes maxL (some t)) {w : Value} (d : own_D bytes pc .areturn 1 pn) (ht : t.isReference = true) (hw : w.isRef = true) (hc : cells ≤ R.cells) (hs : slots ≤ R.slots) (q : Qn (some w) h) : own_Go p l e R s m args below meth c n0 (own_N s n0 R Qn) cells slots h pc Ls (w :: st) := by
  refine own_ret C d ?_ (Or.inr (Or.inr (Or.inr (Or.inr ⟨rfl, ht, hw⟩)))) hc hs q
  cases t <;> first | (cases ht; done) | rfl
theorem own_retI (C : own_Cx p l e R s m args below meth c Z own nm bytes maxL (some .int)) {z : Int32} (d : own_D bytes pc .ireturn 1 pn) (hc : cells ≤ R.cells) (hs : slots ≤ R.slots) (q : Qn (some (.int z)) h) : own_Go p l e R s m args below meth c n0 (own_N s n0 R Qn) cells slots h pc Ls (.int z :: st) :=
  own_ret C d rfl (Or.inl ⟨rfl, Or.inl rfl, z, rfl⟩) hc hs q
theorem own_retZ (C : own_Cx p l e R s m args below meth c Z own nm bytes maxL (some .boolean)) {z : Int32} (d : own_D bytes pc .ireturn 1 pn) (hz : z = 0 ∨ z = 1) (hc : cells ≤ R.cells) (hs : slots ≤ R.slots) (q : Qn (some (.int z)) h) : own_Go p l e R s m args below meth c n0 (own_N s n0 R Qn) cells slots h pc Ls (.int z :: st) :=
  own_ret C d (by rcases hz with rfl | rfl <;> rfl) (Or.inl ⟨rfl, Or.inr (Or.inl rfl), z, rfl⟩) hc hs q
theorem own_retJ (C : own_Cx p l e R s m args below meth c Z own nm bytes maxL (some .long)) {z : Int64} (d : own_D bytes pc .lreturn 1 pn) (hc : cells ≤ R.cells) (hs : slots ≤ R.slots) (q : Qn (some (.long z)) h) : own_Go p l e R s m args below meth c n0 (own_N s n0 R Qn) cells slots h pc Ls (.long z :: st) :=
  own_ret C d rfl (Or.inr (Or.inl ⟨rfl, rfl, z, rfl⟩)) hc hs q
theorem own_retV (C : own_Cx p l e R s m args below meth c Z own nm bytes maxL none) (d : own_D bytes pc .return_ 1 pn) (hc : cells ≤ R.cells) (hs : slots ≤ R.slots) (q : Qn none h) : own_Go p l e R s m args below meth c n0 (own_N s n0 R Qn) cells slots h pc Ls [] := by
  obtain ⟨hd, rfl⟩ := d
  intro T locs ce sl h1 h2 hf X eT
  obtain ⟨fs, hr, hrun, hended, hW, hsame⟩ := X.leave (v := none) (fun _ => rfl) C.2.2.2.2.2.2.1
  exact ⟨_, _, X.returnOut C.1 C.2.2.2.2.2.1 (hb C.2.2.2.1 hd) hr, hrun, hended, _, locs, rfl, ⟨by show Qn none T.heap; rw [eT]; exact q, hf⟩, ⟨_, rfl⟩, hW, hsame.mono (Nat.le_trans h1 hc) (Nat.le_trans h2 hs)⟩
theorem own_hlen {dsc : String} {ps : List FieldType} {r : Option FieldType} {L : List Value} (hd : parseMethodDescriptor dsc = some ⟨ps, r⟩) (hl : L.length = ps.length) : ∀ sig, parseMethodDescriptor dsc = some sig → L.length = sig.parameters.length := lenOf hd hl
theorem own_callS (C : own_Cx p l e R s m args below meth c Z own nm bytes maxL ret) {i : Nat} {y : MethodName} {bytes' : ByteArray} {maxL' : Nat} {ret' : Option FieldType} {rm : Room} {as' : List Value} {Qc : Option Value → Heap → Prop} (K : own_Con l Z y bytes' maxL' ret' rm n0 as' h Qc) (d : own_D bytes pc (.invokestatic i) 3 pn) (w1 : (Jvm.Cond.methodLink own i y).before a0 Z = true) (w2 : (Jvm.Cond.static y).before a0 Z = true) (w3 : (Jvm.Cond.initialized y.cls).before a0 Z = true) (w4 : (Jvm.Cond.code y bytes' maxL' ret').before a0 Z = true)
    (hy : y.cls ≠ "java/lang/invoke/MethodHandle" ∧ y.cls ≠ "java/lang/invoke/VarHandle") {ps : List FieldType} {r : Option FieldType} (hp : parseMethodDescriptor y.desc = some ⟨ps, r⟩) (hn : as'.length = ps.length) (hst : st = as'.reverse ++ rest) (hLs : Ls.length = maxL) (hfr : rm.frames + 1 ≤ R.frames) (hlo : (rest.map fun v => v.category).sum + (maxL' + 11) + rm.locals ≤ R.locals) (hc : cells + rm.cells ≤ R.cells) (hs : slots + rm.slots ≤ R.slots)
    (k : ∀ v h', Qc v h' → own_Go p l e R s m args below meth c n0 Q (cells + rm.cells) (slots + rm.slots) h' pn Ls (v.toList ++ rest)) : own_Go p l e R s m args below meth c n0 Q cells slots h pc Ls st := by
  obtain ⟨hd, rfl⟩ := d
  intro T locs ce sl h1 h2 hf X eT
  obtain ⟨v, _, ⟨T', L', k', n'⟩, -, X', ⟨Lc, hq, l', y', z'⟩, st'⟩ := Jvm.LawKit.callS X C.1 (y := y) C.2.2.1 (mvT C.2.1 w1) (mvT C.2.1 w2) (mvT C.2.1 w3) (mvT C.2.1 w4) hy (backOf (W := (rest.map fun v => v.category).sum) (Q := fun v h L => Qc v h ∧ Fr n0 L) (K []) C.2.1 w4 w3 hfr hlo) (g := mkF m pc Ls.toArray st) rfl (by rw [C.2.2.2.2.1]; simpa using hLs) (argsL := as') (rest := rest) (lenOf hp hn) hst (by simp) (hb C.2.2.2.1 hd) (fun _ _ => ⟨rfl, eT, Nat.le_trans (Nat.add_le_add_right h1 _) hc, Nat.le_trans (Nat.add_le_add_right h2 _) hs⟩)
  dsimp only [Pt.U, Pt.locs, Pt.cells, Pt.slots] at X' l' y' z' st' hq
  subst l' y' z'
  obtain ⟨s₂, o, g1, g2⟩ := k v T'.heap hq.1 T' _ _ _ (by omega) (by omega) (Fr.app hf hq.2) X' rfl
  exact ⟨s₂, o, st' _ g1, g2⟩
theorem own_callV (C : own_Cx p l e R s m args below meth c Z own nm bytes maxL ret) {i : Nat} {a : Addr} {Kc : String} {z : MethodName} {y : MethodName} {bytes' : ByteArray} {maxL' : Nat} {ret' : Option FieldType} {rm : Room} {as' : List Value} {Qc : Option Value → Heap → Prop} (K : own_Con l Z z bytes' maxL' ret' rm n0 (.ref a :: as') h Qc) (E : Exa Z h a Kc) (d : own_D bytes pc (.invokevirtual i) 3 pn) (w1 : (Jvm.Cond.methodLink own i y).before a0 Z = true) (w2 : (Jvm.Cond.declares y).before a0 Z = true) (w3 : (Jvm.Cond.selects Kc y z).before a0 Z = true) (nf : NotFace s y) (w4 : (Jvm.Cond.instanceMethod z).before a0 Z = true) (w5 : (Jvm.Cond.code z bytes' maxL' ret').before a0 Z = true) (w6 : (Jvm.Cond.initialized z.cls).before a0 Z = true)
    (hy : y.cls ≠ "java/lang/invoke/MethodHandle" ∧ y.cls ≠ "java/lang/invoke/VarHandle") {ps : List FieldType} {r : Option FieldType} (hp : parseMethodDescriptor y.desc = some ⟨ps, r⟩) (hn : as'.length = ps.length) (hst : st = as'.reverse ++ .ref a :: rest) (hLs : Ls.length = maxL) (hfr : rm.frames + 1 ≤ R.frames) (hlo : (rest.map fun v => v.category).sum + (maxL' + 11) + rm.locals ≤ R.locals) (hc : cells + rm.cells ≤ R.cells) (hs : slots + rm.slots ≤ R.slots)
    (k : ∀ v h', Qc v h' → own_Go p l e R s m args below meth c n0 Q (cells + rm.cells) (slots + rm.slots) h' pn Ls (v.toList ++ rest)) : own_Go p l e R s m args below meth c n0 Q cells slots h pc Ls st := by
  obtain ⟨hd, rfl⟩ := d
  intro T locs ce sl h1 h2 hf X eT
  obtain ⟨cB, kB, qa, qb, qc⟩ := isOf C.2.1 eT E
  obtain ⟨v, _, ⟨T', L', k', n'⟩, -, X', ⟨Lc, hq, l', y', z'⟩, st'⟩ := X.virtualBack C.1 (y := y) (z := z) C.2.2.1 (mvT C.2.1 w1) (mvT C.2.1 w2) nf (mvT C.2.1 w3) (mvT C.2.1 w4) hy (backOf (W := (rest.map fun v => v.category).sum) (Q := fun v h L => Qc v h ∧ Fr n0 L) (K []) C.2.1 w5 w6 hfr hlo) qa qc (g := mkF m pc Ls.toArray st) rfl (by rw [C.2.2.2.2.1]; simpa using hLs) (Steps.refl _) (argsL := as') (rest := rest) (lenOf hp hn) hst (by simp) (hb C.2.2.2.1 hd) (fun _ _ => ⟨rfl, eT, Nat.le_trans (Nat.add_le_add_right h1 _) hc, Nat.le_trans (Nat.add_le_add_right h2 _) hs⟩)
  dsimp only [Pt.U, Pt.locs, Pt.cells, Pt.slots] at X' l' y' z' st' hq
  subst l' y' z'
  obtain ⟨s₂, o, g1, g2⟩ := k v T'.heap hq.1 T' _ _ _ (by omega) (by omega) (Fr.app hf hq.2) X' rfl
  exact ⟨s₂, o, st'.trans g1, g2⟩
theorem own_callI (C : own_Cx p l e R s m args below meth c Z own nm bytes maxL ret) {i : Nat} {a : Addr} {y : MethodName} {bytes' : ByteArray} {maxL' : Nat} {ret' : Option FieldType} {rm : Room} {as' : List Value} {Qc : Option Value → Heap → Prop} (K : own_Con l Z y bytes' maxL' none rm n0 (.ref a :: as') h Qc) (d : own_D bytes pc (.invokespecial i) 3 pn) (hi : y.name = "<init>") (w1 : (Jvm.Cond.methodLink own i y).before a0 Z = true) (w4 : (Jvm.Cond.instanceMethod y).before a0 Z = true) (w5 : (Jvm.Cond.code y bytes' maxL' none).before a0 Z = true) (w6 : (Jvm.Cond.initialized y.cls).before a0 Z = true)
    (hy : y.cls ≠ "java/lang/invoke/MethodHandle" ∧ y.cls ≠ "java/lang/invoke/VarHandle") {ps : List FieldType} {r : Option FieldType} (hp : parseMethodDescriptor y.desc = some ⟨ps, r⟩) (hn : as'.length = ps.length) (hst : st = as'.reverse ++ .ref a :: rest) (hLs : Ls.length = maxL) (hfr : rm.frames + 1 ≤ R.frames) (hlo : (rest.map fun v => v.category).sum + (maxL' + 11) + rm.locals ≤ R.locals) (hc : cells + rm.cells ≤ R.cells) (hs : slots + rm.slots ≤ R.slots)
    (k : ∀ v h', Qc v h' → own_Go p l e R s m args below meth c n0 Q (cells + rm.cells) (slots + rm.slots) h' pn Ls (v.toList ++ rest)) : own_Go p l e R s m args below meth c n0 Q cells slots h pc Ls st := by
  obtain ⟨hd, rfl⟩ := d
  intro T locs ce sl h1 h2 hf X eT
  obtain ⟨v, _, ⟨T', L', k', n'⟩, -, X', ⟨Lc, hq, l', y', z'⟩, st'⟩ := X.specialBack C.1 (y := y) hi C.2.2.1 (mvT C.2.1 w1) (mvT C.2.1 w4) (mvT C.2.1 w5) hy (backOf (W := (rest.map fun v => v.category).sum) (Q := fun v h L => Qc v h ∧ Fr n0 L) (K []) C.2.1 w5 w6 hfr hlo) (g := mkF m pc Ls.toArray st) rfl (by rw [C.2.2.2.2.1]; simpa using hLs) (Steps.refl _) (argsL := as') (rest := rest) (lenOf hp hn) hst (by simp) (hb C.2.2.2.1 hd) (fun _ _ => ⟨rfl, eT, Nat.le_trans (Nat.add_le_add_right h1 _) hc, Nat.le_trans (Nat.add_le_add_right h2 _) hs⟩)
  dsimp only [Pt.U, Pt.locs, Pt.cells, Pt.slots] at X' l' y' z' st' hq
  subst l' y' z'
  obtain ⟨s₂, o, g1, g2⟩ := k v T'.heap hq.1 T' _ _ _ (by omega) (by omega) (Fr.app hf hq.2) X' rfl
  exact ⟨s₂, o, st'.trans g1, g2⟩
theorem own_nf {args : Array Value} {y : MethodName} {K : String} (hZ : Z.Warmed39 s.vm) (w : (Jvm.Cond.selects K y y).before a0 Z = true) : NotFace s y := notFace_of_selects (args := args) (mvT hZ w)
/-- from the words of a case to facts -/
theorem own_fld {t u : Term} {O n dd : String} {a : Addr} {v : Value} (hw : (Jvm.Cond.eq (Term.field t O n dd) u).value args Z none Z [] = some true) (ht : t.eval args Z none [] Z = some (.ref a)) (hu : u.eval args Z none [] Z = some v) : Fld Z Z.heap a O n dd v := by
  refine Fld.start ?_
  rw [← fld_at ht]
  obtain ⟨x, y, e1, e2, k1, k2⟩ := cmp_v (Or.inl hw)
  cases hu.symm.trans e2
  rw [e1]
  simp only [Jvm.Cond.value, e1, e2] at hw
  cases x <;> cases v <;> simp_all [Kin, Value.isRef]
theorem own_main {y : MethodName} {rm : Room} {as' : List Value} {ws : List Jvm.Cond} (K : own_Con l Z y bytes maxL ret rm n0 as' h Qn) : MetFree l y (head1 (Jvm.Cond.code y bytes maxL ret :: ws) rm) (fun a U => a = as'.toArray ∧ Z.Warmed39 U.vm ∧ U.heap = h) (fun _ _ _ _ _ => True) (fun _ U o U' => ∃ v L, o = .returned v ∧ (Qn v U'.heap ∧ Fr n0 L) ∧ FrameEnd U o U' L rm.cells rm.slots) := K ws
theorem own_ext_ext {h0 h' : Heap} (E : Ext h0 h) (E' : Ext h h') : Ext h0 h' := ⟨Nat.le_trans E.1 E'.1, fun a c q => E'.2 a c (E.2 a c q)⟩
theorem own_ext_wr {h0 h' : Heap} {a : Addr} {j : Nat} {v : Value} (E : Ext h0 h) (W : Wr h h' a j v) (q : h0.size ≤ a) : Ext h0 h' := by
  refine ⟨by rw [W.size]; exact E.1, fun b c hb => ?_⟩
  obtain ⟨c', e1, -, -, -, e5, -⟩ := wr_at W (E.2 b c hb)
  have ne : b ≠ a := fun e => absurd (Array.getElem?_eq_some_iff.mp hb).1 (by rw [e]; exact Nat.not_lt.mpr q)
  rw [e1, e5 ne]
theorem own_ext_keep {h0 h' : Heap} {ws : List Addr} (E : Ext h0 h) (K : Keep h h' ws) (q : ∀ x ∈ ws, h0.size ≤ x) : Ext h0 h' := ⟨Nat.le_trans E.1 K.1, fun b c hb => K.2.1 b c (E.2 b c hb) fun z => absurd (Array.getElem?_eq_some_iff.mp hb).1 (Nat.not_lt.mpr (q b z))⟩
theorem own_ext_refl (h : Heap) : Ext h h := ⟨Nat.le_refl _, fun _ _ q => q⟩
/-- an array of references and all that lies in it -/
def own_Av (Z : State) (h : Heap) (a : Addr) (ty : FieldType) (cA : ClassId) (vs : List Value) : Prop := ∃ c : Cell, Arr Z h a c ty ∧ c.cls = cA ∧ c.slots = vs.toArray
theorem own_Av.ext {h' : Heap} {a : Addr} {ty : FieldType} {cA : ClassId} {vs : List Value} (A : own_Av Z h a ty cA vs) (E : Ext h h') : own_Av Z h' a ty cA vs := by obtain ⟨c, A, r⟩ := A; exact ⟨c, A.ext E, r⟩
theorem own_newA (C : own_Cx p l e R s m args below meth c Z own nm bytes maxL ret) {K : String} {i : Nat} {n : Int32} (d : own_D bytes pc (.anewarray i) 3 pn) (w1 : (Jvm.Cond.classLink own i K).before a0 Z = true) (w2 : (Jvm.Cond.arrayOver (.object K)).before a0 Z = true) (hn : ¬ n < 0) (cap : Nat) (hcap : n.toNatClampNeg = cap) (hb8 : cap * 8 ≤ 536870912) (hc : cells + 1 ≤ R.cells) (hs : slots + cap ≤ R.slots)
    (k : ∀ (h' : Heap) (a : Addr) (cA : ClassId), a = h.size → Ext h h' → own_Av Z h' a (.object K) cA (List.replicate cap .null) → Ovr Z cA K → own_Go p l e R s m args below meth c n0 Q (cells + 1) (slots + cap) h' pn Ls (.ref a :: st)) : own_Go p l e R s m args below meth c n0 Q cells slots h pc Ls (.int n :: st) :=
  own_newR C d w1 w2 hn cap (Nat.le_of_eq hcap) hb8 hc hs fun h' a cA e1 E A O => k h' a cA e1 E ⟨_, A, rfl, by subst hcap; simp [newA, defaultValue]⟩ O
theorem own_stA (C : own_Cx p l e R s m args below meth c Z own nm bytes maxL ret) {K : String} {a b : Addr} {cA : ClassId} {vs : List Value} {j : Int32} (d : own_D bytes pc .aastore 1 pn) (A : own_Av Z h a (.object K) cA vs) (O : Ovr Z cA K) (I : Ins Z h b K true) (i : Nat) (hj : ¬ j < 0) (hi : j.toNatClampNeg = i) (hl : i < vs.length) (ha : n0 ≤ a)
    (k : ∀ h', Wr h h' a i (.ref b) → own_Av Z h' a (.object K) cA (vs.set i (.ref b)) → own_Go p l e R s m args below meth c n0 Q cells slots h' pn Ls st) : own_Go p l e R s m args below meth c n0 Q cells slots h pc Ls (.ref b :: .int j :: .ref a :: st) := by
  obtain ⟨cl, A, rfl, hv⟩ := A
  subst hi
  have hsz : cl.slots.size = vs.length := by rw [hv]; simp
  refine own_stR C d A (by rw [hsz]; intro q; rcases q with q | q; exact hj q; omega) rfl (Sto.of A O I) ha fun h' W => k h' W ⟨_, A.same W, rfl, ?_⟩
  simp [Cell.setSlot, hv]
theorem own_ldA (C : own_Cx p l e R s m args below meth c Z own nm bytes maxL ret) {ty : FieldType} {a : Addr} {v : Value} {cA : ClassId} {vs : List Value} {j : Int32} (d : own_D bytes pc .aaload 1 pn) (A : own_Av Z h a ty cA vs) (hty : ty.isReference = true) (i : Nat) (hj : ¬ j < 0) (hi : j.toNatClampNeg = i) (hat : vs[i]? = some v)
    (k : own_Go p l e R s m args below meth c n0 Q cells slots h pn Ls (v :: st)) : own_Go p l e R s m args below meth c n0 Q cells slots h pc Ls (.int j :: .ref a :: st) := by
  obtain ⟨cl, A, rfl, hv⟩ := A
  subst hi
  have hl : j.toNatClampNeg < vs.length := (List.getElem?_eq_some_iff.mp hat).1
  have hsz : cl.slots.size = vs.length := by rw [hv]; simp
  exact own_aaload C d A hty (by rw [hsz]; intro q; rcases q with q | q; exact hj q; omega) (by rw [hv]; simpa using hat) k
theorem own_lenA (C : own_Cx p l e R s m args below meth c Z own nm bytes maxL ret) {ty : FieldType} {a : Addr} {cA : ClassId} {vs : List Value} (d : own_D bytes pc .arraylength 1 pn) (A : own_Av Z h a ty cA vs) {z : Int32} (hz : vs.length.toInt32 = z)
    (k : own_Go p l e R s m args below meth c n0 Q cells slots h pn Ls (.int z :: st)) : own_Go p l e R s m args below meth c n0 Q cells slots h pc Ls (.ref a :: st) := by
  obtain ⟨cl, A, rfl, hv⟩ := A
  refine own_arraylength C d A ?_
  have hsz : cl.slots.size = vs.length := by rw [hv]; simp
  rw [hsz, hz]; exact k
theorem own_getClass (C : own_Cx p l e R s m args below meth c Z own nm bytes maxL ret) {i : Nat} {K : String} {a mir : Addr} (d : own_D bytes pc (.invokevirtual i) 3 pn) (w1 : (Jvm.Cond.methodLink own i ⟨"java/lang/Object", "getClass", "()Ljava/lang/Class;"⟩).before a0 Z = true) (w2 : (Jvm.Cond.declares ⟨"java/lang/Object", "getClass", "()Ljava/lang/Class;"⟩).before a0 Z = true) (w3 : (Jvm.Cond.selects K ⟨"java/lang/Object", "getClass", "()Ljava/lang/Class;"⟩ ⟨"java/lang/Object", "getClass", "()Ljava/lang/Class;"⟩).before a0 Z = true)
    (w4 : (Jvm.Cond.instanceMethod ⟨"java/lang/Object", "getClass", "()Ljava/lang/Class;"⟩).before a0 Z = true) (w5 : (Jvm.Cond.native ⟨"java/lang/Object", "getClass", "()Ljava/lang/Class;"⟩).before a0 Z = true) (E : Exa Z h a K) (M : ∃ (cc : ClassId) (kc : Class), Z.vm.findClass K = some cc ∧ Z.vm.classes[cc]? = some kc ∧ kc.mirror = some mir) (hLs : Ls.length = maxL) (hfr : 1 ≤ R.frames) (hlo : (st.map fun v => v.category).sum + (nativeFrameWords "java/lang/Object" "getClass" 1 + 11) ≤ R.locals)
    (k : own_Go p l e R s m args below meth c n0 Q cells slots h pn Ls (.ref mir :: st)) : own_Go p l e R s m args below meth c n0 Q cells slots h pc Ls (.ref a :: st) := by
  obtain ⟨hd, rfl⟩ := d
  refine own_warm (fun T locs ce sl X eT => ?_) k
  obtain ⟨cB, kB, i1, i2, i3⟩ := isOf C.2.1 eT E
  obtain ⟨cc, kc, m1, m2, m3⟩ := M
  rw [C.2.1.alike.findClass] at i1
  cases i1.symm.trans m1
  obtain ⟨k', q, ek⟩ := C.2.1.alike.2.2 _ _ m2
  obtain ⟨vm', X', st'⟩ := X.getClassOf C.1 C.2.2.1 (mvT C.2.1 w1) (mvT C.2.1 w2) (own_nf (args := #[]) C.2.1 w3) (mvT C.2.1 w3) (mvT C.2.1 w4) (mvT C.2.1 w5) (by rw [C.2.1.alike.findClass]; exact m1) i3 q (by rw [ek]; exact m3) (g := mkF m pc Ls.toArray (.ref a :: st)) rfl (by rw [C.2.2.2.2.1]; simpa using hLs) rfl (hb C.2.2.2.1 hd) hfr (by simpa using hlo)
  exact ⟨_, X', eT, st'⟩
theorem own_len {t : Term} {a : Addr} {cl : Cell} {ty : FieldType} {n : Int32} {k : Nat} (hn : n.toNatClampNeg = k) (hw : (Jvm.Cond.eq (Term.length t) (Term.int n)).value args Z none Z [] = some true) (ht : t.eval args Z none [] Z = some (.ref a)) (A : Arr Z Z.heap a cl ty) : cl.slots.size = k := by
  obtain ⟨x, y, e1, e2, -, -⟩ := cmp_v (Or.inl hw)
  have hx := e1
  simp only [Term.eval, ht, Option.bind_eq_bind, Option.bind_some] at e1
  rw [A.fin (Vm.Alike.refl _)] at e1
  simp only [Option.bind_some] at e1
  split at e1
  · rename_i q
    cases e1
    have h2 := gotT (Cond.eq_ints hx (show (Term.int n).eval args Z none [] Z = some (.int n) from rfl)) hw
    have h3 : cl.slots.size.toInt32.toNatClampNeg = cl.slots.size := by
      show (cl.slots.size.toInt32.toInt).toNat = cl.slots.size
      rw [len_toInt q]; rfl
    rw [h2, hn] at h3
    exact h3.symm
  · cases e1
theorem own_elem {t u : Term} {a b : Addr} {cl : Cell} {ty : FieldType} {j : Int32} {k : Nat} (hk : j.toNatClampNeg = k) (hw : (Jvm.Cond.eq (Term.elem t (Term.int j)) u).value args Z none Z [] = some true) (ht : t.eval args Z none [] Z = some (.ref a)) (A : Arr Z Z.heap a cl ty) (hu : u.eval args Z none [] Z = some (.ref b)) : cl.slots[k]? = some (.ref b) := by
  subst hk
  obtain ⟨x, y, e1, e2, k1, k2⟩ := cmp_v (Or.inl hw)
  cases hu.symm.trans e2
  obtain ⟨-, e4⟩ := elem_in e1 ht rfl A.1
  rw [e4]
  simp only [Jvm.Cond.value, e1, e2] at hw
  cases x <;> simp_all [Kin, Value.isRef]
theorem own_callU (C : own_Cx p l e R s m args below meth c Z own nm bytes maxL ret) {i : Nat} {a : Addr} {Kc owner : String} {z : MethodName} {y : MethodName} {bytes' : ByteArray} {maxL' : Nat} {ret' : Option FieldType} {rm : Room} {as' : List Value} {Qc : Option Value → Heap → Prop} (K : own_Con l Z z bytes' maxL' ret' rm n0 (.ref a :: as') h Qc) (E : Exa Z h a Kc) (d : own_D bytes pc (.invokevirtual i) 3 pn) (w1 : (Jvm.Cond.methodLink own i y).before a0 Z = true) (w2 : (Jvm.Cond.sameMethod y.cls owner y.name y.desc).before a0 Z = true) (w2' : (Jvm.Cond.declares ⟨owner, y.name, y.desc⟩).before a0 Z = true) (w3 : (Jvm.Cond.selects Kc y z).before a0 Z = true) (w4 : (Jvm.Cond.instanceMethod z).before a0 Z = true) (w5 : (Jvm.Cond.code z bytes' maxL' ret').before a0 Z = true) (w6 : (Jvm.Cond.initialized z.cls).before a0 Z = true)
    (hy : owner ≠ "java/lang/invoke/MethodHandle" ∧ owner ≠ "java/lang/invoke/VarHandle") {ps : List FieldType} {r : Option FieldType} (hp : parseMethodDescriptor y.desc = some ⟨ps, r⟩) (hn : as'.length = ps.length) (hst : st = as'.reverse ++ .ref a :: rest) (hLs : Ls.length = maxL) (hfr : rm.frames + 1 ≤ R.frames) (hlo : (rest.map fun v => v.category).sum + (maxL' + 11) + rm.locals ≤ R.locals) (hc : cells + rm.cells ≤ R.cells) (hs : slots + rm.slots ≤ R.slots)
    (k : ∀ v h', Qc v h' → own_Go p l e R s m args below meth c n0 Q (cells + rm.cells) (slots + rm.slots) h' pn Ls (v.toList ++ rest)) : own_Go p l e R s m args below meth c n0 Q cells slots h pc Ls st := by
  obtain ⟨hd, rfl⟩ := d
  intro T locs ce sl h1 h2 hf X eT
  obtain ⟨cB, kB, qa, qb, qc⟩ := isOf C.2.1 eT E
  obtain ⟨v, _, ⟨T', L', k', n'⟩, -, X', ⟨Lc, hq, l', y', z'⟩, st'⟩ := X.virtualBackUp C.1 (x := y) (y := z) C.2.2.1 (mvT C.2.1 w1) (mvT C.2.1 w2) (mvT C.2.1 w2') hy (mvT C.2.1 w3) (mvT C.2.1 w4) (backOf (W := (rest.map fun v => v.category).sum) (Q := fun v h L => Qc v h ∧ Fr n0 L) (K []) C.2.1 w5 w6 hfr hlo) qa qc (g := mkF m pc Ls.toArray st) rfl (by rw [C.2.2.2.2.1]; simpa using hLs) (Steps.refl _) (argsL := as') (rest := rest) (lenOf hp hn) hst (by simp) (hb C.2.2.2.1 hd) (fun _ _ => ⟨rfl, eT, Nat.le_trans (Nat.add_le_add_right h1 _) hc, Nat.le_trans (Nat.add_le_add_right h2 _) hs⟩)
  dsimp only [Pt.U, Pt.locs, Pt.cells, Pt.slots] at X' l' y' z' st' hq
  subst l' y' z'
  obtain ⟨s₂, o, g1, g2⟩ := k v T'.heap hq.1 T' _ _ _ (by omega) (by omega) (Fr.app hf hq.2) X' rfl
  exact ⟨s₂, o, st'.trans g1, g2⟩
theorem own_callF (C : own_Cx p l e R s m args below meth c Z own nm bytes maxL ret) {i n : Nat} {a : Addr} {Kc : String} {z : MethodName} {y : MethodName} {bytes' : ByteArray} {maxL' : Nat} {ret' : Option FieldType} {rm : Room} {as' : List Value} {Qc : Option Value → Heap → Prop} (K : own_Con l Z z bytes' maxL' ret' rm n0 (.ref a :: as') h Qc) (E : Exa Z h a Kc) (d : own_D bytes pc (.invokeinterface i n) 5 pn) (w1 : (Jvm.Cond.methodLink own i y).before a0 Z = true) (w2 : (Jvm.Cond.declares y).before a0 Z = true) (w2' : (Jvm.Cond.interfaceMethod y.cls y.cls y.name y.desc).before a0 Z = true) (hfa : ((Jvm.Cond.interfaceMethod y.cls y.cls y.name y.desc).onTables && (Jvm.Cond.interfaceMethod y.cls y.cls y.name y.desc).keepsFace) = true) (w3 : (Jvm.Cond.selects Kc y z).before a0 Z = true) (w4 : (Jvm.Cond.instanceMethod z).before a0 Z = true) (w7 : (Jvm.Cond.publicMethod z).before a0 Z = true) (w8 : (Jvm.Cond.unhidden Kc y.name y.desc).before a0 Z = true) (w9 : (Jvm.Cond.castable Kc y.cls).before a0 Z = true) (w5 : (Jvm.Cond.code z bytes' maxL' ret').before a0 Z = true) (w6 : (Jvm.Cond.initialized z.cls).before a0 Z = true)
    (hy : y.cls ≠ "java/lang/invoke/MethodHandle" ∧ y.cls ≠ "java/lang/invoke/VarHandle") {ps : List FieldType} {r : Option FieldType} (hp : parseMethodDescriptor y.desc = some ⟨ps, r⟩) (hn : as'.length = ps.length) (hst : st = as'.reverse ++ .ref a :: rest) (hLs : Ls.length = maxL) (hfr : rm.frames + 1 ≤ R.frames) (hlo : (rest.map fun v => v.category).sum + (maxL' + 11) + rm.locals ≤ R.locals) (hc : cells + rm.cells ≤ R.cells) (hs : slots + rm.slots ≤ R.slots)
    (k : ∀ v h', Qc v h' → own_Go p l e R s m args below meth c n0 Q (cells + rm.cells) (slots + rm.slots) h' pn Ls (v.toList ++ rest)) : own_Go p l e R s m args below meth c n0 Q cells slots h pc Ls st := by
  obtain ⟨hd, rfl⟩ := d
  intro T locs ce sl h1 h2 hf X eT
  obtain ⟨cB, kB, qa, qb, qc⟩ := isOf C.2.1 eT E
  obtain ⟨v, _, ⟨T', L', k', n'⟩, -, X', ⟨Lc, hq, l', y', z'⟩, st'⟩ := X.interfaceBack C.1 (xi := y) (y := z) C.2.2.1 (mvT C.2.1 w1) (mvT C.2.1 w2) (mvT C.2.1 w2' hfa) (mvT C.2.1 w3) (mvT C.2.1 w4) (mvT C.2.1 w7) (mvT C.2.1 w8) (mvT C.2.1 w9) hy (backOf (W := (rest.map fun v => v.category).sum) (Q := fun v h L => Qc v h ∧ Fr n0 L) (K []) C.2.1 w5 w6 hfr hlo) qa qb qc (g := mkF m pc Ls.toArray st) rfl (by rw [C.2.2.2.2.1]; simpa using hLs) (Steps.refl _) (argsL := as') (rest := rest) (lenOf hp hn) hst (by simp) (hb C.2.2.2.1 hd) (fun _ _ => ⟨rfl, eT, Nat.le_trans (Nat.add_le_add_right h1 _) hc, Nat.le_trans (Nat.add_le_add_right h2 _) hs⟩)
  dsimp only [Pt.U, Pt.locs, Pt.cells, Pt.slots] at X' l' y' z' st' hq
  subst l' y' z'
  obtain ⟨s₂, o, g1, g2⟩ := k v T'.heap hq.1 T' _ _ _ (by omega) (by omega) (Fr.app hf hq.2) X' rfl
  exact ⟨s₂, o, st'.trans g1, g2⟩
end OwnKit
end Jvm.RoadKit
namespace Jvm.Pilot.@@N@@
open Jvm Jvm.ClassFile Sem Op Lib Jvm.Free Jvm.Stand Jvm.LawKit Jvm.RoadKit Bundle Jvm.Pilot.@@N@@.Jvm.D

theorem d0_0 : own_D code 0 (.iload_n 0) 1 1 := ⟨at_0, rfl⟩
theorem d0_1 : own_D code 1 (.bipush 15) 2 3 := ⟨at_1, rfl⟩
theorem d0_3 : own_D code 3 (.iand) 1 4 := ⟨at_3, rfl⟩
theorem d0_4 : own_D code 4 (.istore_n 1) 1 5 := ⟨at_4, rfl⟩
theorem d0_5 : own_D code 5 (.iload_n 1) 1 6 := ⟨at_5, rfl⟩
theorem d0_6 : own_D code 6 (.invokestatic 67) 3 9 := ⟨at_6, rfl⟩
theorem d0_9 : own_D code 9 (.astore_n 2) 1 10 := ⟨at_9, rfl⟩
theorem d0_10 : own_D code 10 (.aload_n 2) 1 11 := ⟨at_10, rfl⟩
theorem d0_11 : own_D code 11 (.invokestatic 73) 3 14 := ⟨at_11, rfl⟩
theorem d0_14 : own_D code 14 (.astore_n 3) 1 15 := ⟨at_14, rfl⟩
theorem d0_15 : own_D code 15 (.aload_n 3) 1 16 := ⟨at_15, rfl⟩
theorem d0_16 : own_D code 16 (.iload_n 1) 1 17 := ⟨at_16, rfl⟩
theorem d0_17 : own_D code 17 (.invokestatic 77) 3 20 := ⟨at_17, rfl⟩
theorem d0_20 : own_D code 20 (.if_acmp .eq 5) 3 23 := ⟨at_20, rfl⟩
theorem t0_20 : own_T 20 (5) 25 := ⟨by decide, by decide⟩
theorem d0_23 : own_D code 23 (.iconst 0) 1 24 := ⟨at_23, rfl⟩
theorem d0_24 : own_D code 24 (.ireturn) 1 25 := ⟨at_24, rfl⟩
theorem d0_25 : own_D code 25 (.aload_n 3) 1 26 := ⟨at_25, rfl⟩
theorem d0_26 : own_D code 26 (.ifnull 13) 3 29 := ⟨at_26, rfl⟩
theorem t0_26 : own_T 26 (13) 39 := ⟨by decide, by decide⟩
theorem d0_29 : own_D code 29 (.aload_n 3) 1 30 := ⟨at_29, rfl⟩
theorem d0_30 : own_D code 30 (.getfield 81) 3 33 := ⟨at_30, rfl⟩
theorem d0_33 : own_D code 33 (.aload_n 2) 1 34 := ⟨at_33, rfl⟩
theorem d0_34 : own_D code 34 (.if_acmp .eq 5) 3 37 := ⟨at_34, rfl⟩
theorem t0_34 : own_T 34 (5) 39 := ⟨by decide, by decide⟩
theorem d0_37 : own_D code 37 (.iconst 0) 1 38 := ⟨at_37, rfl⟩
theorem d0_38 : own_D code 38 (.ireturn) 1 39 := ⟨at_38, rfl⟩
theorem d0_39 : own_D code 39 (.iconst 1) 1 40 := ⟨at_39, rfl⟩
theorem d0_40 : own_D code 40 (.ireturn) 1 41 := ⟨at_40, rfl⟩
theorem pd0 : parseMethodDescriptor "(I)Z" = some ⟨[.int], some .boolean⟩ := by decide +kernel
theorem pn0 : plainFor x = true := plainFor_of_name (x := x) (show plainName "com/example/keystone_script/keystonescript/compiler/NavigationOfPinLaw" = true by first | (simp [plainName, overriddenIn]; done) | decide +kernel)
theorem d1_0 : own_D method_2_code 0 (.iload_n 0) 1 1 := ⟨by decide +kernel, rfl⟩
theorem d1_1 : own_D method_2_code 1 (.ifCond .ne 7) 3 4 := ⟨by decide +kernel, rfl⟩
theorem t1_1 : own_T 1 (7) 8 := ⟨by decide, by decide⟩
theorem d1_4 : own_D method_2_code 4 (.getstatic 7) 3 7 := ⟨by decide +kernel, rfl⟩
theorem d1_7 : own_D method_2_code 7 (.areturn) 1 8 := ⟨by decide +kernel, rfl⟩
theorem d1_8 : own_D method_2_code 8 (.iload_n 0) 1 9 := ⟨by decide +kernel, rfl⟩
theorem d1_9 : own_D method_2_code 9 (.iconst 1) 1 10 := ⟨by decide +kernel, rfl⟩
theorem d1_10 : own_D method_2_code 10 (.if_icmp .ne 7) 3 13 := ⟨by decide +kernel, rfl⟩
theorem t1_10 : own_T 10 (7) 17 := ⟨by decide, by decide⟩
theorem d1_13 : own_D method_2_code 13 (.getstatic 13) 3 16 := ⟨by decide +kernel, rfl⟩
theorem d1_16 : own_D method_2_code 16 (.areturn) 1 17 := ⟨by decide +kernel, rfl⟩
theorem d1_17 : own_D method_2_code 17 (.iload_n 0) 1 18 := ⟨by decide +kernel, rfl⟩
theorem d1_18 : own_D method_2_code 18 (.iconst 2) 1 19 := ⟨by decide +kernel, rfl⟩
theorem d1_19 : own_D method_2_code 19 (.if_icmp .ne 7) 3 22 := ⟨by decide +kernel, rfl⟩
theorem t1_19 : own_T 19 (7) 26 := ⟨by decide, by decide⟩
theorem d1_22 : own_D method_2_code 22 (.getstatic 16) 3 25 := ⟨by decide +kernel, rfl⟩
theorem d1_25 : own_D method_2_code 25 (.areturn) 1 26 := ⟨by decide +kernel, rfl⟩
theorem d1_26 : own_D method_2_code 26 (.iload_n 0) 1 27 := ⟨by decide +kernel, rfl⟩
theorem d1_27 : own_D method_2_code 27 (.iconst 3) 1 28 := ⟨by decide +kernel, rfl⟩
theorem d1_28 : own_D method_2_code 28 (.if_icmp .ne 7) 3 31 := ⟨by decide +kernel, rfl⟩
theorem t1_28 : own_T 28 (7) 35 := ⟨by decide, by decide⟩
theorem d1_31 : own_D method_2_code 31 (.getstatic 19) 3 34 := ⟨by decide +kernel, rfl⟩
theorem d1_34 : own_D method_2_code 34 (.areturn) 1 35 := ⟨by decide +kernel, rfl⟩
theorem d1_35 : own_D method_2_code 35 (.iload_n 0) 1 36 := ⟨by decide +kernel, rfl⟩
theorem d1_36 : own_D method_2_code 36 (.iconst 4) 1 37 := ⟨by decide +kernel, rfl⟩
theorem d1_37 : own_D method_2_code 37 (.if_icmp .ne 5) 3 40 := ⟨by decide +kernel, rfl⟩
theorem t1_37 : own_T 37 (5) 42 := ⟨by decide, by decide⟩
theorem d1_40 : own_D method_2_code 40 (.aconst_null) 1 41 := ⟨by decide +kernel, rfl⟩
theorem d1_41 : own_D method_2_code 41 (.areturn) 1 42 := ⟨by decide +kernel, rfl⟩
theorem d1_42 : own_D method_2_code 42 (.iload_n 0) 1 43 := ⟨by decide +kernel, rfl⟩
theorem d1_43 : own_D method_2_code 43 (.iconst 5) 1 44 := ⟨by decide +kernel, rfl⟩
theorem d1_44 : own_D method_2_code 44 (.if_icmp .ne 7) 3 47 := ⟨by decide +kernel, rfl⟩
theorem t1_44 : own_T 44 (7) 51 := ⟨by decide, by decide⟩
theorem d1_47 : own_D method_2_code 47 (.getstatic 22) 3 50 := ⟨by decide +kernel, rfl⟩
theorem d1_50 : own_D method_2_code 50 (.areturn) 1 51 := ⟨by decide +kernel, rfl⟩
theorem d1_51 : own_D method_2_code 51 (.iload_n 0) 1 52 := ⟨by decide +kernel, rfl⟩
theorem d1_52 : own_D method_2_code 52 (.bipush 6) 2 54 := ⟨by decide +kernel, rfl⟩
theorem d1_54 : own_D method_2_code 54 (.if_icmp .ne 7) 3 57 := ⟨by decide +kernel, rfl⟩
theorem t1_54 : own_T 54 (7) 61 := ⟨by decide, by decide⟩
theorem d1_57 : own_D method_2_code 57 (.getstatic 25) 3 60 := ⟨by decide +kernel, rfl⟩
theorem d1_60 : own_D method_2_code 60 (.areturn) 1 61 := ⟨by decide +kernel, rfl⟩
theorem d1_61 : own_D method_2_code 61 (.iload_n 0) 1 62 := ⟨by decide +kernel, rfl⟩
theorem d1_62 : own_D method_2_code 62 (.bipush 7) 2 64 := ⟨by decide +kernel, rfl⟩
theorem d1_64 : own_D method_2_code 64 (.if_icmp .ne 7) 3 67 := ⟨by decide +kernel, rfl⟩
theorem t1_64 : own_T 64 (7) 71 := ⟨by decide, by decide⟩
theorem d1_67 : own_D method_2_code 67 (.getstatic 28) 3 70 := ⟨by decide +kernel, rfl⟩
theorem d1_70 : own_D method_2_code 70 (.areturn) 1 71 := ⟨by decide +kernel, rfl⟩
theorem d1_71 : own_D method_2_code 71 (.iload_n 0) 1 72 := ⟨by decide +kernel, rfl⟩
theorem d1_72 : own_D method_2_code 72 (.bipush 8) 2 74 := ⟨by decide +kernel, rfl⟩
theorem d1_74 : own_D method_2_code 74 (.if_icmp .ne 7) 3 77 := ⟨by decide +kernel, rfl⟩
theorem t1_74 : own_T 74 (7) 81 := ⟨by decide, by decide⟩
theorem d1_77 : own_D method_2_code 77 (.getstatic 31) 3 80 := ⟨by decide +kernel, rfl⟩
theorem d1_80 : own_D method_2_code 80 (.areturn) 1 81 := ⟨by decide +kernel, rfl⟩
theorem d1_81 : own_D method_2_code 81 (.iload_n 0) 1 82 := ⟨by decide +kernel, rfl⟩
theorem d1_82 : own_D method_2_code 82 (.bipush 9) 2 84 := ⟨by decide +kernel, rfl⟩
theorem d1_84 : own_D method_2_code 84 (.if_icmp .ne 7) 3 87 := ⟨by decide +kernel, rfl⟩
theorem t1_84 : own_T 84 (7) 91 := ⟨by decide, by decide⟩
theorem d1_87 : own_D method_2_code 87 (.getstatic 34) 3 90 := ⟨by decide +kernel, rfl⟩
theorem d1_90 : own_D method_2_code 90 (.areturn) 1 91 := ⟨by decide +kernel, rfl⟩
theorem d1_91 : own_D method_2_code 91 (.iload_n 0) 1 92 := ⟨by decide +kernel, rfl⟩
theorem d1_92 : own_D method_2_code 92 (.bipush 10) 2 94 := ⟨by decide +kernel, rfl⟩
theorem d1_94 : own_D method_2_code 94 (.if_icmp .ne 7) 3 97 := ⟨by decide +kernel, rfl⟩
theorem t1_94 : own_T 94 (7) 101 := ⟨by decide, by decide⟩
theorem d1_97 : own_D method_2_code 97 (.getstatic 37) 3 100 := ⟨by decide +kernel, rfl⟩
theorem d1_100 : own_D method_2_code 100 (.areturn) 1 101 := ⟨by decide +kernel, rfl⟩
theorem d1_101 : own_D method_2_code 101 (.iload_n 0) 1 102 := ⟨by decide +kernel, rfl⟩
theorem d1_102 : own_D method_2_code 102 (.bipush 11) 2 104 := ⟨by decide +kernel, rfl⟩
theorem d1_104 : own_D method_2_code 104 (.if_icmp .ne 7) 3 107 := ⟨by decide +kernel, rfl⟩
theorem t1_104 : own_T 104 (7) 111 := ⟨by decide, by decide⟩
theorem d1_107 : own_D method_2_code 107 (.getstatic 40) 3 110 := ⟨by decide +kernel, rfl⟩
theorem d1_110 : own_D method_2_code 110 (.areturn) 1 111 := ⟨by decide +kernel, rfl⟩
theorem d1_111 : own_D method_2_code 111 (.iload_n 0) 1 112 := ⟨by decide +kernel, rfl⟩
theorem d1_112 : own_D method_2_code 112 (.bipush 12) 2 114 := ⟨by decide +kernel, rfl⟩
theorem d1_114 : own_D method_2_code 114 (.if_icmp .ne 7) 3 117 := ⟨by decide +kernel, rfl⟩
theorem t1_114 : own_T 114 (7) 121 := ⟨by decide, by decide⟩
theorem d1_117 : own_D method_2_code 117 (.getstatic 43) 3 120 := ⟨by decide +kernel, rfl⟩
theorem d1_120 : own_D method_2_code 120 (.areturn) 1 121 := ⟨by decide +kernel, rfl⟩
theorem d1_121 : own_D method_2_code 121 (.iload_n 0) 1 122 := ⟨by decide +kernel, rfl⟩
theorem d1_122 : own_D method_2_code 122 (.bipush 13) 2 124 := ⟨by decide +kernel, rfl⟩
theorem d1_124 : own_D method_2_code 124 (.if_icmp .ne 7) 3 127 := ⟨by decide +kernel, rfl⟩
theorem t1_124 : own_T 124 (7) 131 := ⟨by decide, by decide⟩
theorem d1_127 : own_D method_2_code 127 (.getstatic 46) 3 130 := ⟨by decide +kernel, rfl⟩
theorem d1_130 : own_D method_2_code 130 (.areturn) 1 131 := ⟨by decide +kernel, rfl⟩
theorem d1_131 : own_D method_2_code 131 (.iload_n 0) 1 132 := ⟨by decide +kernel, rfl⟩
theorem d1_132 : own_D method_2_code 132 (.bipush 14) 2 134 := ⟨by decide +kernel, rfl⟩
theorem d1_134 : own_D method_2_code 134 (.if_icmp .ne 7) 3 137 := ⟨by decide +kernel, rfl⟩
theorem t1_134 : own_T 134 (7) 141 := ⟨by decide, by decide⟩
theorem d1_137 : own_D method_2_code 137 (.getstatic 49) 3 140 := ⟨by decide +kernel, rfl⟩
theorem d1_140 : own_D method_2_code 140 (.areturn) 1 141 := ⟨by decide +kernel, rfl⟩
theorem d1_141 : own_D method_2_code 141 (.getstatic 52) 3 144 := ⟨by decide +kernel, rfl⟩
theorem d1_144 : own_D method_2_code 144 (.areturn) 1 145 := ⟨by decide +kernel, rfl⟩
theorem pd1 : parseMethodDescriptor "(I)Lcom/example/keystone_script/keystonescript/compiler/TokenType;" = some ⟨[.int], some (.object "com/example/keystone_script/keystonescript/compiler/TokenType")⟩ := by decide +kernel
theorem pn1 : plainFor (⟨"com/example/keystone_script/keystonescript/compiler/NavigationOfPinLaw", "token", "(I)Lcom/example/keystone_script/keystonescript/compiler/TokenType;"⟩ : MethodName) = true := plainFor_of_name (x := (⟨"com/example/keystone_script/keystonescript/compiler/NavigationOfPinLaw", "token", "(I)Lcom/example/keystone_script/keystonescript/compiler/TokenType;"⟩ : MethodName)) (show plainName "com/example/keystone_script/keystonescript/compiler/NavigationOfPinLaw" = true by first | (simp [plainName, overriddenIn]; done) | decide +kernel)
theorem d2_0 : own_D prog_56_method_4_code 0 (.getstatic 36) 3 3 := ⟨by decide +kernel, rfl⟩
theorem d2_3 : own_D prog_56_method_4_code 3 (.astore_n 1) 1 4 := ⟨by decide +kernel, rfl⟩
theorem d2_4 : own_D prog_56_method_4_code 4 (.aload_n 1) 1 5 := ⟨by decide +kernel, rfl⟩
theorem d2_5 : own_D prog_56_method_4_code 5 (.arraylength) 1 6 := ⟨by decide +kernel, rfl⟩
theorem d2_6 : own_D prog_56_method_4_code 6 (.istore_n 2) 1 7 := ⟨by decide +kernel, rfl⟩
theorem d2_7 : own_D prog_56_method_4_code 7 (.iconst 0) 1 8 := ⟨by decide +kernel, rfl⟩
theorem d2_8 : own_D prog_56_method_4_code 8 (.istore_n 3) 1 9 := ⟨by decide +kernel, rfl⟩
theorem d2_9 : own_D prog_56_method_4_code 9 (.iload_n 3) 1 10 := ⟨by decide +kernel, rfl⟩
theorem d2_10 : own_D prog_56_method_4_code 10 (.iload_n 2) 1 11 := ⟨by decide +kernel, rfl⟩
theorem d2_11 : own_D prog_56_method_4_code 11 (.if_icmp .ge 26) 3 14 := ⟨by decide +kernel, rfl⟩
theorem t2_11 : own_T 11 (26) 37 := ⟨by decide, by decide⟩
theorem d2_14 : own_D prog_56_method_4_code 14 (.aload_n 1) 1 15 := ⟨by decide +kernel, rfl⟩
theorem d2_15 : own_D prog_56_method_4_code 15 (.iload_n 3) 1 16 := ⟨by decide +kernel, rfl⟩
theorem d2_16 : own_D prog_56_method_4_code 16 (.aaload) 1 17 := ⟨by decide +kernel, rfl⟩
theorem d2_17 : own_D prog_56_method_4_code 17 (.astore 4) 2 19 := ⟨by decide +kernel, rfl⟩
theorem d2_19 : own_D prog_56_method_4_code 19 (.aload 4) 2 21 := ⟨by decide +kernel, rfl⟩
theorem d2_21 : own_D prog_56_method_4_code 21 (.getfield 32) 3 24 := ⟨by decide +kernel, rfl⟩
theorem d2_24 : own_D prog_56_method_4_code 24 (.aload_n 0) 1 25 := ⟨by decide +kernel, rfl⟩
theorem d2_25 : own_D prog_56_method_4_code 25 (.if_acmp .ne 6) 3 28 := ⟨by decide +kernel, rfl⟩
theorem t2_25 : own_T 25 (6) 31 := ⟨by decide, by decide⟩
theorem d2_28 : own_D prog_56_method_4_code 28 (.aload 4) 2 30 := ⟨by decide +kernel, rfl⟩
theorem d2_30 : own_D prog_56_method_4_code 30 (.areturn) 1 31 := ⟨by decide +kernel, rfl⟩
theorem d2_31 : own_D prog_56_method_4_code 31 (.iinc 3 1) 3 34 := ⟨by decide +kernel, rfl⟩
theorem d2_34 : own_D prog_56_method_4_code 34 (.goto (-25)) 3 37 := ⟨by decide +kernel, rfl⟩
theorem t2_34 : own_T 34 (-25) 9 := ⟨by decide, by decide⟩
theorem d2_37 : own_D prog_56_method_4_code 37 (.aconst_null) 1 38 := ⟨by decide +kernel, rfl⟩
theorem d2_38 : own_D prog_56_method_4_code 38 (.areturn) 1 39 := ⟨by decide +kernel, rfl⟩
theorem pd2 : parseMethodDescriptor "(Lcom/example/keystone_script/keystonescript/compiler/TokenType;)Lcom/example/keystone_script/keystonescript/compiler/Navigation;" = some ⟨[(.object "com/example/keystone_script/keystonescript/compiler/TokenType")], some (.object "com/example/keystone_script/keystonescript/compiler/Navigation")⟩ := by decide +kernel
theorem pn2 : plainFor (⟨"com/example/keystone_script/keystonescript/compiler/Navigation", "of", "(Lcom/example/keystone_script/keystonescript/compiler/TokenType;)Lcom/example/keystone_script/keystonescript/compiler/Navigation;"⟩ : MethodName) = true := plainFor_of_name (x := (⟨"com/example/keystone_script/keystonescript/compiler/Navigation", "of", "(Lcom/example/keystone_script/keystonescript/compiler/TokenType;)Lcom/example/keystone_script/keystonescript/compiler/Navigation;"⟩ : MethodName)) (show plainName "com/example/keystone_script/keystonescript/compiler/Navigation" = true by first | (simp [plainName, overriddenIn]; done) | decide +kernel)
theorem d3_0 : own_D method_3_code 0 (.iload_n 0) 1 1 := ⟨by decide +kernel, rfl⟩
theorem d3_1 : own_D method_3_code 1 (.ifCond .ne 7) 3 4 := ⟨by decide +kernel, rfl⟩
theorem t3_1 : own_T 1 (7) 8 := ⟨by decide, by decide⟩
theorem d3_4 : own_D method_3_code 4 (.getstatic 55) 3 7 := ⟨by decide +kernel, rfl⟩
theorem d3_7 : own_D method_3_code 7 (.areturn) 1 8 := ⟨by decide +kernel, rfl⟩
theorem d3_8 : own_D method_3_code 8 (.iload_n 0) 1 9 := ⟨by decide +kernel, rfl⟩
theorem d3_9 : own_D method_3_code 9 (.iconst 1) 1 10 := ⟨by decide +kernel, rfl⟩
theorem d3_10 : own_D method_3_code 10 (.if_icmp .ne 7) 3 13 := ⟨by decide +kernel, rfl⟩
theorem t3_10 : own_T 10 (7) 17 := ⟨by decide, by decide⟩
theorem d3_13 : own_D method_3_code 13 (.getstatic 61) 3 16 := ⟨by decide +kernel, rfl⟩
theorem d3_16 : own_D method_3_code 16 (.areturn) 1 17 := ⟨by decide +kernel, rfl⟩
theorem d3_17 : own_D method_3_code 17 (.iload_n 0) 1 18 := ⟨by decide +kernel, rfl⟩
theorem d3_18 : own_D method_3_code 18 (.iconst 2) 1 19 := ⟨by decide +kernel, rfl⟩
theorem d3_19 : own_D method_3_code 19 (.if_icmp .ne 7) 3 22 := ⟨by decide +kernel, rfl⟩
theorem t3_19 : own_T 19 (7) 26 := ⟨by decide, by decide⟩
theorem d3_22 : own_D method_3_code 22 (.getstatic 64) 3 25 := ⟨by decide +kernel, rfl⟩
theorem d3_25 : own_D method_3_code 25 (.areturn) 1 26 := ⟨by decide +kernel, rfl⟩
theorem d3_26 : own_D method_3_code 26 (.aconst_null) 1 27 := ⟨by decide +kernel, rfl⟩
theorem d3_27 : own_D method_3_code 27 (.areturn) 1 28 := ⟨by decide +kernel, rfl⟩
theorem pd3 : parseMethodDescriptor "(I)Lcom/example/keystone_script/keystonescript/compiler/Navigation;" = some ⟨[.int], some (.object "com/example/keystone_script/keystonescript/compiler/Navigation")⟩ := by decide +kernel
theorem pn3 : plainFor (⟨"com/example/keystone_script/keystonescript/compiler/NavigationOfPinLaw", "expected", "(I)Lcom/example/keystone_script/keystonescript/compiler/Navigation;"⟩ : MethodName) = true := plainFor_of_name (x := (⟨"com/example/keystone_script/keystonescript/compiler/NavigationOfPinLaw", "expected", "(I)Lcom/example/keystone_script/keystonescript/compiler/Navigation;"⟩ : MethodName)) (show plainName "com/example/keystone_script/keystonescript/compiler/NavigationOfPinLaw" = true by first | (simp [plainName, overriddenIn]; done) | decide +kernel)
set_option maxRecDepth 65536 in
set_option maxHeartbeats 40000000 in
theorem own_token_0 (l : Launch) (Z : State) (a0 : Array Value) (hw : ∀ d ∈ tables_1, d.before a0 Z = true) (n0 : Nat) (h : Heap) (a : Addr) (S_DOT : Sta Z h "com/example/keystone_script/keystonescript/compiler/TokenType" "DOT" "Lcom/example/keystone_script/keystonescript/compiler/TokenType;" (.ref a)) : own_Con l Z (⟨"com/example/keystone_script/keystonescript/compiler/NavigationOfPinLaw", "token", "(I)Lcom/example/keystone_script/keystonescript/compiler/TokenType;"⟩ : MethodName) method_2_code 1 (some (.object "com/example/keystone_script/keystonescript/compiler/TokenType")) ({ frames := 0, cells := 0, slots := 0, locals := 0 } : Room) n0 [(.int (0 : Int32))] h (fun v h' => v = some (.ref a) ∧ h = h') := by
  refine own_Con.mk (Ls := [.val (.int (0 : Int32))]) pn1 (fun m => by first | (simp [entryFrame, mkF, argsToLocals, Value.category]; done) | rfl) ?_
  intro p e s m below meth c C
  refine own_iloadN C d1_0 rfl ?_
  refine own_ifne C d1_1 t1_1 (fun h' => absurd h' (by decide)) (fun _ => ?_)
  refine own_getS C d1_4 (hw _ (List.mem_of_getElem? (i := 4) rfl)) S_DOT ?_
  exact own_retA C d1_7 rfl rfl (by decide) (by decide) ⟨rfl, rfl⟩
set_option maxRecDepth 65536 in
set_option maxHeartbeats 40000000 in
theorem own_token_1 (l : Launch) (Z : State) (a0 : Array Value) (hw : ∀ d ∈ tables_1, d.before a0 Z = true) (n0 : Nat) (h : Heap) (a : Addr) (S_SAFE_DOT : Sta Z h "com/example/keystone_script/keystonescript/compiler/TokenType" "SAFE_DOT" "Lcom/example/keystone_script/keystonescript/compiler/TokenType;" (.ref a)) : own_Con l Z (⟨"com/example/keystone_script/keystonescript/compiler/NavigationOfPinLaw", "token", "(I)Lcom/example/keystone_script/keystonescript/compiler/TokenType;"⟩ : MethodName) method_2_code 1 (some (.object "com/example/keystone_script/keystonescript/compiler/TokenType")) ({ frames := 0, cells := 0, slots := 0, locals := 0 } : Room) n0 [(.int (1 : Int32))] h (fun v h' => v = some (.ref a) ∧ h = h') := by
  refine own_Con.mk (Ls := [.val (.int (1 : Int32))]) pn1 (fun m => by first | (simp [entryFrame, mkF, argsToLocals, Value.category]; done) | rfl) ?_
  intro p e s m below meth c C
  refine own_iloadN C d1_0 rfl ?_
  refine own_ifne C d1_1 t1_1 (fun _ => ?_) (fun h' => absurd h' (by decide))
  refine own_iloadN C d1_8 rfl ?_
  refine own_iconst C (1 : Int32) d1_9 rfl ?_
  refine own_icmpne C d1_10 t1_10 (fun h' => absurd h' (by decide)) (fun _ => ?_)
  refine own_getS C d1_13 (hw _ (List.mem_of_getElem? (i := 41) rfl)) S_SAFE_DOT ?_
  exact own_retA C d1_16 rfl rfl (by decide) (by decide) ⟨rfl, rfl⟩
set_option maxRecDepth 65536 in
set_option maxHeartbeats 40000000 in
theorem own_token_2 (l : Launch) (Z : State) (a0 : Array Value) (hw : ∀ d ∈ tables_1, d.before a0 Z = true) (n0 : Nat) (h : Heap) (a : Addr) (S_SPREAD_DOT : Sta Z h "com/example/keystone_script/keystonescript/compiler/TokenType" "SPREAD_DOT" "Lcom/example/keystone_script/keystonescript/compiler/TokenType;" (.ref a)) : own_Con l Z (⟨"com/example/keystone_script/keystonescript/compiler/NavigationOfPinLaw", "token", "(I)Lcom/example/keystone_script/keystonescript/compiler/TokenType;"⟩ : MethodName) method_2_code 1 (some (.object "com/example/keystone_script/keystonescript/compiler/TokenType")) ({ frames := 0, cells := 0, slots := 0, locals := 0 } : Room) n0 [(.int (2 : Int32))] h (fun v h' => v = some (.ref a) ∧ h = h') := by
  refine own_Con.mk (Ls := [.val (.int (2 : Int32))]) pn1 (fun m => by first | (simp [entryFrame, mkF, argsToLocals, Value.category]; done) | rfl) ?_
  intro p e s m below meth c C
  refine own_iloadN C d1_0 rfl ?_
  refine own_ifne C d1_1 t1_1 (fun _ => ?_) (fun h' => absurd h' (by decide))
  refine own_iloadN C d1_8 rfl ?_
  refine own_iconst C (1 : Int32) d1_9 rfl ?_
  refine own_icmpne C d1_10 t1_10 (fun _ => ?_) (fun h' => absurd h' (by decide))
  refine own_iloadN C d1_17 rfl ?_
  refine own_iconst C (2 : Int32) d1_18 rfl ?_
  refine own_icmpne C d1_19 t1_19 (fun h' => absurd h' (by decide)) (fun _ => ?_)
  refine own_getS C d1_22 (hw _ (List.mem_of_getElem? (i := 35) rfl)) S_SPREAD_DOT ?_
  exact own_retA C d1_25 rfl rfl (by decide) (by decide) ⟨rfl, rfl⟩
set_option maxRecDepth 65536 in
set_option maxHeartbeats 40000000 in
theorem own_token_3 (l : Launch) (Z : State) (a0 : Array Value) (hw : ∀ d ∈ tables_1, d.before a0 Z = true) (n0 : Nat) (h : Heap) (a : Addr) (S_FIELD_DOT : Sta Z h "com/example/keystone_script/keystonescript/compiler/TokenType" "FIELD_DOT" "Lcom/example/keystone_script/keystonescript/compiler/TokenType;" (.ref a)) : own_Con l Z (⟨"com/example/keystone_script/keystonescript/compiler/NavigationOfPinLaw", "token", "(I)Lcom/example/keystone_script/keystonescript/compiler/TokenType;"⟩ : MethodName) method_2_code 1 (some (.object "com/example/keystone_script/keystonescript/compiler/TokenType")) ({ frames := 0, cells := 0, slots := 0, locals := 0 } : Room) n0 [(.int (3 : Int32))] h (fun v h' => v = some (.ref a) ∧ h = h') := by
  refine own_Con.mk (Ls := [.val (.int (3 : Int32))]) pn1 (fun m => by first | (simp [entryFrame, mkF, argsToLocals, Value.category]; done) | rfl) ?_
  intro p e s m below meth c C
  refine own_iloadN C d1_0 rfl ?_
  refine own_ifne C d1_1 t1_1 (fun _ => ?_) (fun h' => absurd h' (by decide))
  refine own_iloadN C d1_8 rfl ?_
  refine own_iconst C (1 : Int32) d1_9 rfl ?_
  refine own_icmpne C d1_10 t1_10 (fun _ => ?_) (fun h' => absurd h' (by decide))
  refine own_iloadN C d1_17 rfl ?_
  refine own_iconst C (2 : Int32) d1_18 rfl ?_
  refine own_icmpne C d1_19 t1_19 (fun _ => ?_) (fun h' => absurd h' (by decide))
  refine own_iloadN C d1_26 rfl ?_
  refine own_iconst C (3 : Int32) d1_27 rfl ?_
  refine own_icmpne C d1_28 t1_28 (fun h' => absurd h' (by decide)) (fun _ => ?_)
  refine own_getS C d1_31 (hw _ (List.mem_of_getElem? (i := 21) rfl)) S_FIELD_DOT ?_
  exact own_retA C d1_34 rfl rfl (by decide) (by decide) ⟨rfl, rfl⟩
set_option maxRecDepth 65536 in
set_option maxHeartbeats 40000000 in
theorem own_token_4 (l : Launch) (Z : State) (a0 : Array Value) (hw : ∀ d ∈ tables_1, d.before a0 Z = true) (n0 : Nat) (h : Heap)   : own_Con l Z (⟨"com/example/keystone_script/keystonescript/compiler/NavigationOfPinLaw", "token", "(I)Lcom/example/keystone_script/keystonescript/compiler/TokenType;"⟩ : MethodName) method_2_code 1 (some (.object "com/example/keystone_script/keystonescript/compiler/TokenType")) ({ frames := 0, cells := 0, slots := 0, locals := 0 } : Room) n0 [(.int (4 : Int32))] h (fun v h' => v = some .null ∧ h = h') := by
  refine own_Con.mk (Ls := [.val (.int (4 : Int32))]) pn1 (fun m => by first | (simp [entryFrame, mkF, argsToLocals, Value.category]; done) | rfl) ?_
  intro p e s m below meth c C
  refine own_iloadN C d1_0 rfl ?_
  refine own_ifne C d1_1 t1_1 (fun _ => ?_) (fun h' => absurd h' (by decide))
  refine own_iloadN C d1_8 rfl ?_
  refine own_iconst C (1 : Int32) d1_9 rfl ?_
  refine own_icmpne C d1_10 t1_10 (fun _ => ?_) (fun h' => absurd h' (by decide))
  refine own_iloadN C d1_17 rfl ?_
  refine own_iconst C (2 : Int32) d1_18 rfl ?_
  refine own_icmpne C d1_19 t1_19 (fun _ => ?_) (fun h' => absurd h' (by decide))
  refine own_iloadN C d1_26 rfl ?_
  refine own_iconst C (3 : Int32) d1_27 rfl ?_
  refine own_icmpne C d1_28 t1_28 (fun _ => ?_) (fun h' => absurd h' (by decide))
  refine own_iloadN C d1_35 rfl ?_
  refine own_iconst C (4 : Int32) d1_36 rfl ?_
  refine own_icmpne C d1_37 t1_37 (fun h' => absurd h' (by decide)) (fun _ => ?_)
  refine own_aconst_null C d1_40 ?_
  exact own_retA C d1_41 rfl rfl (by decide) (by decide) ⟨rfl, rfl⟩
set_option maxRecDepth 65536 in
set_option maxHeartbeats 40000000 in
theorem own_token_5 (l : Launch) (Z : State) (a0 : Array Value) (hw : ∀ d ∈ tables_1, d.before a0 Z = true) (n0 : Nat) (h : Heap) (a : Addr) (S_IDENTIFIER : Sta Z h "com/example/keystone_script/keystonescript/compiler/TokenType" "IDENTIFIER" "Lcom/example/keystone_script/keystonescript/compiler/TokenType;" (.ref a)) : own_Con l Z (⟨"com/example/keystone_script/keystonescript/compiler/NavigationOfPinLaw", "token", "(I)Lcom/example/keystone_script/keystonescript/compiler/TokenType;"⟩ : MethodName) method_2_code 1 (some (.object "com/example/keystone_script/keystonescript/compiler/TokenType")) ({ frames := 0, cells := 0, slots := 0, locals := 0 } : Room) n0 [(.int (5 : Int32))] h (fun v h' => v = some (.ref a) ∧ h = h') := by
  refine own_Con.mk (Ls := [.val (.int (5 : Int32))]) pn1 (fun m => by first | (simp [entryFrame, mkF, argsToLocals, Value.category]; done) | rfl) ?_
  intro p e s m below meth c C
  refine own_iloadN C d1_0 rfl ?_
  refine own_ifne C d1_1 t1_1 (fun _ => ?_) (fun h' => absurd h' (by decide))
  refine own_iloadN C d1_8 rfl ?_
  refine own_iconst C (1 : Int32) d1_9 rfl ?_
  refine own_icmpne C d1_10 t1_10 (fun _ => ?_) (fun h' => absurd h' (by decide))
  refine own_iloadN C d1_17 rfl ?_
  refine own_iconst C (2 : Int32) d1_18 rfl ?_
  refine own_icmpne C d1_19 t1_19 (fun _ => ?_) (fun h' => absurd h' (by decide))
  refine own_iloadN C d1_26 rfl ?_
  refine own_iconst C (3 : Int32) d1_27 rfl ?_
  refine own_icmpne C d1_28 t1_28 (fun _ => ?_) (fun h' => absurd h' (by decide))
  refine own_iloadN C d1_35 rfl ?_
  refine own_iconst C (4 : Int32) d1_36 rfl ?_
  refine own_icmpne C d1_37 t1_37 (fun _ => ?_) (fun h' => absurd h' (by decide))
  refine own_iloadN C d1_42 rfl ?_
  refine own_iconst C (5 : Int32) d1_43 rfl ?_
  refine own_icmpne C d1_44 t1_44 (fun h' => absurd h' (by decide)) (fun _ => ?_)
  refine own_getS C d1_47 (hw _ (List.mem_of_getElem? (i := 51) rfl)) S_IDENTIFIER ?_
  exact own_retA C d1_50 rfl rfl (by decide) (by decide) ⟨rfl, rfl⟩
set_option maxRecDepth 65536 in
set_option maxHeartbeats 40000000 in
theorem own_token_6 (l : Launch) (Z : State) (a0 : Array Value) (hw : ∀ d ∈ tables_1, d.before a0 Z = true) (n0 : Nat) (h : Heap) (a : Addr) (S_END : Sta Z h "com/example/keystone_script/keystonescript/compiler/TokenType" "END" "Lcom/example/keystone_script/keystonescript/compiler/TokenType;" (.ref a)) : own_Con l Z (⟨"com/example/keystone_script/keystonescript/compiler/NavigationOfPinLaw", "token", "(I)Lcom/example/keystone_script/keystonescript/compiler/TokenType;"⟩ : MethodName) method_2_code 1 (some (.object "com/example/keystone_script/keystonescript/compiler/TokenType")) ({ frames := 0, cells := 0, slots := 0, locals := 0 } : Room) n0 [(.int (6 : Int32))] h (fun v h' => v = some (.ref a) ∧ h = h') := by
  refine own_Con.mk (Ls := [.val (.int (6 : Int32))]) pn1 (fun m => by first | (simp [entryFrame, mkF, argsToLocals, Value.category]; done) | rfl) ?_
  intro p e s m below meth c C
  refine own_iloadN C d1_0 rfl ?_
  refine own_ifne C d1_1 t1_1 (fun _ => ?_) (fun h' => absurd h' (by decide))
  refine own_iloadN C d1_8 rfl ?_
  refine own_iconst C (1 : Int32) d1_9 rfl ?_
  refine own_icmpne C d1_10 t1_10 (fun _ => ?_) (fun h' => absurd h' (by decide))
  refine own_iloadN C d1_17 rfl ?_
  refine own_iconst C (2 : Int32) d1_18 rfl ?_
  refine own_icmpne C d1_19 t1_19 (fun _ => ?_) (fun h' => absurd h' (by decide))
  refine own_iloadN C d1_26 rfl ?_
  refine own_iconst C (3 : Int32) d1_27 rfl ?_
  refine own_icmpne C d1_28 t1_28 (fun _ => ?_) (fun h' => absurd h' (by decide))
  refine own_iloadN C d1_35 rfl ?_
  refine own_iconst C (4 : Int32) d1_36 rfl ?_
  refine own_icmpne C d1_37 t1_37 (fun _ => ?_) (fun h' => absurd h' (by decide))
  refine own_iloadN C d1_42 rfl ?_
  refine own_iconst C (5 : Int32) d1_43 rfl ?_
  refine own_icmpne C d1_44 t1_44 (fun _ => ?_) (fun h' => absurd h' (by decide))
  refine own_iloadN C d1_51 rfl ?_
  refine own_bipush C (6 : Int32) d1_52 rfl ?_
  refine own_icmpne C d1_54 t1_54 (fun h' => absurd h' (by decide)) (fun _ => ?_)
  refine own_getS C d1_57 (hw _ (List.mem_of_getElem? (i := 47) rfl)) S_END ?_
  exact own_retA C d1_60 rfl rfl (by decide) (by decide) ⟨rfl, rfl⟩
set_option maxRecDepth 65536 in
set_option maxHeartbeats 40000000 in
theorem own_token_7 (l : Launch) (Z : State) (a0 : Array Value) (hw : ∀ d ∈ tables_1, d.before a0 Z = true) (n0 : Nat) (h : Heap) (a : Addr) (S_QUESTION : Sta Z h "com/example/keystone_script/keystonescript/compiler/TokenType" "QUESTION" "Lcom/example/keystone_script/keystonescript/compiler/TokenType;" (.ref a)) : own_Con l Z (⟨"com/example/keystone_script/keystonescript/compiler/NavigationOfPinLaw", "token", "(I)Lcom/example/keystone_script/keystonescript/compiler/TokenType;"⟩ : MethodName) method_2_code 1 (some (.object "com/example/keystone_script/keystonescript/compiler/TokenType")) ({ frames := 0, cells := 0, slots := 0, locals := 0 } : Room) n0 [(.int (7 : Int32))] h (fun v h' => v = some (.ref a) ∧ h = h') := by
  refine own_Con.mk (Ls := [.val (.int (7 : Int32))]) pn1 (fun m => by first | (simp [entryFrame, mkF, argsToLocals, Value.category]; done) | rfl) ?_
  intro p e s m below meth c C
  refine own_iloadN C d1_0 rfl ?_
  refine own_ifne C d1_1 t1_1 (fun _ => ?_) (fun h' => absurd h' (by decide))
  refine own_iloadN C d1_8 rfl ?_
  refine own_iconst C (1 : Int32) d1_9 rfl ?_
  refine own_icmpne C d1_10 t1_10 (fun _ => ?_) (fun h' => absurd h' (by decide))
  refine own_iloadN C d1_17 rfl ?_
  refine own_iconst C (2 : Int32) d1_18 rfl ?_
  refine own_icmpne C d1_19 t1_19 (fun _ => ?_) (fun h' => absurd h' (by decide))
  refine own_iloadN C d1_26 rfl ?_
  refine own_iconst C (3 : Int32) d1_27 rfl ?_
  refine own_icmpne C d1_28 t1_28 (fun _ => ?_) (fun h' => absurd h' (by decide))
  refine own_iloadN C d1_35 rfl ?_
  refine own_iconst C (4 : Int32) d1_36 rfl ?_
  refine own_icmpne C d1_37 t1_37 (fun _ => ?_) (fun h' => absurd h' (by decide))
  refine own_iloadN C d1_42 rfl ?_
  refine own_iconst C (5 : Int32) d1_43 rfl ?_
  refine own_icmpne C d1_44 t1_44 (fun _ => ?_) (fun h' => absurd h' (by decide))
  refine own_iloadN C d1_51 rfl ?_
  refine own_bipush C (6 : Int32) d1_52 rfl ?_
  refine own_icmpne C d1_54 t1_54 (fun _ => ?_) (fun h' => absurd h' (by decide))
  refine own_iloadN C d1_61 rfl ?_
  refine own_bipush C (7 : Int32) d1_62 rfl ?_
  refine own_icmpne C d1_64 t1_64 (fun h' => absurd h' (by decide)) (fun _ => ?_)
  refine own_getS C d1_67 (hw _ (List.mem_of_getElem? (i := 33) rfl)) S_QUESTION ?_
  exact own_retA C d1_70 rfl rfl (by decide) (by decide) ⟨rfl, rfl⟩
set_option maxRecDepth 65536 in
set_option maxHeartbeats 40000000 in
theorem own_token_8 (l : Launch) (Z : State) (a0 : Array Value) (hw : ∀ d ∈ tables_1, d.before a0 Z = true) (n0 : Nat) (h : Heap) (a : Addr) (S_ELVIS : Sta Z h "com/example/keystone_script/keystonescript/compiler/TokenType" "ELVIS" "Lcom/example/keystone_script/keystonescript/compiler/TokenType;" (.ref a)) : own_Con l Z (⟨"com/example/keystone_script/keystonescript/compiler/NavigationOfPinLaw", "token", "(I)Lcom/example/keystone_script/keystonescript/compiler/TokenType;"⟩ : MethodName) method_2_code 1 (some (.object "com/example/keystone_script/keystonescript/compiler/TokenType")) ({ frames := 0, cells := 0, slots := 0, locals := 0 } : Room) n0 [(.int (8 : Int32))] h (fun v h' => v = some (.ref a) ∧ h = h') := by
  refine own_Con.mk (Ls := [.val (.int (8 : Int32))]) pn1 (fun m => by first | (simp [entryFrame, mkF, argsToLocals, Value.category]; done) | rfl) ?_
  intro p e s m below meth c C
  refine own_iloadN C d1_0 rfl ?_
  refine own_ifne C d1_1 t1_1 (fun _ => ?_) (fun h' => absurd h' (by decide))
  refine own_iloadN C d1_8 rfl ?_
  refine own_iconst C (1 : Int32) d1_9 rfl ?_
  refine own_icmpne C d1_10 t1_10 (fun _ => ?_) (fun h' => absurd h' (by decide))
  refine own_iloadN C d1_17 rfl ?_
  refine own_iconst C (2 : Int32) d1_18 rfl ?_
  refine own_icmpne C d1_19 t1_19 (fun _ => ?_) (fun h' => absurd h' (by decide))
  refine own_iloadN C d1_26 rfl ?_
  refine own_iconst C (3 : Int32) d1_27 rfl ?_
  refine own_icmpne C d1_28 t1_28 (fun _ => ?_) (fun h' => absurd h' (by decide))
  refine own_iloadN C d1_35 rfl ?_
  refine own_iconst C (4 : Int32) d1_36 rfl ?_
  refine own_icmpne C d1_37 t1_37 (fun _ => ?_) (fun h' => absurd h' (by decide))
  refine own_iloadN C d1_42 rfl ?_
  refine own_iconst C (5 : Int32) d1_43 rfl ?_
  refine own_icmpne C d1_44 t1_44 (fun _ => ?_) (fun h' => absurd h' (by decide))
  refine own_iloadN C d1_51 rfl ?_
  refine own_bipush C (6 : Int32) d1_52 rfl ?_
  refine own_icmpne C d1_54 t1_54 (fun _ => ?_) (fun h' => absurd h' (by decide))
  refine own_iloadN C d1_61 rfl ?_
  refine own_bipush C (7 : Int32) d1_62 rfl ?_
  refine own_icmpne C d1_64 t1_64 (fun _ => ?_) (fun h' => absurd h' (by decide))
  refine own_iloadN C d1_71 rfl ?_
  refine own_bipush C (8 : Int32) d1_72 rfl ?_
  refine own_icmpne C d1_74 t1_74 (fun h' => absurd h' (by decide)) (fun _ => ?_)
  refine own_getS C d1_77 (hw _ (List.mem_of_getElem? (i := 39) rfl)) S_ELVIS ?_
  exact own_retA C d1_80 rfl rfl (by decide) (by decide) ⟨rfl, rfl⟩
set_option maxRecDepth 65536 in
set_option maxHeartbeats 40000000 in
theorem own_token_9 (l : Launch) (Z : State) (a0 : Array Value) (hw : ∀ d ∈ tables_1, d.before a0 Z = true) (n0 : Nat) (h : Heap) (a : Addr) (S_STAR : Sta Z h "com/example/keystone_script/keystonescript/compiler/TokenType" "STAR" "Lcom/example/keystone_script/keystonescript/compiler/TokenType;" (.ref a)) : own_Con l Z (⟨"com/example/keystone_script/keystonescript/compiler/NavigationOfPinLaw", "token", "(I)Lcom/example/keystone_script/keystonescript/compiler/TokenType;"⟩ : MethodName) method_2_code 1 (some (.object "com/example/keystone_script/keystonescript/compiler/TokenType")) ({ frames := 0, cells := 0, slots := 0, locals := 0 } : Room) n0 [(.int (9 : Int32))] h (fun v h' => v = some (.ref a) ∧ h = h') := by
  refine own_Con.mk (Ls := [.val (.int (9 : Int32))]) pn1 (fun m => by first | (simp [entryFrame, mkF, argsToLocals, Value.category]; done) | rfl) ?_
  intro p e s m below meth c C
  refine own_iloadN C d1_0 rfl ?_
  refine own_ifne C d1_1 t1_1 (fun _ => ?_) (fun h' => absurd h' (by decide))
  refine own_iloadN C d1_8 rfl ?_
  refine own_iconst C (1 : Int32) d1_9 rfl ?_
  refine own_icmpne C d1_10 t1_10 (fun _ => ?_) (fun h' => absurd h' (by decide))
  refine own_iloadN C d1_17 rfl ?_
  refine own_iconst C (2 : Int32) d1_18 rfl ?_
  refine own_icmpne C d1_19 t1_19 (fun _ => ?_) (fun h' => absurd h' (by decide))
  refine own_iloadN C d1_26 rfl ?_
  refine own_iconst C (3 : Int32) d1_27 rfl ?_
  refine own_icmpne C d1_28 t1_28 (fun _ => ?_) (fun h' => absurd h' (by decide))
  refine own_iloadN C d1_35 rfl ?_
  refine own_iconst C (4 : Int32) d1_36 rfl ?_
  refine own_icmpne C d1_37 t1_37 (fun _ => ?_) (fun h' => absurd h' (by decide))
  refine own_iloadN C d1_42 rfl ?_
  refine own_iconst C (5 : Int32) d1_43 rfl ?_
  refine own_icmpne C d1_44 t1_44 (fun _ => ?_) (fun h' => absurd h' (by decide))
  refine own_iloadN C d1_51 rfl ?_
  refine own_bipush C (6 : Int32) d1_52 rfl ?_
  refine own_icmpne C d1_54 t1_54 (fun _ => ?_) (fun h' => absurd h' (by decide))
  refine own_iloadN C d1_61 rfl ?_
  refine own_bipush C (7 : Int32) d1_62 rfl ?_
  refine own_icmpne C d1_64 t1_64 (fun _ => ?_) (fun h' => absurd h' (by decide))
  refine own_iloadN C d1_71 rfl ?_
  refine own_bipush C (8 : Int32) d1_72 rfl ?_
  refine own_icmpne C d1_74 t1_74 (fun _ => ?_) (fun h' => absurd h' (by decide))
  refine own_iloadN C d1_81 rfl ?_
  refine own_bipush C (9 : Int32) d1_82 rfl ?_
  refine own_icmpne C d1_84 t1_84 (fun h' => absurd h' (by decide)) (fun _ => ?_)
  refine own_getS C d1_87 (hw _ (List.mem_of_getElem? (i := 49) rfl)) S_STAR ?_
  exact own_retA C d1_90 rfl rfl (by decide) (by decide) ⟨rfl, rfl⟩
set_option maxRecDepth 65536 in
set_option maxHeartbeats 40000000 in
theorem own_token_10 (l : Launch) (Z : State) (a0 : Array Value) (hw : ∀ d ∈ tables_1, d.before a0 Z = true) (n0 : Nat) (h : Heap) (a : Addr) (S_RANGE : Sta Z h "com/example/keystone_script/keystonescript/compiler/TokenType" "RANGE" "Lcom/example/keystone_script/keystonescript/compiler/TokenType;" (.ref a)) : own_Con l Z (⟨"com/example/keystone_script/keystonescript/compiler/NavigationOfPinLaw", "token", "(I)Lcom/example/keystone_script/keystonescript/compiler/TokenType;"⟩ : MethodName) method_2_code 1 (some (.object "com/example/keystone_script/keystonescript/compiler/TokenType")) ({ frames := 0, cells := 0, slots := 0, locals := 0 } : Room) n0 [(.int (10 : Int32))] h (fun v h' => v = some (.ref a) ∧ h = h') := by
  refine own_Con.mk (Ls := [.val (.int (10 : Int32))]) pn1 (fun m => by first | (simp [entryFrame, mkF, argsToLocals, Value.category]; done) | rfl) ?_
  intro p e s m below meth c C
  refine own_iloadN C d1_0 rfl ?_
  refine own_ifne C d1_1 t1_1 (fun _ => ?_) (fun h' => absurd h' (by decide))
  refine own_iloadN C d1_8 rfl ?_
  refine own_iconst C (1 : Int32) d1_9 rfl ?_
  refine own_icmpne C d1_10 t1_10 (fun _ => ?_) (fun h' => absurd h' (by decide))
  refine own_iloadN C d1_17 rfl ?_
  refine own_iconst C (2 : Int32) d1_18 rfl ?_
  refine own_icmpne C d1_19 t1_19 (fun _ => ?_) (fun h' => absurd h' (by decide))
  refine own_iloadN C d1_26 rfl ?_
  refine own_iconst C (3 : Int32) d1_27 rfl ?_
  refine own_icmpne C d1_28 t1_28 (fun _ => ?_) (fun h' => absurd h' (by decide))
  refine own_iloadN C d1_35 rfl ?_
  refine own_iconst C (4 : Int32) d1_36 rfl ?_
  refine own_icmpne C d1_37 t1_37 (fun _ => ?_) (fun h' => absurd h' (by decide))
  refine own_iloadN C d1_42 rfl ?_
  refine own_iconst C (5 : Int32) d1_43 rfl ?_
  refine own_icmpne C d1_44 t1_44 (fun _ => ?_) (fun h' => absurd h' (by decide))
  refine own_iloadN C d1_51 rfl ?_
  refine own_bipush C (6 : Int32) d1_52 rfl ?_
  refine own_icmpne C d1_54 t1_54 (fun _ => ?_) (fun h' => absurd h' (by decide))
  refine own_iloadN C d1_61 rfl ?_
  refine own_bipush C (7 : Int32) d1_62 rfl ?_
  refine own_icmpne C d1_64 t1_64 (fun _ => ?_) (fun h' => absurd h' (by decide))
  refine own_iloadN C d1_71 rfl ?_
  refine own_bipush C (8 : Int32) d1_72 rfl ?_
  refine own_icmpne C d1_74 t1_74 (fun _ => ?_) (fun h' => absurd h' (by decide))
  refine own_iloadN C d1_81 rfl ?_
  refine own_bipush C (9 : Int32) d1_82 rfl ?_
  refine own_icmpne C d1_84 t1_84 (fun _ => ?_) (fun h' => absurd h' (by decide))
  refine own_iloadN C d1_91 rfl ?_
  refine own_bipush C (10 : Int32) d1_92 rfl ?_
  refine own_icmpne C d1_94 t1_94 (fun h' => absurd h' (by decide)) (fun _ => ?_)
  refine own_getS C d1_97 (hw _ (List.mem_of_getElem? (i := 31) rfl)) S_RANGE ?_
  exact own_retA C d1_100 rfl rfl (by decide) (by decide) ⟨rfl, rfl⟩
set_option maxRecDepth 65536 in
set_option maxHeartbeats 40000000 in
theorem own_token_11 (l : Launch) (Z : State) (a0 : Array Value) (hw : ∀ d ∈ tables_1, d.before a0 Z = true) (n0 : Nat) (h : Heap) (a : Addr) (S_AT : Sta Z h "com/example/keystone_script/keystonescript/compiler/TokenType" "AT" "Lcom/example/keystone_script/keystonescript/compiler/TokenType;" (.ref a)) : own_Con l Z (⟨"com/example/keystone_script/keystonescript/compiler/NavigationOfPinLaw", "token", "(I)Lcom/example/keystone_script/keystonescript/compiler/TokenType;"⟩ : MethodName) method_2_code 1 (some (.object "com/example/keystone_script/keystonescript/compiler/TokenType")) ({ frames := 0, cells := 0, slots := 0, locals := 0 } : Room) n0 [(.int (11 : Int32))] h (fun v h' => v = some (.ref a) ∧ h = h') := by
  refine own_Con.mk (Ls := [.val (.int (11 : Int32))]) pn1 (fun m => by first | (simp [entryFrame, mkF, argsToLocals, Value.category]; done) | rfl) ?_
  intro p e s m below meth c C
  refine own_iloadN C d1_0 rfl ?_
  refine own_ifne C d1_1 t1_1 (fun _ => ?_) (fun h' => absurd h' (by decide))
  refine own_iloadN C d1_8 rfl ?_
  refine own_iconst C (1 : Int32) d1_9 rfl ?_
  refine own_icmpne C d1_10 t1_10 (fun _ => ?_) (fun h' => absurd h' (by decide))
  refine own_iloadN C d1_17 rfl ?_
  refine own_iconst C (2 : Int32) d1_18 rfl ?_
  refine own_icmpne C d1_19 t1_19 (fun _ => ?_) (fun h' => absurd h' (by decide))
  refine own_iloadN C d1_26 rfl ?_
  refine own_iconst C (3 : Int32) d1_27 rfl ?_
  refine own_icmpne C d1_28 t1_28 (fun _ => ?_) (fun h' => absurd h' (by decide))
  refine own_iloadN C d1_35 rfl ?_
  refine own_iconst C (4 : Int32) d1_36 rfl ?_
  refine own_icmpne C d1_37 t1_37 (fun _ => ?_) (fun h' => absurd h' (by decide))
  refine own_iloadN C d1_42 rfl ?_
  refine own_iconst C (5 : Int32) d1_43 rfl ?_
  refine own_icmpne C d1_44 t1_44 (fun _ => ?_) (fun h' => absurd h' (by decide))
  refine own_iloadN C d1_51 rfl ?_
  refine own_bipush C (6 : Int32) d1_52 rfl ?_
  refine own_icmpne C d1_54 t1_54 (fun _ => ?_) (fun h' => absurd h' (by decide))
  refine own_iloadN C d1_61 rfl ?_
  refine own_bipush C (7 : Int32) d1_62 rfl ?_
  refine own_icmpne C d1_64 t1_64 (fun _ => ?_) (fun h' => absurd h' (by decide))
  refine own_iloadN C d1_71 rfl ?_
  refine own_bipush C (8 : Int32) d1_72 rfl ?_
  refine own_icmpne C d1_74 t1_74 (fun _ => ?_) (fun h' => absurd h' (by decide))
  refine own_iloadN C d1_81 rfl ?_
  refine own_bipush C (9 : Int32) d1_82 rfl ?_
  refine own_icmpne C d1_84 t1_84 (fun _ => ?_) (fun h' => absurd h' (by decide))
  refine own_iloadN C d1_91 rfl ?_
  refine own_bipush C (10 : Int32) d1_92 rfl ?_
  refine own_icmpne C d1_94 t1_94 (fun _ => ?_) (fun h' => absurd h' (by decide))
  refine own_iloadN C d1_101 rfl ?_
  refine own_bipush C (11 : Int32) d1_102 rfl ?_
  refine own_icmpne C d1_104 t1_104 (fun h' => absurd h' (by decide)) (fun _ => ?_)
  refine own_getS C d1_107 (hw _ (List.mem_of_getElem? (i := 37) rfl)) S_AT ?_
  exact own_retA C d1_110 rfl rfl (by decide) (by decide) ⟨rfl, rfl⟩
set_option maxRecDepth 65536 in
set_option maxHeartbeats 40000000 in
theorem own_token_12 (l : Launch) (Z : State) (a0 : Array Value) (hw : ∀ d ∈ tables_1, d.before a0 Z = true) (n0 : Nat) (h : Heap) (a : Addr) (S_RANGE_EXCLUSIVE : Sta Z h "com/example/keystone_script/keystonescript/compiler/TokenType" "RANGE_EXCLUSIVE" "Lcom/example/keystone_script/keystonescript/compiler/TokenType;" (.ref a)) : own_Con l Z (⟨"com/example/keystone_script/keystonescript/compiler/NavigationOfPinLaw", "token", "(I)Lcom/example/keystone_script/keystonescript/compiler/TokenType;"⟩ : MethodName) method_2_code 1 (some (.object "com/example/keystone_script/keystonescript/compiler/TokenType")) ({ frames := 0, cells := 0, slots := 0, locals := 0 } : Room) n0 [(.int (12 : Int32))] h (fun v h' => v = some (.ref a) ∧ h = h') := by
  refine own_Con.mk (Ls := [.val (.int (12 : Int32))]) pn1 (fun m => by first | (simp [entryFrame, mkF, argsToLocals, Value.category]; done) | rfl) ?_
  intro p e s m below meth c C
  refine own_iloadN C d1_0 rfl ?_
  refine own_ifne C d1_1 t1_1 (fun _ => ?_) (fun h' => absurd h' (by decide))
  refine own_iloadN C d1_8 rfl ?_
  refine own_iconst C (1 : Int32) d1_9 rfl ?_
  refine own_icmpne C d1_10 t1_10 (fun _ => ?_) (fun h' => absurd h' (by decide))
  refine own_iloadN C d1_17 rfl ?_
  refine own_iconst C (2 : Int32) d1_18 rfl ?_
  refine own_icmpne C d1_19 t1_19 (fun _ => ?_) (fun h' => absurd h' (by decide))
  refine own_iloadN C d1_26 rfl ?_
  refine own_iconst C (3 : Int32) d1_27 rfl ?_
  refine own_icmpne C d1_28 t1_28 (fun _ => ?_) (fun h' => absurd h' (by decide))
  refine own_iloadN C d1_35 rfl ?_
  refine own_iconst C (4 : Int32) d1_36 rfl ?_
  refine own_icmpne C d1_37 t1_37 (fun _ => ?_) (fun h' => absurd h' (by decide))
  refine own_iloadN C d1_42 rfl ?_
  refine own_iconst C (5 : Int32) d1_43 rfl ?_
  refine own_icmpne C d1_44 t1_44 (fun _ => ?_) (fun h' => absurd h' (by decide))
  refine own_iloadN C d1_51 rfl ?_
  refine own_bipush C (6 : Int32) d1_52 rfl ?_
  refine own_icmpne C d1_54 t1_54 (fun _ => ?_) (fun h' => absurd h' (by decide))
  refine own_iloadN C d1_61 rfl ?_
  refine own_bipush C (7 : Int32) d1_62 rfl ?_
  refine own_icmpne C d1_64 t1_64 (fun _ => ?_) (fun h' => absurd h' (by decide))
  refine own_iloadN C d1_71 rfl ?_
  refine own_bipush C (8 : Int32) d1_72 rfl ?_
  refine own_icmpne C d1_74 t1_74 (fun _ => ?_) (fun h' => absurd h' (by decide))
  refine own_iloadN C d1_81 rfl ?_
  refine own_bipush C (9 : Int32) d1_82 rfl ?_
  refine own_icmpne C d1_84 t1_84 (fun _ => ?_) (fun h' => absurd h' (by decide))
  refine own_iloadN C d1_91 rfl ?_
  refine own_bipush C (10 : Int32) d1_92 rfl ?_
  refine own_icmpne C d1_94 t1_94 (fun _ => ?_) (fun h' => absurd h' (by decide))
  refine own_iloadN C d1_101 rfl ?_
  refine own_bipush C (11 : Int32) d1_102 rfl ?_
  refine own_icmpne C d1_104 t1_104 (fun _ => ?_) (fun h' => absurd h' (by decide))
  refine own_iloadN C d1_111 rfl ?_
  refine own_bipush C (12 : Int32) d1_112 rfl ?_
  refine own_icmpne C d1_114 t1_114 (fun h' => absurd h' (by decide)) (fun _ => ?_)
  refine own_getS C d1_117 (hw _ (List.mem_of_getElem? (i := 43) rfl)) S_RANGE_EXCLUSIVE ?_
  exact own_retA C d1_120 rfl rfl (by decide) (by decide) ⟨rfl, rfl⟩
set_option maxRecDepth 65536 in
set_option maxHeartbeats 40000000 in
theorem own_token_13 (l : Launch) (Z : State) (a0 : Array Value) (hw : ∀ d ∈ tables_1, d.before a0 Z = true) (n0 : Nat) (h : Heap) (a : Addr) (S_COMMA : Sta Z h "com/example/keystone_script/keystonescript/compiler/TokenType" "COMMA" "Lcom/example/keystone_script/keystonescript/compiler/TokenType;" (.ref a)) : own_Con l Z (⟨"com/example/keystone_script/keystonescript/compiler/NavigationOfPinLaw", "token", "(I)Lcom/example/keystone_script/keystonescript/compiler/TokenType;"⟩ : MethodName) method_2_code 1 (some (.object "com/example/keystone_script/keystonescript/compiler/TokenType")) ({ frames := 0, cells := 0, slots := 0, locals := 0 } : Room) n0 [(.int (13 : Int32))] h (fun v h' => v = some (.ref a) ∧ h = h') := by
  refine own_Con.mk (Ls := [.val (.int (13 : Int32))]) pn1 (fun m => by first | (simp [entryFrame, mkF, argsToLocals, Value.category]; done) | rfl) ?_
  intro p e s m below meth c C
  refine own_iloadN C d1_0 rfl ?_
  refine own_ifne C d1_1 t1_1 (fun _ => ?_) (fun h' => absurd h' (by decide))
  refine own_iloadN C d1_8 rfl ?_
  refine own_iconst C (1 : Int32) d1_9 rfl ?_
  refine own_icmpne C d1_10 t1_10 (fun _ => ?_) (fun h' => absurd h' (by decide))
  refine own_iloadN C d1_17 rfl ?_
  refine own_iconst C (2 : Int32) d1_18 rfl ?_
  refine own_icmpne C d1_19 t1_19 (fun _ => ?_) (fun h' => absurd h' (by decide))
  refine own_iloadN C d1_26 rfl ?_
  refine own_iconst C (3 : Int32) d1_27 rfl ?_
  refine own_icmpne C d1_28 t1_28 (fun _ => ?_) (fun h' => absurd h' (by decide))
  refine own_iloadN C d1_35 rfl ?_
  refine own_iconst C (4 : Int32) d1_36 rfl ?_
  refine own_icmpne C d1_37 t1_37 (fun _ => ?_) (fun h' => absurd h' (by decide))
  refine own_iloadN C d1_42 rfl ?_
  refine own_iconst C (5 : Int32) d1_43 rfl ?_
  refine own_icmpne C d1_44 t1_44 (fun _ => ?_) (fun h' => absurd h' (by decide))
  refine own_iloadN C d1_51 rfl ?_
  refine own_bipush C (6 : Int32) d1_52 rfl ?_
  refine own_icmpne C d1_54 t1_54 (fun _ => ?_) (fun h' => absurd h' (by decide))
  refine own_iloadN C d1_61 rfl ?_
  refine own_bipush C (7 : Int32) d1_62 rfl ?_
  refine own_icmpne C d1_64 t1_64 (fun _ => ?_) (fun h' => absurd h' (by decide))
  refine own_iloadN C d1_71 rfl ?_
  refine own_bipush C (8 : Int32) d1_72 rfl ?_
  refine own_icmpne C d1_74 t1_74 (fun _ => ?_) (fun h' => absurd h' (by decide))
  refine own_iloadN C d1_81 rfl ?_
  refine own_bipush C (9 : Int32) d1_82 rfl ?_
  refine own_icmpne C d1_84 t1_84 (fun _ => ?_) (fun h' => absurd h' (by decide))
  refine own_iloadN C d1_91 rfl ?_
  refine own_bipush C (10 : Int32) d1_92 rfl ?_
  refine own_icmpne C d1_94 t1_94 (fun _ => ?_) (fun h' => absurd h' (by decide))
  refine own_iloadN C d1_101 rfl ?_
  refine own_bipush C (11 : Int32) d1_102 rfl ?_
  refine own_icmpne C d1_104 t1_104 (fun _ => ?_) (fun h' => absurd h' (by decide))
  refine own_iloadN C d1_111 rfl ?_
  refine own_bipush C (12 : Int32) d1_112 rfl ?_
  refine own_icmpne C d1_114 t1_114 (fun _ => ?_) (fun h' => absurd h' (by decide))
  refine own_iloadN C d1_121 rfl ?_
  refine own_bipush C (13 : Int32) d1_122 rfl ?_
  refine own_icmpne C d1_124 t1_124 (fun h' => absurd h' (by decide)) (fun _ => ?_)
  refine own_getS C d1_127 (hw _ (List.mem_of_getElem? (i := 45) rfl)) S_COMMA ?_
  exact own_retA C d1_130 rfl rfl (by decide) (by decide) ⟨rfl, rfl⟩
set_option maxRecDepth 65536 in
set_option maxHeartbeats 40000000 in
theorem own_token_14 (l : Launch) (Z : State) (a0 : Array Value) (hw : ∀ d ∈ tables_1, d.before a0 Z = true) (n0 : Nat) (h : Heap) (a : Addr) (S_PLUS : Sta Z h "com/example/keystone_script/keystonescript/compiler/TokenType" "PLUS" "Lcom/example/keystone_script/keystonescript/compiler/TokenType;" (.ref a)) : own_Con l Z (⟨"com/example/keystone_script/keystonescript/compiler/NavigationOfPinLaw", "token", "(I)Lcom/example/keystone_script/keystonescript/compiler/TokenType;"⟩ : MethodName) method_2_code 1 (some (.object "com/example/keystone_script/keystonescript/compiler/TokenType")) ({ frames := 0, cells := 0, slots := 0, locals := 0 } : Room) n0 [(.int (14 : Int32))] h (fun v h' => v = some (.ref a) ∧ h = h') := by
  refine own_Con.mk (Ls := [.val (.int (14 : Int32))]) pn1 (fun m => by first | (simp [entryFrame, mkF, argsToLocals, Value.category]; done) | rfl) ?_
  intro p e s m below meth c C
  refine own_iloadN C d1_0 rfl ?_
  refine own_ifne C d1_1 t1_1 (fun _ => ?_) (fun h' => absurd h' (by decide))
  refine own_iloadN C d1_8 rfl ?_
  refine own_iconst C (1 : Int32) d1_9 rfl ?_
  refine own_icmpne C d1_10 t1_10 (fun _ => ?_) (fun h' => absurd h' (by decide))
  refine own_iloadN C d1_17 rfl ?_
  refine own_iconst C (2 : Int32) d1_18 rfl ?_
  refine own_icmpne C d1_19 t1_19 (fun _ => ?_) (fun h' => absurd h' (by decide))
  refine own_iloadN C d1_26 rfl ?_
  refine own_iconst C (3 : Int32) d1_27 rfl ?_
  refine own_icmpne C d1_28 t1_28 (fun _ => ?_) (fun h' => absurd h' (by decide))
  refine own_iloadN C d1_35 rfl ?_
  refine own_iconst C (4 : Int32) d1_36 rfl ?_
  refine own_icmpne C d1_37 t1_37 (fun _ => ?_) (fun h' => absurd h' (by decide))
  refine own_iloadN C d1_42 rfl ?_
  refine own_iconst C (5 : Int32) d1_43 rfl ?_
  refine own_icmpne C d1_44 t1_44 (fun _ => ?_) (fun h' => absurd h' (by decide))
  refine own_iloadN C d1_51 rfl ?_
  refine own_bipush C (6 : Int32) d1_52 rfl ?_
  refine own_icmpne C d1_54 t1_54 (fun _ => ?_) (fun h' => absurd h' (by decide))
  refine own_iloadN C d1_61 rfl ?_
  refine own_bipush C (7 : Int32) d1_62 rfl ?_
  refine own_icmpne C d1_64 t1_64 (fun _ => ?_) (fun h' => absurd h' (by decide))
  refine own_iloadN C d1_71 rfl ?_
  refine own_bipush C (8 : Int32) d1_72 rfl ?_
  refine own_icmpne C d1_74 t1_74 (fun _ => ?_) (fun h' => absurd h' (by decide))
  refine own_iloadN C d1_81 rfl ?_
  refine own_bipush C (9 : Int32) d1_82 rfl ?_
  refine own_icmpne C d1_84 t1_84 (fun _ => ?_) (fun h' => absurd h' (by decide))
  refine own_iloadN C d1_91 rfl ?_
  refine own_bipush C (10 : Int32) d1_92 rfl ?_
  refine own_icmpne C d1_94 t1_94 (fun _ => ?_) (fun h' => absurd h' (by decide))
  refine own_iloadN C d1_101 rfl ?_
  refine own_bipush C (11 : Int32) d1_102 rfl ?_
  refine own_icmpne C d1_104 t1_104 (fun _ => ?_) (fun h' => absurd h' (by decide))
  refine own_iloadN C d1_111 rfl ?_
  refine own_bipush C (12 : Int32) d1_112 rfl ?_
  refine own_icmpne C d1_114 t1_114 (fun _ => ?_) (fun h' => absurd h' (by decide))
  refine own_iloadN C d1_121 rfl ?_
  refine own_bipush C (13 : Int32) d1_122 rfl ?_
  refine own_icmpne C d1_124 t1_124 (fun _ => ?_) (fun h' => absurd h' (by decide))
  refine own_iloadN C d1_131 rfl ?_
  refine own_bipush C (14 : Int32) d1_132 rfl ?_
  refine own_icmpne C d1_134 t1_134 (fun h' => absurd h' (by decide)) (fun _ => ?_)
  refine own_getS C d1_137 (hw _ (List.mem_of_getElem? (i := 27) rfl)) S_PLUS ?_
  exact own_retA C d1_140 rfl rfl (by decide) (by decide) ⟨rfl, rfl⟩
set_option maxRecDepth 65536 in
set_option maxHeartbeats 40000000 in
theorem own_token_15 (l : Launch) (Z : State) (a0 : Array Value) (hw : ∀ d ∈ tables_1, d.before a0 Z = true) (n0 : Nat) (h : Heap) (a : Addr) (S_NEWLINE : Sta Z h "com/example/keystone_script/keystonescript/compiler/TokenType" "NEWLINE" "Lcom/example/keystone_script/keystonescript/compiler/TokenType;" (.ref a)) : own_Con l Z (⟨"com/example/keystone_script/keystonescript/compiler/NavigationOfPinLaw", "token", "(I)Lcom/example/keystone_script/keystonescript/compiler/TokenType;"⟩ : MethodName) method_2_code 1 (some (.object "com/example/keystone_script/keystonescript/compiler/TokenType")) ({ frames := 0, cells := 0, slots := 0, locals := 0 } : Room) n0 [(.int (15 : Int32))] h (fun v h' => v = some (.ref a) ∧ h = h') := by
  refine own_Con.mk (Ls := [.val (.int (15 : Int32))]) pn1 (fun m => by first | (simp [entryFrame, mkF, argsToLocals, Value.category]; done) | rfl) ?_
  intro p e s m below meth c C
  refine own_iloadN C d1_0 rfl ?_
  refine own_ifne C d1_1 t1_1 (fun _ => ?_) (fun h' => absurd h' (by decide))
  refine own_iloadN C d1_8 rfl ?_
  refine own_iconst C (1 : Int32) d1_9 rfl ?_
  refine own_icmpne C d1_10 t1_10 (fun _ => ?_) (fun h' => absurd h' (by decide))
  refine own_iloadN C d1_17 rfl ?_
  refine own_iconst C (2 : Int32) d1_18 rfl ?_
  refine own_icmpne C d1_19 t1_19 (fun _ => ?_) (fun h' => absurd h' (by decide))
  refine own_iloadN C d1_26 rfl ?_
  refine own_iconst C (3 : Int32) d1_27 rfl ?_
  refine own_icmpne C d1_28 t1_28 (fun _ => ?_) (fun h' => absurd h' (by decide))
  refine own_iloadN C d1_35 rfl ?_
  refine own_iconst C (4 : Int32) d1_36 rfl ?_
  refine own_icmpne C d1_37 t1_37 (fun _ => ?_) (fun h' => absurd h' (by decide))
  refine own_iloadN C d1_42 rfl ?_
  refine own_iconst C (5 : Int32) d1_43 rfl ?_
  refine own_icmpne C d1_44 t1_44 (fun _ => ?_) (fun h' => absurd h' (by decide))
  refine own_iloadN C d1_51 rfl ?_
  refine own_bipush C (6 : Int32) d1_52 rfl ?_
  refine own_icmpne C d1_54 t1_54 (fun _ => ?_) (fun h' => absurd h' (by decide))
  refine own_iloadN C d1_61 rfl ?_
  refine own_bipush C (7 : Int32) d1_62 rfl ?_
  refine own_icmpne C d1_64 t1_64 (fun _ => ?_) (fun h' => absurd h' (by decide))
  refine own_iloadN C d1_71 rfl ?_
  refine own_bipush C (8 : Int32) d1_72 rfl ?_
  refine own_icmpne C d1_74 t1_74 (fun _ => ?_) (fun h' => absurd h' (by decide))
  refine own_iloadN C d1_81 rfl ?_
  refine own_bipush C (9 : Int32) d1_82 rfl ?_
  refine own_icmpne C d1_84 t1_84 (fun _ => ?_) (fun h' => absurd h' (by decide))
  refine own_iloadN C d1_91 rfl ?_
  refine own_bipush C (10 : Int32) d1_92 rfl ?_
  refine own_icmpne C d1_94 t1_94 (fun _ => ?_) (fun h' => absurd h' (by decide))
  refine own_iloadN C d1_101 rfl ?_
  refine own_bipush C (11 : Int32) d1_102 rfl ?_
  refine own_icmpne C d1_104 t1_104 (fun _ => ?_) (fun h' => absurd h' (by decide))
  refine own_iloadN C d1_111 rfl ?_
  refine own_bipush C (12 : Int32) d1_112 rfl ?_
  refine own_icmpne C d1_114 t1_114 (fun _ => ?_) (fun h' => absurd h' (by decide))
  refine own_iloadN C d1_121 rfl ?_
  refine own_bipush C (13 : Int32) d1_122 rfl ?_
  refine own_icmpne C d1_124 t1_124 (fun _ => ?_) (fun h' => absurd h' (by decide))
  refine own_iloadN C d1_131 rfl ?_
  refine own_bipush C (14 : Int32) d1_132 rfl ?_
  refine own_icmpne C d1_134 t1_134 (fun _ => ?_) (fun h' => absurd h' (by decide))
  refine own_getS C d1_141 (hw _ (List.mem_of_getElem? (i := 29) rfl)) S_NEWLINE ?_
  exact own_retA C d1_144 rfl rfl (by decide) (by decide) ⟨rfl, rfl⟩
set_option maxRecDepth 65536 in
set_option maxHeartbeats 40000000 in
theorem own_exp_0 (l : Launch) (Z : State) (a0 : Array Value) (hw : ∀ d ∈ tables_1, d.before a0 Z = true) (n0 : Nat) (h : Heap) (a : Addr) (S_DIRECT : Sta Z h "com/example/keystone_script/keystonescript/compiler/Navigation" "DIRECT" "Lcom/example/keystone_script/keystonescript/compiler/Navigation;" (.ref a)) : own_Con l Z (⟨"com/example/keystone_script/keystonescript/compiler/NavigationOfPinLaw", "expected", "(I)Lcom/example/keystone_script/keystonescript/compiler/Navigation;"⟩ : MethodName) method_3_code 1 (some (.object "com/example/keystone_script/keystonescript/compiler/Navigation")) ({ frames := 0, cells := 0, slots := 0, locals := 0 } : Room) n0 [(.int (0 : Int32))] h (fun v h' => v = some (.ref a) ∧ h = h') := by
  refine own_Con.mk (Ls := [.val (.int (0 : Int32))]) pn3 (fun m => by first | (simp [entryFrame, mkF, argsToLocals, Value.category]; done) | rfl) ?_
  intro p e s m below meth c C
  refine own_iloadN C d3_0 rfl ?_
  refine own_ifne C d3_1 t3_1 (fun h' => absurd h' (by decide)) (fun _ => ?_)
  refine own_getS C d3_4 (hw _ (List.mem_of_getElem? (i := 19) rfl)) S_DIRECT ?_
  exact own_retA C d3_7 rfl rfl (by decide) (by decide) ⟨rfl, rfl⟩
set_option maxRecDepth 65536 in
set_option maxHeartbeats 40000000 in
theorem own_exp_1 (l : Launch) (Z : State) (a0 : Array Value) (hw : ∀ d ∈ tables_1, d.before a0 Z = true) (n0 : Nat) (h : Heap) (a : Addr) (S_SAFE : Sta Z h "com/example/keystone_script/keystonescript/compiler/Navigation" "SAFE" "Lcom/example/keystone_script/keystonescript/compiler/Navigation;" (.ref a)) : own_Con l Z (⟨"com/example/keystone_script/keystonescript/compiler/NavigationOfPinLaw", "expected", "(I)Lcom/example/keystone_script/keystonescript/compiler/Navigation;"⟩ : MethodName) method_3_code 1 (some (.object "com/example/keystone_script/keystonescript/compiler/Navigation")) ({ frames := 0, cells := 0, slots := 0, locals := 0 } : Room) n0 [(.int (1 : Int32))] h (fun v h' => v = some (.ref a) ∧ h = h') := by
  refine own_Con.mk (Ls := [.val (.int (1 : Int32))]) pn3 (fun m => by first | (simp [entryFrame, mkF, argsToLocals, Value.category]; done) | rfl) ?_
  intro p e s m below meth c C
  refine own_iloadN C d3_0 rfl ?_
  refine own_ifne C d3_1 t3_1 (fun _ => ?_) (fun h' => absurd h' (by decide))
  refine own_iloadN C d3_8 rfl ?_
  refine own_iconst C (1 : Int32) d3_9 rfl ?_
  refine own_icmpne C d3_10 t3_10 (fun h' => absurd h' (by decide)) (fun _ => ?_)
  refine own_getS C d3_13 (hw _ (List.mem_of_getElem? (i := 42) rfl)) S_SAFE ?_
  exact own_retA C d3_16 rfl rfl (by decide) (by decide) ⟨rfl, rfl⟩
set_option maxRecDepth 65536 in
set_option maxHeartbeats 40000000 in
theorem own_exp_2 (l : Launch) (Z : State) (a0 : Array Value) (hw : ∀ d ∈ tables_1, d.before a0 Z = true) (n0 : Nat) (h : Heap) (a : Addr) (S_SPREAD : Sta Z h "com/example/keystone_script/keystonescript/compiler/Navigation" "SPREAD" "Lcom/example/keystone_script/keystonescript/compiler/Navigation;" (.ref a)) : own_Con l Z (⟨"com/example/keystone_script/keystonescript/compiler/NavigationOfPinLaw", "expected", "(I)Lcom/example/keystone_script/keystonescript/compiler/Navigation;"⟩ : MethodName) method_3_code 1 (some (.object "com/example/keystone_script/keystonescript/compiler/Navigation")) ({ frames := 0, cells := 0, slots := 0, locals := 0 } : Room) n0 [(.int (2 : Int32))] h (fun v h' => v = some (.ref a) ∧ h = h') := by
  refine own_Con.mk (Ls := [.val (.int (2 : Int32))]) pn3 (fun m => by first | (simp [entryFrame, mkF, argsToLocals, Value.category]; done) | rfl) ?_
  intro p e s m below meth c C
  refine own_iloadN C d3_0 rfl ?_
  refine own_ifne C d3_1 t3_1 (fun _ => ?_) (fun h' => absurd h' (by decide))
  refine own_iloadN C d3_8 rfl ?_
  refine own_iconst C (1 : Int32) d3_9 rfl ?_
  refine own_icmpne C d3_10 t3_10 (fun _ => ?_) (fun h' => absurd h' (by decide))
  refine own_iloadN C d3_17 rfl ?_
  refine own_iconst C (2 : Int32) d3_18 rfl ?_
  refine own_icmpne C d3_19 t3_19 (fun h' => absurd h' (by decide)) (fun _ => ?_)
  refine own_getS C d3_22 (hw _ (List.mem_of_getElem? (i := 36) rfl)) S_SPREAD ?_
  exact own_retA C d3_25 rfl rfl (by decide) (by decide) ⟨rfl, rfl⟩
set_option maxRecDepth 65536 in
set_option maxHeartbeats 40000000 in
theorem own_exp_no (l : Launch) (Z : State) (a0 : Array Value) (hw : ∀ d ∈ tables_1, d.before a0 Z = true) (n0 : Nat) (h : Heap) (x : Int32) (q0 : ¬ x = 0) (q1 : ¬ x = 1) (q2 : ¬ x = 2) : own_Con l Z (⟨"com/example/keystone_script/keystonescript/compiler/NavigationOfPinLaw", "expected", "(I)Lcom/example/keystone_script/keystonescript/compiler/Navigation;"⟩ : MethodName) method_3_code 1 (some (.object "com/example/keystone_script/keystonescript/compiler/Navigation")) ({ frames := 0, cells := 0, slots := 0, locals := 0 } : Room) n0 [(.int x)] h (fun v h' => v = some .null ∧ h = h') := by
  refine own_Con.mk (Ls := [.val (.int x)]) pn3 (fun m => by first | (simp [entryFrame, mkF, argsToLocals, Value.category]; done) | rfl) ?_
  intro p e s m below meth c C
  refine own_iloadN C d3_0 rfl ?_
  refine own_ifne C d3_1 t3_1 (fun _ => ?_) (fun h' => absurd h' q0)
  refine own_iloadN C d3_8 rfl ?_
  refine own_iconst C (1 : Int32) d3_9 rfl ?_
  refine own_icmpne C d3_10 t3_10 (fun _ => ?_) (fun h' => absurd h' q1)
  refine own_iloadN C d3_17 rfl ?_
  refine own_iconst C (2 : Int32) d3_18 rfl ?_
  refine own_icmpne C d3_19 t3_19 (fun _ => ?_) (fun h' => absurd h' q2)
  refine own_aconst_null C d3_26 ?_
  exact own_retA C d3_27 rfl rfl (by decide) (by decide) ⟨rfl, rfl⟩
set_option maxRecDepth 65536 in
set_option maxHeartbeats 40000000 in
theorem own_of_0 (l : Launch) (Z : State) (a0 : Array Value) (hw : ∀ d ∈ tables_1, d.before a0 Z = true) (n0 : Nat) (h : Heap) (aN : Addr) (cN : Cell) (S_NAVIGATIONS : Sta Z h "com/example/keystone_script/keystonescript/compiler/Navigation" "NAVIGATIONS" "[Lcom/example/keystone_script/keystonescript/compiler/Navigation;" (.ref aN)) (Ar : Arr Z h aN cN (.object "com/example/keystone_script/keystonescript/compiler/Navigation")) (L3 : cN.slots.size = 3) (b0 t0 : Addr) (V0 : cN.slots[0]? = some (.ref b0)) (F0 : Fld Z h b0 "com/example/keystone_script/keystonescript/compiler/Navigation" "token" "Lcom/example/keystone_script/keystonescript/compiler/TokenType;" (.ref t0)) (b1 t1 : Addr) (V1 : cN.slots[1]? = some (.ref b1)) (F1 : Fld Z h b1 "com/example/keystone_script/keystonescript/compiler/Navigation" "token" "Lcom/example/keystone_script/keystonescript/compiler/TokenType;" (.ref t1)) (b2 t2 : Addr) (V2 : cN.slots[2]? = some (.ref b2)) (F2 : Fld Z h b2 "com/example/keystone_script/keystonescript/compiler/Navigation" "token" "Lcom/example/keystone_script/keystonescript/compiler/TokenType;" (.ref t2))  : own_Con l Z (⟨"com/example/keystone_script/keystonescript/compiler/Navigation", "of", "(Lcom/example/keystone_script/keystonescript/compiler/TokenType;)Lcom/example/keystone_script/keystonescript/compiler/Navigation;"⟩ : MethodName) prog_56_method_4_code 5 (some (.object "com/example/keystone_script/keystonescript/compiler/Navigation")) ({ frames := 0, cells := 0, slots := 0, locals := 0 } : Room) n0 [(.ref t0)] h (fun r h' => r = some (.ref b0) ∧ h = h') := by
  refine own_Con.mk (Ls := [.val (.ref t0), .unset, .unset, .unset, .unset]) pn2 (fun m => by first | (simp [entryFrame, mkF, argsToLocals, Value.category]; done) | rfl) ?_
  intro p e s m below meth c C
  refine own_getS C d2_0 (hw _ (List.mem_of_getElem? (i := 11) rfl)) S_NAVIGATIONS ?_
  refine own_astoreN C 1 d2_3 rfl rfl rfl rfl ?_
  refine own_aloadN C d2_4 rfl rfl ?_
  refine own_arraylength C d2_5 Ar ?_
  rw [L3]
  refine own_istoreN C 2 d2_6 rfl rfl rfl ?_
  refine own_iconst C (0 : Int32) d2_7 rfl ?_
  refine own_istoreN C 3 d2_8 rfl rfl rfl ?_
  refine own_iloadN C d2_9 rfl ?_
  refine own_iloadN C d2_10 rfl ?_
  refine own_icmpge C d2_11 t2_11 (fun h' => absurd h' (by decide)) (fun _ => ?_)
  refine own_aloadN C d2_14 rfl rfl ?_
  refine own_iloadN C d2_15 rfl ?_
  refine own_aaload C d2_16 Ar rfl (by rw [L3]; decide) V0 ?_
  refine own_astore C 4 d2_17 rfl rfl rfl rfl ?_
  refine own_aload C d2_19 rfl rfl ?_
  refine own_getF C d2_21 (hw _ (List.mem_of_getElem? (i := 14) rfl)) Via.refl F0 ?_
  refine own_aloadN C d2_24 rfl rfl ?_
  refine own_acmpne C d2_25 t2_25 rfl rfl (fun h' => absurd h' (fun z => z rfl)) (fun _ => ?_)
  refine own_aload C d2_28 rfl rfl ?_
  exact own_retA C d2_30 rfl rfl (by decide) (by decide) ⟨rfl, rfl⟩
set_option maxRecDepth 65536 in
set_option maxHeartbeats 40000000 in
theorem own_of_1 (l : Launch) (Z : State) (a0 : Array Value) (hw : ∀ d ∈ tables_1, d.before a0 Z = true) (n0 : Nat) (h : Heap) (aN : Addr) (cN : Cell) (S_NAVIGATIONS : Sta Z h "com/example/keystone_script/keystonescript/compiler/Navigation" "NAVIGATIONS" "[Lcom/example/keystone_script/keystonescript/compiler/Navigation;" (.ref aN)) (Ar : Arr Z h aN cN (.object "com/example/keystone_script/keystonescript/compiler/Navigation")) (L3 : cN.slots.size = 3) (b0 t0 : Addr) (V0 : cN.slots[0]? = some (.ref b0)) (F0 : Fld Z h b0 "com/example/keystone_script/keystonescript/compiler/Navigation" "token" "Lcom/example/keystone_script/keystonescript/compiler/TokenType;" (.ref t0)) (b1 t1 : Addr) (V1 : cN.slots[1]? = some (.ref b1)) (F1 : Fld Z h b1 "com/example/keystone_script/keystonescript/compiler/Navigation" "token" "Lcom/example/keystone_script/keystonescript/compiler/TokenType;" (.ref t1)) (b2 t2 : Addr) (V2 : cN.slots[2]? = some (.ref b2)) (F2 : Fld Z h b2 "com/example/keystone_script/keystonescript/compiler/Navigation" "token" "Lcom/example/keystone_script/keystonescript/compiler/TokenType;" (.ref t2)) (q0 : ¬ (.ref t0 : Value) = .ref t1) : own_Con l Z (⟨"com/example/keystone_script/keystonescript/compiler/Navigation", "of", "(Lcom/example/keystone_script/keystonescript/compiler/TokenType;)Lcom/example/keystone_script/keystonescript/compiler/Navigation;"⟩ : MethodName) prog_56_method_4_code 5 (some (.object "com/example/keystone_script/keystonescript/compiler/Navigation")) ({ frames := 0, cells := 0, slots := 0, locals := 0 } : Room) n0 [(.ref t1)] h (fun r h' => r = some (.ref b1) ∧ h = h') := by
  refine own_Con.mk (Ls := [.val (.ref t1), .unset, .unset, .unset, .unset]) pn2 (fun m => by first | (simp [entryFrame, mkF, argsToLocals, Value.category]; done) | rfl) ?_
  intro p e s m below meth c C
  refine own_getS C d2_0 (hw _ (List.mem_of_getElem? (i := 11) rfl)) S_NAVIGATIONS ?_
  refine own_astoreN C 1 d2_3 rfl rfl rfl rfl ?_
  refine own_aloadN C d2_4 rfl rfl ?_
  refine own_arraylength C d2_5 Ar ?_
  rw [L3]
  refine own_istoreN C 2 d2_6 rfl rfl rfl ?_
  refine own_iconst C (0 : Int32) d2_7 rfl ?_
  refine own_istoreN C 3 d2_8 rfl rfl rfl ?_
  refine own_iloadN C d2_9 rfl ?_
  refine own_iloadN C d2_10 rfl ?_
  refine own_icmpge C d2_11 t2_11 (fun h' => absurd h' (by decide)) (fun _ => ?_)
  refine own_aloadN C d2_14 rfl rfl ?_
  refine own_iloadN C d2_15 rfl ?_
  refine own_aaload C d2_16 Ar rfl (by rw [L3]; decide) V0 ?_
  refine own_astore C 4 d2_17 rfl rfl rfl rfl ?_
  refine own_aload C d2_19 rfl rfl ?_
  refine own_getF C d2_21 (hw _ (List.mem_of_getElem? (i := 14) rfl)) Via.refl F0 ?_
  refine own_aloadN C d2_24 rfl rfl ?_
  refine own_acmpne C d2_25 t2_25 rfl rfl (fun _ => ?_) (fun h' => absurd h' q0)
  refine own_iinc C (1 : Int32) d2_31 rfl rfl ?_
  refine own_goto C d2_34 t2_34 ?_
  refine own_iloadN C d2_9 rfl ?_
  refine own_iloadN C d2_10 rfl ?_
  refine own_icmpge C d2_11 t2_11 (fun h' => absurd h' (by decide)) (fun _ => ?_)
  refine own_aloadN C d2_14 rfl rfl ?_
  refine own_iloadN C d2_15 rfl ?_
  refine own_aaload C d2_16 Ar rfl (by rw [L3]; decide) V1 ?_
  refine own_astore C 4 d2_17 rfl rfl rfl rfl ?_
  refine own_aload C d2_19 rfl rfl ?_
  refine own_getF C d2_21 (hw _ (List.mem_of_getElem? (i := 14) rfl)) Via.refl F1 ?_
  refine own_aloadN C d2_24 rfl rfl ?_
  refine own_acmpne C d2_25 t2_25 rfl rfl (fun h' => absurd h' (fun z => z rfl)) (fun _ => ?_)
  refine own_aload C d2_28 rfl rfl ?_
  exact own_retA C d2_30 rfl rfl (by decide) (by decide) ⟨rfl, rfl⟩
set_option maxRecDepth 65536 in
set_option maxHeartbeats 40000000 in
theorem own_of_2 (l : Launch) (Z : State) (a0 : Array Value) (hw : ∀ d ∈ tables_1, d.before a0 Z = true) (n0 : Nat) (h : Heap) (aN : Addr) (cN : Cell) (S_NAVIGATIONS : Sta Z h "com/example/keystone_script/keystonescript/compiler/Navigation" "NAVIGATIONS" "[Lcom/example/keystone_script/keystonescript/compiler/Navigation;" (.ref aN)) (Ar : Arr Z h aN cN (.object "com/example/keystone_script/keystonescript/compiler/Navigation")) (L3 : cN.slots.size = 3) (b0 t0 : Addr) (V0 : cN.slots[0]? = some (.ref b0)) (F0 : Fld Z h b0 "com/example/keystone_script/keystonescript/compiler/Navigation" "token" "Lcom/example/keystone_script/keystonescript/compiler/TokenType;" (.ref t0)) (b1 t1 : Addr) (V1 : cN.slots[1]? = some (.ref b1)) (F1 : Fld Z h b1 "com/example/keystone_script/keystonescript/compiler/Navigation" "token" "Lcom/example/keystone_script/keystonescript/compiler/TokenType;" (.ref t1)) (b2 t2 : Addr) (V2 : cN.slots[2]? = some (.ref b2)) (F2 : Fld Z h b2 "com/example/keystone_script/keystonescript/compiler/Navigation" "token" "Lcom/example/keystone_script/keystonescript/compiler/TokenType;" (.ref t2)) (q0 : ¬ (.ref t0 : Value) = .ref t2) (q1 : ¬ (.ref t1 : Value) = .ref t2) : own_Con l Z (⟨"com/example/keystone_script/keystonescript/compiler/Navigation", "of", "(Lcom/example/keystone_script/keystonescript/compiler/TokenType;)Lcom/example/keystone_script/keystonescript/compiler/Navigation;"⟩ : MethodName) prog_56_method_4_code 5 (some (.object "com/example/keystone_script/keystonescript/compiler/Navigation")) ({ frames := 0, cells := 0, slots := 0, locals := 0 } : Room) n0 [(.ref t2)] h (fun r h' => r = some (.ref b2) ∧ h = h') := by
  refine own_Con.mk (Ls := [.val (.ref t2), .unset, .unset, .unset, .unset]) pn2 (fun m => by first | (simp [entryFrame, mkF, argsToLocals, Value.category]; done) | rfl) ?_
  intro p e s m below meth c C
  refine own_getS C d2_0 (hw _ (List.mem_of_getElem? (i := 11) rfl)) S_NAVIGATIONS ?_
  refine own_astoreN C 1 d2_3 rfl rfl rfl rfl ?_
  refine own_aloadN C d2_4 rfl rfl ?_
  refine own_arraylength C d2_5 Ar ?_
  rw [L3]
  refine own_istoreN C 2 d2_6 rfl rfl rfl ?_
  refine own_iconst C (0 : Int32) d2_7 rfl ?_
  refine own_istoreN C 3 d2_8 rfl rfl rfl ?_
  refine own_iloadN C d2_9 rfl ?_
  refine own_iloadN C d2_10 rfl ?_
  refine own_icmpge C d2_11 t2_11 (fun h' => absurd h' (by decide)) (fun _ => ?_)
  refine own_aloadN C d2_14 rfl rfl ?_
  refine own_iloadN C d2_15 rfl ?_
  refine own_aaload C d2_16 Ar rfl (by rw [L3]; decide) V0 ?_
  refine own_astore C 4 d2_17 rfl rfl rfl rfl ?_
  refine own_aload C d2_19 rfl rfl ?_
  refine own_getF C d2_21 (hw _ (List.mem_of_getElem? (i := 14) rfl)) Via.refl F0 ?_
  refine own_aloadN C d2_24 rfl rfl ?_
  refine own_acmpne C d2_25 t2_25 rfl rfl (fun _ => ?_) (fun h' => absurd h' q0)
  refine own_iinc C (1 : Int32) d2_31 rfl rfl ?_
  refine own_goto C d2_34 t2_34 ?_
  refine own_iloadN C d2_9 rfl ?_
  refine own_iloadN C d2_10 rfl ?_
  refine own_icmpge C d2_11 t2_11 (fun h' => absurd h' (by decide)) (fun _ => ?_)
  refine own_aloadN C d2_14 rfl rfl ?_
  refine own_iloadN C d2_15 rfl ?_
  refine own_aaload C d2_16 Ar rfl (by rw [L3]; decide) V1 ?_
  refine own_astore C 4 d2_17 rfl rfl rfl rfl ?_
  refine own_aload C d2_19 rfl rfl ?_
  refine own_getF C d2_21 (hw _ (List.mem_of_getElem? (i := 14) rfl)) Via.refl F1 ?_
  refine own_aloadN C d2_24 rfl rfl ?_
  refine own_acmpne C d2_25 t2_25 rfl rfl (fun _ => ?_) (fun h' => absurd h' q1)
  refine own_iinc C (1 : Int32) d2_31 rfl rfl ?_
  refine own_goto C d2_34 t2_34 ?_
  refine own_iloadN C d2_9 rfl ?_
  refine own_iloadN C d2_10 rfl ?_
  refine own_icmpge C d2_11 t2_11 (fun h' => absurd h' (by decide)) (fun _ => ?_)
  refine own_aloadN C d2_14 rfl rfl ?_
  refine own_iloadN C d2_15 rfl ?_
  refine own_aaload C d2_16 Ar rfl (by rw [L3]; decide) V2 ?_
  refine own_astore C 4 d2_17 rfl rfl rfl rfl ?_
  refine own_aload C d2_19 rfl rfl ?_
  refine own_getF C d2_21 (hw _ (List.mem_of_getElem? (i := 14) rfl)) Via.refl F2 ?_
  refine own_aloadN C d2_24 rfl rfl ?_
  refine own_acmpne C d2_25 t2_25 rfl rfl (fun h' => absurd h' (fun z => z rfl)) (fun _ => ?_)
  refine own_aload C d2_28 rfl rfl ?_
  exact own_retA C d2_30 rfl rfl (by decide) (by decide) ⟨rfl, rfl⟩
set_option maxRecDepth 65536 in
set_option maxHeartbeats 40000000 in
theorem own_of_3 (l : Launch) (Z : State) (a0 : Array Value) (hw : ∀ d ∈ tables_1, d.before a0 Z = true) (n0 : Nat) (h : Heap) (v : Value) (hv : v.isRef = true) (aN : Addr) (cN : Cell) (S_NAVIGATIONS : Sta Z h "com/example/keystone_script/keystonescript/compiler/Navigation" "NAVIGATIONS" "[Lcom/example/keystone_script/keystonescript/compiler/Navigation;" (.ref aN)) (Ar : Arr Z h aN cN (.object "com/example/keystone_script/keystonescript/compiler/Navigation")) (L3 : cN.slots.size = 3) (b0 t0 : Addr) (V0 : cN.slots[0]? = some (.ref b0)) (F0 : Fld Z h b0 "com/example/keystone_script/keystonescript/compiler/Navigation" "token" "Lcom/example/keystone_script/keystonescript/compiler/TokenType;" (.ref t0)) (b1 t1 : Addr) (V1 : cN.slots[1]? = some (.ref b1)) (F1 : Fld Z h b1 "com/example/keystone_script/keystonescript/compiler/Navigation" "token" "Lcom/example/keystone_script/keystonescript/compiler/TokenType;" (.ref t1)) (b2 t2 : Addr) (V2 : cN.slots[2]? = some (.ref b2)) (F2 : Fld Z h b2 "com/example/keystone_script/keystonescript/compiler/Navigation" "token" "Lcom/example/keystone_script/keystonescript/compiler/TokenType;" (.ref t2)) (q0 : ¬ (.ref t0 : Value) = v) (q1 : ¬ (.ref t1 : Value) = v) (q2 : ¬ (.ref t2 : Value) = v) : own_Con l Z (⟨"com/example/keystone_script/keystonescript/compiler/Navigation", "of", "(Lcom/example/keystone_script/keystonescript/compiler/TokenType;)Lcom/example/keystone_script/keystonescript/compiler/Navigation;"⟩ : MethodName) prog_56_method_4_code 5 (some (.object "com/example/keystone_script/keystonescript/compiler/Navigation")) ({ frames := 0, cells := 0, slots := 0, locals := 0 } : Room) n0 [v] h (fun r h' => r = some .null ∧ h = h') := by
  refine own_Con.mk (Ls := [.val v, .unset, .unset, .unset, .unset]) pn2 (fun m => by rcases XT.refc hv with rfl | ⟨_, rfl⟩ <;> first | (simp [entryFrame, mkF, argsToLocals, Value.category]; done) | rfl) ?_
  intro p e s m below meth c C
  refine own_getS C d2_0 (hw _ (List.mem_of_getElem? (i := 11) rfl)) S_NAVIGATIONS ?_
  refine own_astoreN C 1 d2_3 rfl rfl rfl rfl ?_
  refine own_aloadN C d2_4 rfl rfl ?_
  refine own_arraylength C d2_5 Ar ?_
  rw [L3]
  refine own_istoreN C 2 d2_6 rfl rfl rfl ?_
  refine own_iconst C (0 : Int32) d2_7 rfl ?_
  refine own_istoreN C 3 d2_8 rfl rfl rfl ?_
  refine own_iloadN C d2_9 rfl ?_
  refine own_iloadN C d2_10 rfl ?_
  refine own_icmpge C d2_11 t2_11 (fun h' => absurd h' (by decide)) (fun _ => ?_)
  refine own_aloadN C d2_14 rfl rfl ?_
  refine own_iloadN C d2_15 rfl ?_
  refine own_aaload C d2_16 Ar rfl (by rw [L3]; decide) V0 ?_
  refine own_astore C 4 d2_17 rfl rfl rfl rfl ?_
  refine own_aload C d2_19 rfl rfl ?_
  refine own_getF C d2_21 (hw _ (List.mem_of_getElem? (i := 14) rfl)) Via.refl F0 ?_
  refine own_aloadN C d2_24 rfl hv ?_
  refine own_acmpne C d2_25 t2_25 rfl hv (fun _ => ?_) (fun h' => absurd h' q0)
  refine own_iinc C (1 : Int32) d2_31 rfl rfl ?_
  refine own_goto C d2_34 t2_34 ?_
  refine own_iloadN C d2_9 rfl ?_
  refine own_iloadN C d2_10 rfl ?_
  refine own_icmpge C d2_11 t2_11 (fun h' => absurd h' (by decide)) (fun _ => ?_)
  refine own_aloadN C d2_14 rfl rfl ?_
  refine own_iloadN C d2_15 rfl ?_
  refine own_aaload C d2_16 Ar rfl (by rw [L3]; decide) V1 ?_
  refine own_astore C 4 d2_17 rfl rfl rfl rfl ?_
  refine own_aload C d2_19 rfl rfl ?_
  refine own_getF C d2_21 (hw _ (List.mem_of_getElem? (i := 14) rfl)) Via.refl F1 ?_
  refine own_aloadN C d2_24 rfl hv ?_
  refine own_acmpne C d2_25 t2_25 rfl hv (fun _ => ?_) (fun h' => absurd h' q1)
  refine own_iinc C (1 : Int32) d2_31 rfl rfl ?_
  refine own_goto C d2_34 t2_34 ?_
  refine own_iloadN C d2_9 rfl ?_
  refine own_iloadN C d2_10 rfl ?_
  refine own_icmpge C d2_11 t2_11 (fun h' => absurd h' (by decide)) (fun _ => ?_)
  refine own_aloadN C d2_14 rfl rfl ?_
  refine own_iloadN C d2_15 rfl ?_
  refine own_aaload C d2_16 Ar rfl (by rw [L3]; decide) V2 ?_
  refine own_astore C 4 d2_17 rfl rfl rfl rfl ?_
  refine own_aload C d2_19 rfl rfl ?_
  refine own_getF C d2_21 (hw _ (List.mem_of_getElem? (i := 14) rfl)) Via.refl F2 ?_
  refine own_aloadN C d2_24 rfl hv ?_
  refine own_acmpne C d2_25 t2_25 rfl hv (fun _ => ?_) (fun h' => absurd h' q2)
  refine own_iinc C (1 : Int32) d2_31 rfl rfl ?_
  refine own_goto C d2_34 t2_34 ?_
  refine own_iloadN C d2_9 rfl ?_
  refine own_iloadN C d2_10 rfl ?_
  refine own_icmpge C d2_11 t2_11 (fun _ => ?_) (fun h' => absurd h' (by decide))
  refine own_aconst_null C d2_37 ?_
  exact own_retA C d2_38 rfl rfl (by decide) (by decide) ⟨rfl, rfl⟩
theorem own_sixteen (x : Int32) : x &&& 15 = 0 ∨ x &&& 15 = 1 ∨ x &&& 15 = 2 ∨ x &&& 15 = 3 ∨ x &&& 15 = 4 ∨ x &&& 15 = 5 ∨ x &&& 15 = 6 ∨ x &&& 15 = 7 ∨ x &&& 15 = 8 ∨ x &&& 15 = 9 ∨ x &&& 15 = 10 ∨ x &&& 15 = 11 ∨ x &&& 15 = 12 ∨ x &&& 15 = 13 ∨ x &&& 15 = 14 ∨ x &&& 15 = 15 := by
  have h1 := c_mask x 15 4 (by decide) (by decide)
  simp only [← Int32.toInt_inj]
  have e0 : (0 : Int32).toInt = 0 := rfl
  have e1 : (1 : Int32).toInt = 1 := rfl
  have e2 : (2 : Int32).toInt = 2 := rfl
  have e3 : (3 : Int32).toInt = 3 := rfl
  have e4 : (4 : Int32).toInt = 4 := rfl
  have e5 : (5 : Int32).toInt = 5 := rfl
  have e6 : (6 : Int32).toInt = 6 := rfl
  have e7 : (7 : Int32).toInt = 7 := rfl
  have e8 : (8 : Int32).toInt = 8 := rfl
  have e9 : (9 : Int32).toInt = 9 := rfl
  have e10 : (10 : Int32).toInt = 10 := rfl
  have e11 : (11 : Int32).toInt = 11 := rfl
  have e12 : (12 : Int32).toInt = 12 := rfl
  have e13 : (13 : Int32).toInt = 13 := rfl
  have e14 : (14 : Int32).toInt = 14 := rfl
  have e15 : (15 : Int32).toInt = 15 := rfl
  rw [h1, e0, e1, e2, e3, e4, e5, e6, e7, e8, e9, e10, e11, e12, e13, e14, e15]
  omega
set_option maxRecDepth 65536 in
set_option maxHeartbeats 40000000 in
theorem own_law (l : Launch) (Z : State) (a0 : Array Value) (hw : ∀ d ∈ tables_1, d.before a0 Z = true) (n0 : Nat) (h : Heap) (i0 : Int32) (a_DOT : Addr) (S_DOT : Sta Z h "com/example/keystone_script/keystonescript/compiler/TokenType" "DOT" "Lcom/example/keystone_script/keystonescript/compiler/TokenType;" (.ref a_DOT)) (E_DOT : Exa Z h a_DOT "com/example/keystone_script/keystonescript/compiler/TokenType") (a_NAVIGATIONS : Addr) (S_NAVIGATIONS : Sta Z h "com/example/keystone_script/keystonescript/compiler/Navigation" "NAVIGATIONS" "[Lcom/example/keystone_script/keystonescript/compiler/Navigation;" (.ref a_NAVIGATIONS)) (c_NAVIGATIONS : Cell) (Ar_NAVIGATIONS : Arr Z h a_NAVIGATIONS c_NAVIGATIONS (.object "com/example/keystone_script/keystonescript/compiler/Navigation")) (a_DIRECT : Addr) (S_DIRECT : Sta Z h "com/example/keystone_script/keystonescript/compiler/Navigation" "DIRECT" "Lcom/example/keystone_script/keystonescript/compiler/Navigation;" (.ref a_DIRECT)) (E_DIRECT : Exa Z h a_DIRECT "com/example/keystone_script/keystonescript/compiler/Navigation") (a_FIELD_DOT : Addr) (S_FIELD_DOT : Sta Z h "com/example/keystone_script/keystonescript/compiler/TokenType" "FIELD_DOT" "Lcom/example/keystone_script/keystonescript/compiler/TokenType;" (.ref a_FIELD_DOT)) (E_FIELD_DOT : Exa Z h a_FIELD_DOT "com/example/keystone_script/keystonescript/compiler/TokenType") (a_SAFE : Addr) (S_SAFE : Sta Z h "com/example/keystone_script/keystonescript/compiler/Navigation" "SAFE" "Lcom/example/keystone_script/keystonescript/compiler/Navigation;" (.ref a_SAFE)) (E_SAFE : Exa Z h a_SAFE "com/example/keystone_script/keystonescript/compiler/Navigation") (a_SAFE_DOT : Addr) (S_SAFE_DOT : Sta Z h "com/example/keystone_script/keystonescript/compiler/TokenType" "SAFE_DOT" "Lcom/example/keystone_script/keystonescript/compiler/TokenType;" (.ref a_SAFE_DOT)) (E_SAFE_DOT : Exa Z h a_SAFE_DOT "com/example/keystone_script/keystonescript/compiler/TokenType") (a_SPREAD : Addr) (S_SPREAD : Sta Z h "com/example/keystone_script/keystonescript/compiler/Navigation" "SPREAD" "Lcom/example/keystone_script/keystonescript/compiler/Navigation;" (.ref a_SPREAD)) (E_SPREAD : Exa Z h a_SPREAD "com/example/keystone_script/keystonescript/compiler/Navigation") (a_SPREAD_DOT : Addr) (S_SPREAD_DOT : Sta Z h "com/example/keystone_script/keystonescript/compiler/TokenType" "SPREAD_DOT" "Lcom/example/keystone_script/keystonescript/compiler/TokenType;" (.ref a_SPREAD_DOT)) (E_SPREAD_DOT : Exa Z h a_SPREAD_DOT "com/example/keystone_script/keystonescript/compiler/TokenType") (a_PLUS : Addr) (S_PLUS : Sta Z h "com/example/keystone_script/keystonescript/compiler/TokenType" "PLUS" "Lcom/example/keystone_script/keystonescript/compiler/TokenType;" (.ref a_PLUS)) (E_PLUS : Exa Z h a_PLUS "com/example/keystone_script/keystonescript/compiler/TokenType") (a_NEWLINE : Addr) (S_NEWLINE : Sta Z h "com/example/keystone_script/keystonescript/compiler/TokenType" "NEWLINE" "Lcom/example/keystone_script/keystonescript/compiler/TokenType;" (.ref a_NEWLINE)) (E_NEWLINE : Exa Z h a_NEWLINE "com/example/keystone_script/keystonescript/compiler/TokenType") (a_RANGE : Addr) (S_RANGE : Sta Z h "com/example/keystone_script/keystonescript/compiler/TokenType" "RANGE" "Lcom/example/keystone_script/keystonescript/compiler/TokenType;" (.ref a_RANGE)) (E_RANGE : Exa Z h a_RANGE "com/example/keystone_script/keystonescript/compiler/TokenType") (a_QUESTION : Addr) (S_QUESTION : Sta Z h "com/example/keystone_script/keystonescript/compiler/TokenType" "QUESTION" "Lcom/example/keystone_script/keystonescript/compiler/TokenType;" (.ref a_QUESTION)) (E_QUESTION : Exa Z h a_QUESTION "com/example/keystone_script/keystonescript/compiler/TokenType") (a_AT : Addr) (S_AT : Sta Z h "com/example/keystone_script/keystonescript/compiler/TokenType" "AT" "Lcom/example/keystone_script/keystonescript/compiler/TokenType;" (.ref a_AT)) (E_AT : Exa Z h a_AT "com/example/keystone_script/keystonescript/compiler/TokenType") (a_ELVIS : Addr) (S_ELVIS : Sta Z h "com/example/keystone_script/keystonescript/compiler/TokenType" "ELVIS" "Lcom/example/keystone_script/keystonescript/compiler/TokenType;" (.ref a_ELVIS)) (E_ELVIS : Exa Z h a_ELVIS "com/example/keystone_script/keystonescript/compiler/TokenType") (a_RANGE_EXCLUSIVE : Addr) (S_RANGE_EXCLUSIVE : Sta Z h "com/example/keystone_script/keystonescript/compiler/TokenType" "RANGE_EXCLUSIVE" "Lcom/example/keystone_script/keystonescript/compiler/TokenType;" (.ref a_RANGE_EXCLUSIVE)) (E_RANGE_EXCLUSIVE : Exa Z h a_RANGE_EXCLUSIVE "com/example/keystone_script/keystonescript/compiler/TokenType") (a_COMMA : Addr) (S_COMMA : Sta Z h "com/example/keystone_script/keystonescript/compiler/TokenType" "COMMA" "Lcom/example/keystone_script/keystonescript/compiler/TokenType;" (.ref a_COMMA)) (E_COMMA : Exa Z h a_COMMA "com/example/keystone_script/keystonescript/compiler/TokenType") (a_END : Addr) (S_END : Sta Z h "com/example/keystone_script/keystonescript/compiler/TokenType" "END" "Lcom/example/keystone_script/keystonescript/compiler/TokenType;" (.ref a_END)) (E_END : Exa Z h a_END "com/example/keystone_script/keystonescript/compiler/TokenType") (a_STAR : Addr) (S_STAR : Sta Z h "com/example/keystone_script/keystonescript/compiler/TokenType" "STAR" "Lcom/example/keystone_script/keystonescript/compiler/TokenType;" (.ref a_STAR)) (E_STAR : Exa Z h a_STAR "com/example/keystone_script/keystonescript/compiler/TokenType") (a_IDENTIFIER : Addr) (S_IDENTIFIER : Sta Z h "com/example/keystone_script/keystonescript/compiler/TokenType" "IDENTIFIER" "Lcom/example/keystone_script/keystonescript/compiler/TokenType;" (.ref a_IDENTIFIER)) (E_IDENTIFIER : Exa Z h a_IDENTIFIER "com/example/keystone_script/keystonescript/compiler/TokenType") (L_NAVIGATIONS : c_NAVIGATIONS.slots.size = 3) (V_NAVIGATIONS_0 : c_NAVIGATIONS.slots[0]? = some (.ref a_DIRECT)) (F_DIRECT_token : Fld Z h a_DIRECT "com/example/keystone_script/keystonescript/compiler/Navigation" "token" "Lcom/example/keystone_script/keystonescript/compiler/TokenType;" (.ref a_DOT)) (F_DOT_ordinal : Fld Z h a_DOT "java/lang/Enum" "ordinal" "I" (.int (70 : Int32))) (F_FIELD_DOT_ordinal : Fld Z h a_FIELD_DOT "java/lang/Enum" "ordinal" "I" (.int (73 : Int32))) (V_NAVIGATIONS_1 : c_NAVIGATIONS.slots[1]? = some (.ref a_SAFE)) (F_SAFE_token : Fld Z h a_SAFE "com/example/keystone_script/keystonescript/compiler/Navigation" "token" "Lcom/example/keystone_script/keystonescript/compiler/TokenType;" (.ref a_SAFE_DOT)) (F_SAFE_DOT_ordinal : Fld Z h a_SAFE_DOT "java/lang/Enum" "ordinal" "I" (.int (71 : Int32))) (V_NAVIGATIONS_2 : c_NAVIGATIONS.slots[2]? = some (.ref a_SPREAD)) (F_SPREAD_token : Fld Z h a_SPREAD "com/example/keystone_script/keystonescript/compiler/Navigation" "token" "Lcom/example/keystone_script/keystonescript/compiler/TokenType;" (.ref a_SPREAD_DOT)) (F_SPREAD_DOT_ordinal : Fld Z h a_SPREAD_DOT "java/lang/Enum" "ordinal" "I" (.int (72 : Int32))) (F_PLUS_ordinal : Fld Z h a_PLUS "java/lang/Enum" "ordinal" "I" (.int (40 : Int32))) (F_NEWLINE_ordinal : Fld Z h a_NEWLINE "java/lang/Enum" "ordinal" "I" (.int (89 : Int32))) (F_RANGE_ordinal : Fld Z h a_RANGE "java/lang/Enum" "ordinal" "I" (.int (77 : Int32))) (F_QUESTION_ordinal : Fld Z h a_QUESTION "java/lang/Enum" "ordinal" "I" (.int (75 : Int32))) (F_AT_ordinal : Fld Z h a_AT "java/lang/Enum" "ordinal" "I" (.int (74 : Int32))) (F_ELVIS_ordinal : Fld Z h a_ELVIS "java/lang/Enum" "ordinal" "I" (.int (76 : Int32))) (F_RANGE_EXCLUSIVE_ordinal : Fld Z h a_RANGE_EXCLUSIVE "java/lang/Enum" "ordinal" "I" (.int (78 : Int32))) (F_COMMA_ordinal : Fld Z h a_COMMA "java/lang/Enum" "ordinal" "I" (.int (79 : Int32))) (F_END_ordinal : Fld Z h a_END "java/lang/Enum" "ordinal" "I" (.int (90 : Int32))) (F_STAR_ordinal : Fld Z h a_STAR "java/lang/Enum" "ordinal" "I" (.int (44 : Int32))) (F_IDENTIFIER_ordinal : Fld Z h a_IDENTIFIER "java/lang/Enum" "ordinal" "I" (.int (0 : Int32)))  : own_Con l Z x code maxLocals ret room_1 n0 [(.int i0)] h (fun v h' => v = some (.int (1 : Int32))) := by
  refine own_Con.mk (Ls := [.val (.int i0), .unset, .unset, .unset]) pn0 (fun m => by first | (simp [entryFrame, mkF, argsToLocals, Value.category, maxLocals]; done) | rfl) ?_
  intro p e s m below meth c C
  refine own_iloadN C d0_0 rfl ?_
  refine own_bipush C (15 : Int32) d0_1 rfl ?_
  refine own_iand C d0_3 ?_
  refine own_istoreN C 1 d0_4 rfl rfl rfl ?_
  refine own_iloadN C d0_5 rfl ?_
  have hi := own_sixteen i0
  generalize i0 &&& 15 = i at hi ⊢
  rcases hi with rfl | rfl | rfl | rfl | rfl | rfl | rfl | rfl | rfl | rfl | rfl | rfl | rfl | rfl | rfl | rfl
  · refine own_callS C (own_token_0 l Z a0 hw n0 _ _ S_DOT) d0_6 (hw _ (List.mem_of_getElem? (i := 0) rfl)) (hw _ (List.mem_of_getElem? (i := 1) rfl)) (hw _ (List.mem_of_getElem? (i := 2) rfl)) (hw _ (List.mem_of_getElem? (i := 3) rfl)) (by decide) pd1 rfl rfl rfl (by decide) (Nat.le_of_ble_eq_true rfl) (by decide) (by decide) ?_
    rintro _ _ ⟨rfl, rfl⟩
    refine own_astoreN C 2 d0_9 rfl rfl rfl rfl ?_
    refine own_aloadN C d0_10 rfl rfl ?_
    refine own_callS C (own_of_0 l Z a0 hw n0 _ a_NAVIGATIONS c_NAVIGATIONS S_NAVIGATIONS Ar_NAVIGATIONS L_NAVIGATIONS a_DIRECT a_DOT V_NAVIGATIONS_0 F_DIRECT_token a_SAFE a_SAFE_DOT V_NAVIGATIONS_1 F_SAFE_token a_SPREAD a_SPREAD_DOT V_NAVIGATIONS_2 F_SPREAD_token ) d0_11 (hw _ (List.mem_of_getElem? (i := 7) rfl)) (hw _ (List.mem_of_getElem? (i := 8) rfl)) (hw _ (List.mem_of_getElem? (i := 9) rfl)) (hw _ (List.mem_of_getElem? (i := 10) rfl)) (by decide) pd2 rfl rfl rfl (by decide) (Nat.le_of_ble_eq_true rfl) (by decide) (by decide) ?_
    rintro _ _ ⟨rfl, rfl⟩
    refine own_astoreN C 3 d0_14 rfl rfl rfl rfl ?_
    refine own_aloadN C d0_15 rfl rfl ?_
    refine own_iloadN C d0_16 rfl ?_
    refine own_callS C (own_exp_0 l Z a0 hw n0 _ _ S_DIRECT) d0_17 (hw _ (List.mem_of_getElem? (i := 16) rfl)) (hw _ (List.mem_of_getElem? (i := 17) rfl)) (hw _ (List.mem_of_getElem? (i := 2) rfl)) (hw _ (List.mem_of_getElem? (i := 18) rfl)) (by decide) pd3 rfl rfl rfl (by decide) (Nat.le_of_ble_eq_true rfl) (by decide) (by decide) ?_
    rintro _ _ ⟨rfl, rfl⟩
    refine own_acmpeq C d0_20 t0_20 rfl rfl (fun _ => ?_) (fun h' => absurd h' (fun z => z rfl))
    refine own_aloadN C d0_25 rfl rfl ?_
    refine own_ifnull C d0_26 t0_26 rfl (fun h' => absurd h' nofun) (fun _ => ?_)
    refine own_aloadN C d0_29 rfl rfl ?_
    refine own_getF C d0_30 (hw _ (List.mem_of_getElem? (i := 20) rfl)) Via.refl F_DIRECT_token ?_
    refine own_aloadN C d0_33 rfl rfl ?_
    refine own_acmpeq C d0_34 t0_34 rfl rfl (fun _ => ?_) (fun h' => absurd h' (fun z => z rfl))
    refine own_iconst C (1 : Int32) d0_39 rfl ?_
    exact own_retZ C d0_40 (Or.inr rfl) (by decide) (by decide) rfl
  · refine own_callS C (own_token_1 l Z a0 hw n0 _ _ S_SAFE_DOT) d0_6 (hw _ (List.mem_of_getElem? (i := 0) rfl)) (hw _ (List.mem_of_getElem? (i := 1) rfl)) (hw _ (List.mem_of_getElem? (i := 2) rfl)) (hw _ (List.mem_of_getElem? (i := 3) rfl)) (by decide) pd1 rfl rfl rfl (by decide) (Nat.le_of_ble_eq_true rfl) (by decide) (by decide) ?_
    rintro _ _ ⟨rfl, rfl⟩
    refine own_astoreN C 2 d0_9 rfl rfl rfl rfl ?_
    refine own_aloadN C d0_10 rfl rfl ?_
    refine own_callS C (own_of_1 l Z a0 hw n0 _ a_NAVIGATIONS c_NAVIGATIONS S_NAVIGATIONS Ar_NAVIGATIONS L_NAVIGATIONS a_DIRECT a_DOT V_NAVIGATIONS_0 F_DIRECT_token a_SAFE a_SAFE_DOT V_NAVIGATIONS_1 F_SAFE_token a_SPREAD a_SPREAD_DOT V_NAVIGATIONS_2 F_SPREAD_token (fun z => F_DOT_ordinal.ne F_SAFE_DOT_ordinal (by decide) (Value.ref.inj z))) d0_11 (hw _ (List.mem_of_getElem? (i := 7) rfl)) (hw _ (List.mem_of_getElem? (i := 8) rfl)) (hw _ (List.mem_of_getElem? (i := 9) rfl)) (hw _ (List.mem_of_getElem? (i := 10) rfl)) (by decide) pd2 rfl rfl rfl (by decide) (Nat.le_of_ble_eq_true rfl) (by decide) (by decide) ?_
    rintro _ _ ⟨rfl, rfl⟩
    refine own_astoreN C 3 d0_14 rfl rfl rfl rfl ?_
    refine own_aloadN C d0_15 rfl rfl ?_
    refine own_iloadN C d0_16 rfl ?_
    refine own_callS C (own_exp_1 l Z a0 hw n0 _ _ S_SAFE) d0_17 (hw _ (List.mem_of_getElem? (i := 16) rfl)) (hw _ (List.mem_of_getElem? (i := 17) rfl)) (hw _ (List.mem_of_getElem? (i := 2) rfl)) (hw _ (List.mem_of_getElem? (i := 18) rfl)) (by decide) pd3 rfl rfl rfl (by decide) (Nat.le_of_ble_eq_true rfl) (by decide) (by decide) ?_
    rintro _ _ ⟨rfl, rfl⟩
    refine own_acmpeq C d0_20 t0_20 rfl rfl (fun _ => ?_) (fun h' => absurd h' (fun z => z rfl))
    refine own_aloadN C d0_25 rfl rfl ?_
    refine own_ifnull C d0_26 t0_26 rfl (fun h' => absurd h' nofun) (fun _ => ?_)
    refine own_aloadN C d0_29 rfl rfl ?_
    refine own_getF C d0_30 (hw _ (List.mem_of_getElem? (i := 20) rfl)) Via.refl F_SAFE_token ?_
    refine own_aloadN C d0_33 rfl rfl ?_
    refine own_acmpeq C d0_34 t0_34 rfl rfl (fun _ => ?_) (fun h' => absurd h' (fun z => z rfl))
    refine own_iconst C (1 : Int32) d0_39 rfl ?_
    exact own_retZ C d0_40 (Or.inr rfl) (by decide) (by decide) rfl
  · refine own_callS C (own_token_2 l Z a0 hw n0 _ _ S_SPREAD_DOT) d0_6 (hw _ (List.mem_of_getElem? (i := 0) rfl)) (hw _ (List.mem_of_getElem? (i := 1) rfl)) (hw _ (List.mem_of_getElem? (i := 2) rfl)) (hw _ (List.mem_of_getElem? (i := 3) rfl)) (by decide) pd1 rfl rfl rfl (by decide) (Nat.le_of_ble_eq_true rfl) (by decide) (by decide) ?_
    rintro _ _ ⟨rfl, rfl⟩
    refine own_astoreN C 2 d0_9 rfl rfl rfl rfl ?_
    refine own_aloadN C d0_10 rfl rfl ?_
    refine own_callS C (own_of_2 l Z a0 hw n0 _ a_NAVIGATIONS c_NAVIGATIONS S_NAVIGATIONS Ar_NAVIGATIONS L_NAVIGATIONS a_DIRECT a_DOT V_NAVIGATIONS_0 F_DIRECT_token a_SAFE a_SAFE_DOT V_NAVIGATIONS_1 F_SAFE_token a_SPREAD a_SPREAD_DOT V_NAVIGATIONS_2 F_SPREAD_token (fun z => F_DOT_ordinal.ne F_SPREAD_DOT_ordinal (by decide) (Value.ref.inj z)) (fun z => F_SAFE_DOT_ordinal.ne F_SPREAD_DOT_ordinal (by decide) (Value.ref.inj z))) d0_11 (hw _ (List.mem_of_getElem? (i := 7) rfl)) (hw _ (List.mem_of_getElem? (i := 8) rfl)) (hw _ (List.mem_of_getElem? (i := 9) rfl)) (hw _ (List.mem_of_getElem? (i := 10) rfl)) (by decide) pd2 rfl rfl rfl (by decide) (Nat.le_of_ble_eq_true rfl) (by decide) (by decide) ?_
    rintro _ _ ⟨rfl, rfl⟩
    refine own_astoreN C 3 d0_14 rfl rfl rfl rfl ?_
    refine own_aloadN C d0_15 rfl rfl ?_
    refine own_iloadN C d0_16 rfl ?_
    refine own_callS C (own_exp_2 l Z a0 hw n0 _ _ S_SPREAD) d0_17 (hw _ (List.mem_of_getElem? (i := 16) rfl)) (hw _ (List.mem_of_getElem? (i := 17) rfl)) (hw _ (List.mem_of_getElem? (i := 2) rfl)) (hw _ (List.mem_of_getElem? (i := 18) rfl)) (by decide) pd3 rfl rfl rfl (by decide) (Nat.le_of_ble_eq_true rfl) (by decide) (by decide) ?_
    rintro _ _ ⟨rfl, rfl⟩
    refine own_acmpeq C d0_20 t0_20 rfl rfl (fun _ => ?_) (fun h' => absurd h' (fun z => z rfl))
    refine own_aloadN C d0_25 rfl rfl ?_
    refine own_ifnull C d0_26 t0_26 rfl (fun h' => absurd h' nofun) (fun _ => ?_)
    refine own_aloadN C d0_29 rfl rfl ?_
    refine own_getF C d0_30 (hw _ (List.mem_of_getElem? (i := 20) rfl)) Via.refl F_SPREAD_token ?_
    refine own_aloadN C d0_33 rfl rfl ?_
    refine own_acmpeq C d0_34 t0_34 rfl rfl (fun _ => ?_) (fun h' => absurd h' (fun z => z rfl))
    refine own_iconst C (1 : Int32) d0_39 rfl ?_
    exact own_retZ C d0_40 (Or.inr rfl) (by decide) (by decide) rfl
  · refine own_callS C (own_token_3 l Z a0 hw n0 _ _ S_FIELD_DOT) d0_6 (hw _ (List.mem_of_getElem? (i := 0) rfl)) (hw _ (List.mem_of_getElem? (i := 1) rfl)) (hw _ (List.mem_of_getElem? (i := 2) rfl)) (hw _ (List.mem_of_getElem? (i := 3) rfl)) (by decide) pd1 rfl rfl rfl (by decide) (Nat.le_of_ble_eq_true rfl) (by decide) (by decide) ?_
    rintro _ _ ⟨rfl, rfl⟩
    refine own_astoreN C 2 d0_9 rfl rfl rfl rfl ?_
    refine own_aloadN C d0_10 rfl rfl ?_
    refine own_callS C (own_of_3 l Z a0 hw n0 _ (.ref a_FIELD_DOT) rfl a_NAVIGATIONS c_NAVIGATIONS S_NAVIGATIONS Ar_NAVIGATIONS L_NAVIGATIONS a_DIRECT a_DOT V_NAVIGATIONS_0 F_DIRECT_token a_SAFE a_SAFE_DOT V_NAVIGATIONS_1 F_SAFE_token a_SPREAD a_SPREAD_DOT V_NAVIGATIONS_2 F_SPREAD_token (fun z => F_DOT_ordinal.ne F_FIELD_DOT_ordinal (by decide) (Value.ref.inj z)) (fun z => F_SAFE_DOT_ordinal.ne F_FIELD_DOT_ordinal (by decide) (Value.ref.inj z)) (fun z => F_SPREAD_DOT_ordinal.ne F_FIELD_DOT_ordinal (by decide) (Value.ref.inj z))) d0_11 (hw _ (List.mem_of_getElem? (i := 7) rfl)) (hw _ (List.mem_of_getElem? (i := 8) rfl)) (hw _ (List.mem_of_getElem? (i := 9) rfl)) (hw _ (List.mem_of_getElem? (i := 10) rfl)) (by decide) pd2 rfl rfl rfl (by decide) (Nat.le_of_ble_eq_true rfl) (by decide) (by decide) ?_
    rintro _ _ ⟨rfl, rfl⟩
    refine own_astoreN C 3 d0_14 rfl rfl rfl rfl ?_
    refine own_aloadN C d0_15 rfl rfl ?_
    refine own_iloadN C d0_16 rfl ?_
    refine own_callS C (own_exp_no l Z a0 hw n0 _ 3 (by decide) (by decide) (by decide)) d0_17 (hw _ (List.mem_of_getElem? (i := 16) rfl)) (hw _ (List.mem_of_getElem? (i := 17) rfl)) (hw _ (List.mem_of_getElem? (i := 2) rfl)) (hw _ (List.mem_of_getElem? (i := 18) rfl)) (by decide) pd3 rfl rfl rfl (by decide) (Nat.le_of_ble_eq_true rfl) (by decide) (by decide) ?_
    rintro _ _ ⟨rfl, rfl⟩
    refine own_acmpeq C d0_20 t0_20 rfl rfl (fun _ => ?_) (fun h' => absurd h' (fun z => z rfl))
    refine own_aloadN C d0_25 rfl rfl ?_
    refine own_ifnull C d0_26 t0_26 rfl (fun _ => ?_) (fun h' => absurd h' (fun z => z rfl))
    refine own_iconst C (1 : Int32) d0_39 rfl ?_
    exact own_retZ C d0_40 (Or.inr rfl) (by decide) (by decide) rfl
  · refine own_callS C (own_token_4 l Z a0 hw n0 _) d0_6 (hw _ (List.mem_of_getElem? (i := 0) rfl)) (hw _ (List.mem_of_getElem? (i := 1) rfl)) (hw _ (List.mem_of_getElem? (i := 2) rfl)) (hw _ (List.mem_of_getElem? (i := 3) rfl)) (by decide) pd1 rfl rfl rfl (by decide) (Nat.le_of_ble_eq_true rfl) (by decide) (by decide) ?_
    rintro _ _ ⟨rfl, rfl⟩
    refine own_astoreN C 2 d0_9 rfl rfl rfl rfl ?_
    refine own_aloadN C d0_10 rfl rfl ?_
    refine own_callS C (own_of_3 l Z a0 hw n0 _ .null rfl a_NAVIGATIONS c_NAVIGATIONS S_NAVIGATIONS Ar_NAVIGATIONS L_NAVIGATIONS a_DIRECT a_DOT V_NAVIGATIONS_0 F_DIRECT_token a_SAFE a_SAFE_DOT V_NAVIGATIONS_1 F_SAFE_token a_SPREAD a_SPREAD_DOT V_NAVIGATIONS_2 F_SPREAD_token nofun nofun nofun) d0_11 (hw _ (List.mem_of_getElem? (i := 7) rfl)) (hw _ (List.mem_of_getElem? (i := 8) rfl)) (hw _ (List.mem_of_getElem? (i := 9) rfl)) (hw _ (List.mem_of_getElem? (i := 10) rfl)) (by decide) pd2 rfl rfl rfl (by decide) (Nat.le_of_ble_eq_true rfl) (by decide) (by decide) ?_
    rintro _ _ ⟨rfl, rfl⟩
    refine own_astoreN C 3 d0_14 rfl rfl rfl rfl ?_
    refine own_aloadN C d0_15 rfl rfl ?_
    refine own_iloadN C d0_16 rfl ?_
    refine own_callS C (own_exp_no l Z a0 hw n0 _ 4 (by decide) (by decide) (by decide)) d0_17 (hw _ (List.mem_of_getElem? (i := 16) rfl)) (hw _ (List.mem_of_getElem? (i := 17) rfl)) (hw _ (List.mem_of_getElem? (i := 2) rfl)) (hw _ (List.mem_of_getElem? (i := 18) rfl)) (by decide) pd3 rfl rfl rfl (by decide) (Nat.le_of_ble_eq_true rfl) (by decide) (by decide) ?_
    rintro _ _ ⟨rfl, rfl⟩
    refine own_acmpeq C d0_20 t0_20 rfl rfl (fun _ => ?_) (fun h' => absurd h' (fun z => z rfl))
    refine own_aloadN C d0_25 rfl rfl ?_
    refine own_ifnull C d0_26 t0_26 rfl (fun _ => ?_) (fun h' => absurd h' (fun z => z rfl))
    refine own_iconst C (1 : Int32) d0_39 rfl ?_
    exact own_retZ C d0_40 (Or.inr rfl) (by decide) (by decide) rfl
  · refine own_callS C (own_token_5 l Z a0 hw n0 _ _ S_IDENTIFIER) d0_6 (hw _ (List.mem_of_getElem? (i := 0) rfl)) (hw _ (List.mem_of_getElem? (i := 1) rfl)) (hw _ (List.mem_of_getElem? (i := 2) rfl)) (hw _ (List.mem_of_getElem? (i := 3) rfl)) (by decide) pd1 rfl rfl rfl (by decide) (Nat.le_of_ble_eq_true rfl) (by decide) (by decide) ?_
    rintro _ _ ⟨rfl, rfl⟩
    refine own_astoreN C 2 d0_9 rfl rfl rfl rfl ?_
    refine own_aloadN C d0_10 rfl rfl ?_
    refine own_callS C (own_of_3 l Z a0 hw n0 _ (.ref a_IDENTIFIER) rfl a_NAVIGATIONS c_NAVIGATIONS S_NAVIGATIONS Ar_NAVIGATIONS L_NAVIGATIONS a_DIRECT a_DOT V_NAVIGATIONS_0 F_DIRECT_token a_SAFE a_SAFE_DOT V_NAVIGATIONS_1 F_SAFE_token a_SPREAD a_SPREAD_DOT V_NAVIGATIONS_2 F_SPREAD_token (fun z => F_DOT_ordinal.ne F_IDENTIFIER_ordinal (by decide) (Value.ref.inj z)) (fun z => F_SAFE_DOT_ordinal.ne F_IDENTIFIER_ordinal (by decide) (Value.ref.inj z)) (fun z => F_SPREAD_DOT_ordinal.ne F_IDENTIFIER_ordinal (by decide) (Value.ref.inj z))) d0_11 (hw _ (List.mem_of_getElem? (i := 7) rfl)) (hw _ (List.mem_of_getElem? (i := 8) rfl)) (hw _ (List.mem_of_getElem? (i := 9) rfl)) (hw _ (List.mem_of_getElem? (i := 10) rfl)) (by decide) pd2 rfl rfl rfl (by decide) (Nat.le_of_ble_eq_true rfl) (by decide) (by decide) ?_
    rintro _ _ ⟨rfl, rfl⟩
    refine own_astoreN C 3 d0_14 rfl rfl rfl rfl ?_
    refine own_aloadN C d0_15 rfl rfl ?_
    refine own_iloadN C d0_16 rfl ?_
    refine own_callS C (own_exp_no l Z a0 hw n0 _ 5 (by decide) (by decide) (by decide)) d0_17 (hw _ (List.mem_of_getElem? (i := 16) rfl)) (hw _ (List.mem_of_getElem? (i := 17) rfl)) (hw _ (List.mem_of_getElem? (i := 2) rfl)) (hw _ (List.mem_of_getElem? (i := 18) rfl)) (by decide) pd3 rfl rfl rfl (by decide) (Nat.le_of_ble_eq_true rfl) (by decide) (by decide) ?_
    rintro _ _ ⟨rfl, rfl⟩
    refine own_acmpeq C d0_20 t0_20 rfl rfl (fun _ => ?_) (fun h' => absurd h' (fun z => z rfl))
    refine own_aloadN C d0_25 rfl rfl ?_
    refine own_ifnull C d0_26 t0_26 rfl (fun _ => ?_) (fun h' => absurd h' (fun z => z rfl))
    refine own_iconst C (1 : Int32) d0_39 rfl ?_
    exact own_retZ C d0_40 (Or.inr rfl) (by decide) (by decide) rfl
  · refine own_callS C (own_token_6 l Z a0 hw n0 _ _ S_END) d0_6 (hw _ (List.mem_of_getElem? (i := 0) rfl)) (hw _ (List.mem_of_getElem? (i := 1) rfl)) (hw _ (List.mem_of_getElem? (i := 2) rfl)) (hw _ (List.mem_of_getElem? (i := 3) rfl)) (by decide) pd1 rfl rfl rfl (by decide) (Nat.le_of_ble_eq_true rfl) (by decide) (by decide) ?_
    rintro _ _ ⟨rfl, rfl⟩
    refine own_astoreN C 2 d0_9 rfl rfl rfl rfl ?_
    refine own_aloadN C d0_10 rfl rfl ?_
    refine own_callS C (own_of_3 l Z a0 hw n0 _ (.ref a_END) rfl a_NAVIGATIONS c_NAVIGATIONS S_NAVIGATIONS Ar_NAVIGATIONS L_NAVIGATIONS a_DIRECT a_DOT V_NAVIGATIONS_0 F_DIRECT_token a_SAFE a_SAFE_DOT V_NAVIGATIONS_1 F_SAFE_token a_SPREAD a_SPREAD_DOT V_NAVIGATIONS_2 F_SPREAD_token (fun z => F_DOT_ordinal.ne F_END_ordinal (by decide) (Value.ref.inj z)) (fun z => F_SAFE_DOT_ordinal.ne F_END_ordinal (by decide) (Value.ref.inj z)) (fun z => F_SPREAD_DOT_ordinal.ne F_END_ordinal (by decide) (Value.ref.inj z))) d0_11 (hw _ (List.mem_of_getElem? (i := 7) rfl)) (hw _ (List.mem_of_getElem? (i := 8) rfl)) (hw _ (List.mem_of_getElem? (i := 9) rfl)) (hw _ (List.mem_of_getElem? (i := 10) rfl)) (by decide) pd2 rfl rfl rfl (by decide) (Nat.le_of_ble_eq_true rfl) (by decide) (by decide) ?_
    rintro _ _ ⟨rfl, rfl⟩
    refine own_astoreN C 3 d0_14 rfl rfl rfl rfl ?_
    refine own_aloadN C d0_15 rfl rfl ?_
    refine own_iloadN C d0_16 rfl ?_
    refine own_callS C (own_exp_no l Z a0 hw n0 _ 6 (by decide) (by decide) (by decide)) d0_17 (hw _ (List.mem_of_getElem? (i := 16) rfl)) (hw _ (List.mem_of_getElem? (i := 17) rfl)) (hw _ (List.mem_of_getElem? (i := 2) rfl)) (hw _ (List.mem_of_getElem? (i := 18) rfl)) (by decide) pd3 rfl rfl rfl (by decide) (Nat.le_of_ble_eq_true rfl) (by decide) (by decide) ?_
    rintro _ _ ⟨rfl, rfl⟩
    refine own_acmpeq C d0_20 t0_20 rfl rfl (fun _ => ?_) (fun h' => absurd h' (fun z => z rfl))
    refine own_aloadN C d0_25 rfl rfl ?_
    refine own_ifnull C d0_26 t0_26 rfl (fun _ => ?_) (fun h' => absurd h' (fun z => z rfl))
    refine own_iconst C (1 : Int32) d0_39 rfl ?_
    exact own_retZ C d0_40 (Or.inr rfl) (by decide) (by decide) rfl
  · refine own_callS C (own_token_7 l Z a0 hw n0 _ _ S_QUESTION) d0_6 (hw _ (List.mem_of_getElem? (i := 0) rfl)) (hw _ (List.mem_of_getElem? (i := 1) rfl)) (hw _ (List.mem_of_getElem? (i := 2) rfl)) (hw _ (List.mem_of_getElem? (i := 3) rfl)) (by decide) pd1 rfl rfl rfl (by decide) (Nat.le_of_ble_eq_true rfl) (by decide) (by decide) ?_
    rintro _ _ ⟨rfl, rfl⟩
    refine own_astoreN C 2 d0_9 rfl rfl rfl rfl ?_
    refine own_aloadN C d0_10 rfl rfl ?_
    refine own_callS C (own_of_3 l Z a0 hw n0 _ (.ref a_QUESTION) rfl a_NAVIGATIONS c_NAVIGATIONS S_NAVIGATIONS Ar_NAVIGATIONS L_NAVIGATIONS a_DIRECT a_DOT V_NAVIGATIONS_0 F_DIRECT_token a_SAFE a_SAFE_DOT V_NAVIGATIONS_1 F_SAFE_token a_SPREAD a_SPREAD_DOT V_NAVIGATIONS_2 F_SPREAD_token (fun z => F_DOT_ordinal.ne F_QUESTION_ordinal (by decide) (Value.ref.inj z)) (fun z => F_SAFE_DOT_ordinal.ne F_QUESTION_ordinal (by decide) (Value.ref.inj z)) (fun z => F_SPREAD_DOT_ordinal.ne F_QUESTION_ordinal (by decide) (Value.ref.inj z))) d0_11 (hw _ (List.mem_of_getElem? (i := 7) rfl)) (hw _ (List.mem_of_getElem? (i := 8) rfl)) (hw _ (List.mem_of_getElem? (i := 9) rfl)) (hw _ (List.mem_of_getElem? (i := 10) rfl)) (by decide) pd2 rfl rfl rfl (by decide) (Nat.le_of_ble_eq_true rfl) (by decide) (by decide) ?_
    rintro _ _ ⟨rfl, rfl⟩
    refine own_astoreN C 3 d0_14 rfl rfl rfl rfl ?_
    refine own_aloadN C d0_15 rfl rfl ?_
    refine own_iloadN C d0_16 rfl ?_
    refine own_callS C (own_exp_no l Z a0 hw n0 _ 7 (by decide) (by decide) (by decide)) d0_17 (hw _ (List.mem_of_getElem? (i := 16) rfl)) (hw _ (List.mem_of_getElem? (i := 17) rfl)) (hw _ (List.mem_of_getElem? (i := 2) rfl)) (hw _ (List.mem_of_getElem? (i := 18) rfl)) (by decide) pd3 rfl rfl rfl (by decide) (Nat.le_of_ble_eq_true rfl) (by decide) (by decide) ?_
    rintro _ _ ⟨rfl, rfl⟩
    refine own_acmpeq C d0_20 t0_20 rfl rfl (fun _ => ?_) (fun h' => absurd h' (fun z => z rfl))
    refine own_aloadN C d0_25 rfl rfl ?_
    refine own_ifnull C d0_26 t0_26 rfl (fun _ => ?_) (fun h' => absurd h' (fun z => z rfl))
    refine own_iconst C (1 : Int32) d0_39 rfl ?_
    exact own_retZ C d0_40 (Or.inr rfl) (by decide) (by decide) rfl
  · refine own_callS C (own_token_8 l Z a0 hw n0 _ _ S_ELVIS) d0_6 (hw _ (List.mem_of_getElem? (i := 0) rfl)) (hw _ (List.mem_of_getElem? (i := 1) rfl)) (hw _ (List.mem_of_getElem? (i := 2) rfl)) (hw _ (List.mem_of_getElem? (i := 3) rfl)) (by decide) pd1 rfl rfl rfl (by decide) (Nat.le_of_ble_eq_true rfl) (by decide) (by decide) ?_
    rintro _ _ ⟨rfl, rfl⟩
    refine own_astoreN C 2 d0_9 rfl rfl rfl rfl ?_
    refine own_aloadN C d0_10 rfl rfl ?_
    refine own_callS C (own_of_3 l Z a0 hw n0 _ (.ref a_ELVIS) rfl a_NAVIGATIONS c_NAVIGATIONS S_NAVIGATIONS Ar_NAVIGATIONS L_NAVIGATIONS a_DIRECT a_DOT V_NAVIGATIONS_0 F_DIRECT_token a_SAFE a_SAFE_DOT V_NAVIGATIONS_1 F_SAFE_token a_SPREAD a_SPREAD_DOT V_NAVIGATIONS_2 F_SPREAD_token (fun z => F_DOT_ordinal.ne F_ELVIS_ordinal (by decide) (Value.ref.inj z)) (fun z => F_SAFE_DOT_ordinal.ne F_ELVIS_ordinal (by decide) (Value.ref.inj z)) (fun z => F_SPREAD_DOT_ordinal.ne F_ELVIS_ordinal (by decide) (Value.ref.inj z))) d0_11 (hw _ (List.mem_of_getElem? (i := 7) rfl)) (hw _ (List.mem_of_getElem? (i := 8) rfl)) (hw _ (List.mem_of_getElem? (i := 9) rfl)) (hw _ (List.mem_of_getElem? (i := 10) rfl)) (by decide) pd2 rfl rfl rfl (by decide) (Nat.le_of_ble_eq_true rfl) (by decide) (by decide) ?_
    rintro _ _ ⟨rfl, rfl⟩
    refine own_astoreN C 3 d0_14 rfl rfl rfl rfl ?_
    refine own_aloadN C d0_15 rfl rfl ?_
    refine own_iloadN C d0_16 rfl ?_
    refine own_callS C (own_exp_no l Z a0 hw n0 _ 8 (by decide) (by decide) (by decide)) d0_17 (hw _ (List.mem_of_getElem? (i := 16) rfl)) (hw _ (List.mem_of_getElem? (i := 17) rfl)) (hw _ (List.mem_of_getElem? (i := 2) rfl)) (hw _ (List.mem_of_getElem? (i := 18) rfl)) (by decide) pd3 rfl rfl rfl (by decide) (Nat.le_of_ble_eq_true rfl) (by decide) (by decide) ?_
    rintro _ _ ⟨rfl, rfl⟩
    refine own_acmpeq C d0_20 t0_20 rfl rfl (fun _ => ?_) (fun h' => absurd h' (fun z => z rfl))
    refine own_aloadN C d0_25 rfl rfl ?_
    refine own_ifnull C d0_26 t0_26 rfl (fun _ => ?_) (fun h' => absurd h' (fun z => z rfl))
    refine own_iconst C (1 : Int32) d0_39 rfl ?_
    exact own_retZ C d0_40 (Or.inr rfl) (by decide) (by decide) rfl
  · refine own_callS C (own_token_9 l Z a0 hw n0 _ _ S_STAR) d0_6 (hw _ (List.mem_of_getElem? (i := 0) rfl)) (hw _ (List.mem_of_getElem? (i := 1) rfl)) (hw _ (List.mem_of_getElem? (i := 2) rfl)) (hw _ (List.mem_of_getElem? (i := 3) rfl)) (by decide) pd1 rfl rfl rfl (by decide) (Nat.le_of_ble_eq_true rfl) (by decide) (by decide) ?_
    rintro _ _ ⟨rfl, rfl⟩
    refine own_astoreN C 2 d0_9 rfl rfl rfl rfl ?_
    refine own_aloadN C d0_10 rfl rfl ?_
    refine own_callS C (own_of_3 l Z a0 hw n0 _ (.ref a_STAR) rfl a_NAVIGATIONS c_NAVIGATIONS S_NAVIGATIONS Ar_NAVIGATIONS L_NAVIGATIONS a_DIRECT a_DOT V_NAVIGATIONS_0 F_DIRECT_token a_SAFE a_SAFE_DOT V_NAVIGATIONS_1 F_SAFE_token a_SPREAD a_SPREAD_DOT V_NAVIGATIONS_2 F_SPREAD_token (fun z => F_DOT_ordinal.ne F_STAR_ordinal (by decide) (Value.ref.inj z)) (fun z => F_SAFE_DOT_ordinal.ne F_STAR_ordinal (by decide) (Value.ref.inj z)) (fun z => F_SPREAD_DOT_ordinal.ne F_STAR_ordinal (by decide) (Value.ref.inj z))) d0_11 (hw _ (List.mem_of_getElem? (i := 7) rfl)) (hw _ (List.mem_of_getElem? (i := 8) rfl)) (hw _ (List.mem_of_getElem? (i := 9) rfl)) (hw _ (List.mem_of_getElem? (i := 10) rfl)) (by decide) pd2 rfl rfl rfl (by decide) (Nat.le_of_ble_eq_true rfl) (by decide) (by decide) ?_
    rintro _ _ ⟨rfl, rfl⟩
    refine own_astoreN C 3 d0_14 rfl rfl rfl rfl ?_
    refine own_aloadN C d0_15 rfl rfl ?_
    refine own_iloadN C d0_16 rfl ?_
    refine own_callS C (own_exp_no l Z a0 hw n0 _ 9 (by decide) (by decide) (by decide)) d0_17 (hw _ (List.mem_of_getElem? (i := 16) rfl)) (hw _ (List.mem_of_getElem? (i := 17) rfl)) (hw _ (List.mem_of_getElem? (i := 2) rfl)) (hw _ (List.mem_of_getElem? (i := 18) rfl)) (by decide) pd3 rfl rfl rfl (by decide) (Nat.le_of_ble_eq_true rfl) (by decide) (by decide) ?_
    rintro _ _ ⟨rfl, rfl⟩
    refine own_acmpeq C d0_20 t0_20 rfl rfl (fun _ => ?_) (fun h' => absurd h' (fun z => z rfl))
    refine own_aloadN C d0_25 rfl rfl ?_
    refine own_ifnull C d0_26 t0_26 rfl (fun _ => ?_) (fun h' => absurd h' (fun z => z rfl))
    refine own_iconst C (1 : Int32) d0_39 rfl ?_
    exact own_retZ C d0_40 (Or.inr rfl) (by decide) (by decide) rfl
  · refine own_callS C (own_token_10 l Z a0 hw n0 _ _ S_RANGE) d0_6 (hw _ (List.mem_of_getElem? (i := 0) rfl)) (hw _ (List.mem_of_getElem? (i := 1) rfl)) (hw _ (List.mem_of_getElem? (i := 2) rfl)) (hw _ (List.mem_of_getElem? (i := 3) rfl)) (by decide) pd1 rfl rfl rfl (by decide) (Nat.le_of_ble_eq_true rfl) (by decide) (by decide) ?_
    rintro _ _ ⟨rfl, rfl⟩
    refine own_astoreN C 2 d0_9 rfl rfl rfl rfl ?_
    refine own_aloadN C d0_10 rfl rfl ?_
    refine own_callS C (own_of_3 l Z a0 hw n0 _ (.ref a_RANGE) rfl a_NAVIGATIONS c_NAVIGATIONS S_NAVIGATIONS Ar_NAVIGATIONS L_NAVIGATIONS a_DIRECT a_DOT V_NAVIGATIONS_0 F_DIRECT_token a_SAFE a_SAFE_DOT V_NAVIGATIONS_1 F_SAFE_token a_SPREAD a_SPREAD_DOT V_NAVIGATIONS_2 F_SPREAD_token (fun z => F_DOT_ordinal.ne F_RANGE_ordinal (by decide) (Value.ref.inj z)) (fun z => F_SAFE_DOT_ordinal.ne F_RANGE_ordinal (by decide) (Value.ref.inj z)) (fun z => F_SPREAD_DOT_ordinal.ne F_RANGE_ordinal (by decide) (Value.ref.inj z))) d0_11 (hw _ (List.mem_of_getElem? (i := 7) rfl)) (hw _ (List.mem_of_getElem? (i := 8) rfl)) (hw _ (List.mem_of_getElem? (i := 9) rfl)) (hw _ (List.mem_of_getElem? (i := 10) rfl)) (by decide) pd2 rfl rfl rfl (by decide) (Nat.le_of_ble_eq_true rfl) (by decide) (by decide) ?_
    rintro _ _ ⟨rfl, rfl⟩
    refine own_astoreN C 3 d0_14 rfl rfl rfl rfl ?_
    refine own_aloadN C d0_15 rfl rfl ?_
    refine own_iloadN C d0_16 rfl ?_
    refine own_callS C (own_exp_no l Z a0 hw n0 _ 10 (by decide) (by decide) (by decide)) d0_17 (hw _ (List.mem_of_getElem? (i := 16) rfl)) (hw _ (List.mem_of_getElem? (i := 17) rfl)) (hw _ (List.mem_of_getElem? (i := 2) rfl)) (hw _ (List.mem_of_getElem? (i := 18) rfl)) (by decide) pd3 rfl rfl rfl (by decide) (Nat.le_of_ble_eq_true rfl) (by decide) (by decide) ?_
    rintro _ _ ⟨rfl, rfl⟩
    refine own_acmpeq C d0_20 t0_20 rfl rfl (fun _ => ?_) (fun h' => absurd h' (fun z => z rfl))
    refine own_aloadN C d0_25 rfl rfl ?_
    refine own_ifnull C d0_26 t0_26 rfl (fun _ => ?_) (fun h' => absurd h' (fun z => z rfl))
    refine own_iconst C (1 : Int32) d0_39 rfl ?_
    exact own_retZ C d0_40 (Or.inr rfl) (by decide) (by decide) rfl
  · refine own_callS C (own_token_11 l Z a0 hw n0 _ _ S_AT) d0_6 (hw _ (List.mem_of_getElem? (i := 0) rfl)) (hw _ (List.mem_of_getElem? (i := 1) rfl)) (hw _ (List.mem_of_getElem? (i := 2) rfl)) (hw _ (List.mem_of_getElem? (i := 3) rfl)) (by decide) pd1 rfl rfl rfl (by decide) (Nat.le_of_ble_eq_true rfl) (by decide) (by decide) ?_
    rintro _ _ ⟨rfl, rfl⟩
    refine own_astoreN C 2 d0_9 rfl rfl rfl rfl ?_
    refine own_aloadN C d0_10 rfl rfl ?_
    refine own_callS C (own_of_3 l Z a0 hw n0 _ (.ref a_AT) rfl a_NAVIGATIONS c_NAVIGATIONS S_NAVIGATIONS Ar_NAVIGATIONS L_NAVIGATIONS a_DIRECT a_DOT V_NAVIGATIONS_0 F_DIRECT_token a_SAFE a_SAFE_DOT V_NAVIGATIONS_1 F_SAFE_token a_SPREAD a_SPREAD_DOT V_NAVIGATIONS_2 F_SPREAD_token (fun z => F_DOT_ordinal.ne F_AT_ordinal (by decide) (Value.ref.inj z)) (fun z => F_SAFE_DOT_ordinal.ne F_AT_ordinal (by decide) (Value.ref.inj z)) (fun z => F_SPREAD_DOT_ordinal.ne F_AT_ordinal (by decide) (Value.ref.inj z))) d0_11 (hw _ (List.mem_of_getElem? (i := 7) rfl)) (hw _ (List.mem_of_getElem? (i := 8) rfl)) (hw _ (List.mem_of_getElem? (i := 9) rfl)) (hw _ (List.mem_of_getElem? (i := 10) rfl)) (by decide) pd2 rfl rfl rfl (by decide) (Nat.le_of_ble_eq_true rfl) (by decide) (by decide) ?_
    rintro _ _ ⟨rfl, rfl⟩
    refine own_astoreN C 3 d0_14 rfl rfl rfl rfl ?_
    refine own_aloadN C d0_15 rfl rfl ?_
    refine own_iloadN C d0_16 rfl ?_
    refine own_callS C (own_exp_no l Z a0 hw n0 _ 11 (by decide) (by decide) (by decide)) d0_17 (hw _ (List.mem_of_getElem? (i := 16) rfl)) (hw _ (List.mem_of_getElem? (i := 17) rfl)) (hw _ (List.mem_of_getElem? (i := 2) rfl)) (hw _ (List.mem_of_getElem? (i := 18) rfl)) (by decide) pd3 rfl rfl rfl (by decide) (Nat.le_of_ble_eq_true rfl) (by decide) (by decide) ?_
    rintro _ _ ⟨rfl, rfl⟩
    refine own_acmpeq C d0_20 t0_20 rfl rfl (fun _ => ?_) (fun h' => absurd h' (fun z => z rfl))
    refine own_aloadN C d0_25 rfl rfl ?_
    refine own_ifnull C d0_26 t0_26 rfl (fun _ => ?_) (fun h' => absurd h' (fun z => z rfl))
    refine own_iconst C (1 : Int32) d0_39 rfl ?_
    exact own_retZ C d0_40 (Or.inr rfl) (by decide) (by decide) rfl
  · refine own_callS C (own_token_12 l Z a0 hw n0 _ _ S_RANGE_EXCLUSIVE) d0_6 (hw _ (List.mem_of_getElem? (i := 0) rfl)) (hw _ (List.mem_of_getElem? (i := 1) rfl)) (hw _ (List.mem_of_getElem? (i := 2) rfl)) (hw _ (List.mem_of_getElem? (i := 3) rfl)) (by decide) pd1 rfl rfl rfl (by decide) (Nat.le_of_ble_eq_true rfl) (by decide) (by decide) ?_
    rintro _ _ ⟨rfl, rfl⟩
    refine own_astoreN C 2 d0_9 rfl rfl rfl rfl ?_
    refine own_aloadN C d0_10 rfl rfl ?_
    refine own_callS C (own_of_3 l Z a0 hw n0 _ (.ref a_RANGE_EXCLUSIVE) rfl a_NAVIGATIONS c_NAVIGATIONS S_NAVIGATIONS Ar_NAVIGATIONS L_NAVIGATIONS a_DIRECT a_DOT V_NAVIGATIONS_0 F_DIRECT_token a_SAFE a_SAFE_DOT V_NAVIGATIONS_1 F_SAFE_token a_SPREAD a_SPREAD_DOT V_NAVIGATIONS_2 F_SPREAD_token (fun z => F_DOT_ordinal.ne F_RANGE_EXCLUSIVE_ordinal (by decide) (Value.ref.inj z)) (fun z => F_SAFE_DOT_ordinal.ne F_RANGE_EXCLUSIVE_ordinal (by decide) (Value.ref.inj z)) (fun z => F_SPREAD_DOT_ordinal.ne F_RANGE_EXCLUSIVE_ordinal (by decide) (Value.ref.inj z))) d0_11 (hw _ (List.mem_of_getElem? (i := 7) rfl)) (hw _ (List.mem_of_getElem? (i := 8) rfl)) (hw _ (List.mem_of_getElem? (i := 9) rfl)) (hw _ (List.mem_of_getElem? (i := 10) rfl)) (by decide) pd2 rfl rfl rfl (by decide) (Nat.le_of_ble_eq_true rfl) (by decide) (by decide) ?_
    rintro _ _ ⟨rfl, rfl⟩
    refine own_astoreN C 3 d0_14 rfl rfl rfl rfl ?_
    refine own_aloadN C d0_15 rfl rfl ?_
    refine own_iloadN C d0_16 rfl ?_
    refine own_callS C (own_exp_no l Z a0 hw n0 _ 12 (by decide) (by decide) (by decide)) d0_17 (hw _ (List.mem_of_getElem? (i := 16) rfl)) (hw _ (List.mem_of_getElem? (i := 17) rfl)) (hw _ (List.mem_of_getElem? (i := 2) rfl)) (hw _ (List.mem_of_getElem? (i := 18) rfl)) (by decide) pd3 rfl rfl rfl (by decide) (Nat.le_of_ble_eq_true rfl) (by decide) (by decide) ?_
    rintro _ _ ⟨rfl, rfl⟩
    refine own_acmpeq C d0_20 t0_20 rfl rfl (fun _ => ?_) (fun h' => absurd h' (fun z => z rfl))
    refine own_aloadN C d0_25 rfl rfl ?_
    refine own_ifnull C d0_26 t0_26 rfl (fun _ => ?_) (fun h' => absurd h' (fun z => z rfl))
    refine own_iconst C (1 : Int32) d0_39 rfl ?_
    exact own_retZ C d0_40 (Or.inr rfl) (by decide) (by decide) rfl
  · refine own_callS C (own_token_13 l Z a0 hw n0 _ _ S_COMMA) d0_6 (hw _ (List.mem_of_getElem? (i := 0) rfl)) (hw _ (List.mem_of_getElem? (i := 1) rfl)) (hw _ (List.mem_of_getElem? (i := 2) rfl)) (hw _ (List.mem_of_getElem? (i := 3) rfl)) (by decide) pd1 rfl rfl rfl (by decide) (Nat.le_of_ble_eq_true rfl) (by decide) (by decide) ?_
    rintro _ _ ⟨rfl, rfl⟩
    refine own_astoreN C 2 d0_9 rfl rfl rfl rfl ?_
    refine own_aloadN C d0_10 rfl rfl ?_
    refine own_callS C (own_of_3 l Z a0 hw n0 _ (.ref a_COMMA) rfl a_NAVIGATIONS c_NAVIGATIONS S_NAVIGATIONS Ar_NAVIGATIONS L_NAVIGATIONS a_DIRECT a_DOT V_NAVIGATIONS_0 F_DIRECT_token a_SAFE a_SAFE_DOT V_NAVIGATIONS_1 F_SAFE_token a_SPREAD a_SPREAD_DOT V_NAVIGATIONS_2 F_SPREAD_token (fun z => F_DOT_ordinal.ne F_COMMA_ordinal (by decide) (Value.ref.inj z)) (fun z => F_SAFE_DOT_ordinal.ne F_COMMA_ordinal (by decide) (Value.ref.inj z)) (fun z => F_SPREAD_DOT_ordinal.ne F_COMMA_ordinal (by decide) (Value.ref.inj z))) d0_11 (hw _ (List.mem_of_getElem? (i := 7) rfl)) (hw _ (List.mem_of_getElem? (i := 8) rfl)) (hw _ (List.mem_of_getElem? (i := 9) rfl)) (hw _ (List.mem_of_getElem? (i := 10) rfl)) (by decide) pd2 rfl rfl rfl (by decide) (Nat.le_of_ble_eq_true rfl) (by decide) (by decide) ?_
    rintro _ _ ⟨rfl, rfl⟩
    refine own_astoreN C 3 d0_14 rfl rfl rfl rfl ?_
    refine own_aloadN C d0_15 rfl rfl ?_
    refine own_iloadN C d0_16 rfl ?_
    refine own_callS C (own_exp_no l Z a0 hw n0 _ 13 (by decide) (by decide) (by decide)) d0_17 (hw _ (List.mem_of_getElem? (i := 16) rfl)) (hw _ (List.mem_of_getElem? (i := 17) rfl)) (hw _ (List.mem_of_getElem? (i := 2) rfl)) (hw _ (List.mem_of_getElem? (i := 18) rfl)) (by decide) pd3 rfl rfl rfl (by decide) (Nat.le_of_ble_eq_true rfl) (by decide) (by decide) ?_
    rintro _ _ ⟨rfl, rfl⟩
    refine own_acmpeq C d0_20 t0_20 rfl rfl (fun _ => ?_) (fun h' => absurd h' (fun z => z rfl))
    refine own_aloadN C d0_25 rfl rfl ?_
    refine own_ifnull C d0_26 t0_26 rfl (fun _ => ?_) (fun h' => absurd h' (fun z => z rfl))
    refine own_iconst C (1 : Int32) d0_39 rfl ?_
    exact own_retZ C d0_40 (Or.inr rfl) (by decide) (by decide) rfl
  · refine own_callS C (own_token_14 l Z a0 hw n0 _ _ S_PLUS) d0_6 (hw _ (List.mem_of_getElem? (i := 0) rfl)) (hw _ (List.mem_of_getElem? (i := 1) rfl)) (hw _ (List.mem_of_getElem? (i := 2) rfl)) (hw _ (List.mem_of_getElem? (i := 3) rfl)) (by decide) pd1 rfl rfl rfl (by decide) (Nat.le_of_ble_eq_true rfl) (by decide) (by decide) ?_
    rintro _ _ ⟨rfl, rfl⟩
    refine own_astoreN C 2 d0_9 rfl rfl rfl rfl ?_
    refine own_aloadN C d0_10 rfl rfl ?_
    refine own_callS C (own_of_3 l Z a0 hw n0 _ (.ref a_PLUS) rfl a_NAVIGATIONS c_NAVIGATIONS S_NAVIGATIONS Ar_NAVIGATIONS L_NAVIGATIONS a_DIRECT a_DOT V_NAVIGATIONS_0 F_DIRECT_token a_SAFE a_SAFE_DOT V_NAVIGATIONS_1 F_SAFE_token a_SPREAD a_SPREAD_DOT V_NAVIGATIONS_2 F_SPREAD_token (fun z => F_DOT_ordinal.ne F_PLUS_ordinal (by decide) (Value.ref.inj z)) (fun z => F_SAFE_DOT_ordinal.ne F_PLUS_ordinal (by decide) (Value.ref.inj z)) (fun z => F_SPREAD_DOT_ordinal.ne F_PLUS_ordinal (by decide) (Value.ref.inj z))) d0_11 (hw _ (List.mem_of_getElem? (i := 7) rfl)) (hw _ (List.mem_of_getElem? (i := 8) rfl)) (hw _ (List.mem_of_getElem? (i := 9) rfl)) (hw _ (List.mem_of_getElem? (i := 10) rfl)) (by decide) pd2 rfl rfl rfl (by decide) (Nat.le_of_ble_eq_true rfl) (by decide) (by decide) ?_
    rintro _ _ ⟨rfl, rfl⟩
    refine own_astoreN C 3 d0_14 rfl rfl rfl rfl ?_
    refine own_aloadN C d0_15 rfl rfl ?_
    refine own_iloadN C d0_16 rfl ?_
    refine own_callS C (own_exp_no l Z a0 hw n0 _ 14 (by decide) (by decide) (by decide)) d0_17 (hw _ (List.mem_of_getElem? (i := 16) rfl)) (hw _ (List.mem_of_getElem? (i := 17) rfl)) (hw _ (List.mem_of_getElem? (i := 2) rfl)) (hw _ (List.mem_of_getElem? (i := 18) rfl)) (by decide) pd3 rfl rfl rfl (by decide) (Nat.le_of_ble_eq_true rfl) (by decide) (by decide) ?_
    rintro _ _ ⟨rfl, rfl⟩
    refine own_acmpeq C d0_20 t0_20 rfl rfl (fun _ => ?_) (fun h' => absurd h' (fun z => z rfl))
    refine own_aloadN C d0_25 rfl rfl ?_
    refine own_ifnull C d0_26 t0_26 rfl (fun _ => ?_) (fun h' => absurd h' (fun z => z rfl))
    refine own_iconst C (1 : Int32) d0_39 rfl ?_
    exact own_retZ C d0_40 (Or.inr rfl) (by decide) (by decide) rfl
  · refine own_callS C (own_token_15 l Z a0 hw n0 _ _ S_NEWLINE) d0_6 (hw _ (List.mem_of_getElem? (i := 0) rfl)) (hw _ (List.mem_of_getElem? (i := 1) rfl)) (hw _ (List.mem_of_getElem? (i := 2) rfl)) (hw _ (List.mem_of_getElem? (i := 3) rfl)) (by decide) pd1 rfl rfl rfl (by decide) (Nat.le_of_ble_eq_true rfl) (by decide) (by decide) ?_
    rintro _ _ ⟨rfl, rfl⟩
    refine own_astoreN C 2 d0_9 rfl rfl rfl rfl ?_
    refine own_aloadN C d0_10 rfl rfl ?_
    refine own_callS C (own_of_3 l Z a0 hw n0 _ (.ref a_NEWLINE) rfl a_NAVIGATIONS c_NAVIGATIONS S_NAVIGATIONS Ar_NAVIGATIONS L_NAVIGATIONS a_DIRECT a_DOT V_NAVIGATIONS_0 F_DIRECT_token a_SAFE a_SAFE_DOT V_NAVIGATIONS_1 F_SAFE_token a_SPREAD a_SPREAD_DOT V_NAVIGATIONS_2 F_SPREAD_token (fun z => F_DOT_ordinal.ne F_NEWLINE_ordinal (by decide) (Value.ref.inj z)) (fun z => F_SAFE_DOT_ordinal.ne F_NEWLINE_ordinal (by decide) (Value.ref.inj z)) (fun z => F_SPREAD_DOT_ordinal.ne F_NEWLINE_ordinal (by decide) (Value.ref.inj z))) d0_11 (hw _ (List.mem_of_getElem? (i := 7) rfl)) (hw _ (List.mem_of_getElem? (i := 8) rfl)) (hw _ (List.mem_of_getElem? (i := 9) rfl)) (hw _ (List.mem_of_getElem? (i := 10) rfl)) (by decide) pd2 rfl rfl rfl (by decide) (Nat.le_of_ble_eq_true rfl) (by decide) (by decide) ?_
    rintro _ _ ⟨rfl, rfl⟩
    refine own_astoreN C 3 d0_14 rfl rfl rfl rfl ?_
    refine own_aloadN C d0_15 rfl rfl ?_
    refine own_iloadN C d0_16 rfl ?_
    refine own_callS C (own_exp_no l Z a0 hw n0 _ 15 (by decide) (by decide) (by decide)) d0_17 (hw _ (List.mem_of_getElem? (i := 16) rfl)) (hw _ (List.mem_of_getElem? (i := 17) rfl)) (hw _ (List.mem_of_getElem? (i := 2) rfl)) (hw _ (List.mem_of_getElem? (i := 18) rfl)) (by decide) pd3 rfl rfl rfl (by decide) (Nat.le_of_ble_eq_true rfl) (by decide) (by decide) ?_
    rintro _ _ ⟨rfl, rfl⟩
    refine own_acmpeq C d0_20 t0_20 rfl rfl (fun _ => ?_) (fun h' => absurd h' (fun z => z rfl))
    refine own_aloadN C d0_25 rfl rfl ?_
    refine own_ifnull C d0_26 t0_26 rfl (fun _ => ?_) (fun h' => absurd h' (fun z => z rfl))
    refine own_iconst C (1 : Int32) d0_39 rfl ?_
    exact own_retZ C d0_40 (Or.inr rfl) (by decide) (by decide) rfl
set_option maxRecDepth 65536 in
set_option maxHeartbeats 40000000 in
theorem comes_1 {Post : Tables → Env → Array Value → State → Outcome → State → Prop} (hpost : ∀ tb e args s v u, (limb_1_1.after args s (.returned v) u = true ∧ limb_1_2.after args s (.returned v) u = true ∧ True) → FrameEnd s (.returned v) u (Jvm.fieldLocs frame_1_writes args s ++ Jvm.arrayLocs frame_1_arrays args s ++ Jvm.staticLocs frame_1_statics s) 0 0 → Post tb e args s (.returned v) u) :
    ArmFor flags0 classFile x code maxLocals ret World_1 tables_1 room_1 Calls_1 rest_1 Pre_1 Post := by
  intro l hfl _ _ p e ha hc hk s m args below hf hA hF happ hP
  obtain ⟨hcalls, hrest, hpre⟩ := hP
  obtain ⟨-, -, -, hnamed, -, -, -, hat⟩ := (Spec.applies_iff hf).mp happ
  obtain ⟨hg, hn⟩ := and_e (Cond.before_iff.mp (show (Jvm.Cond.and given_1 narrow_1).before args s = true from hpre))
  obtain ⟨hg0, hg1⟩ := and_e hg
  obtain ⟨w0, rfl⟩ : ∃ w0 : Value, args = #[w0] := by
    have hs : args.size = 1 := by simpa [Cond.value, given_1] using hg0
    obtain ⟨L⟩ := args
    match L, hs with
    | [w0], _ => exact ⟨w0, rfl⟩
  have hw := fun d (hd : d ∈ tables_1) => atoms_spec (ws := Jvm.Cond.code x code maxLocals ret :: tables_1) hat d (List.mem_cons_of_mem _ hd)
  have hfit : Fit s := fun {y c} hc i hi => by
    obtain ⟨ha, rfl⟩ := Array.getElem?_eq_some_iff.mp hc
    have q := List.all_eq_true.mp ((Array.all_eq_true_iff_forall_mem.mp hF) _ (Array.getElem_mem ha)) i (List.mem_range.mpr hi)
    simpa [Array.getElem?_eq_getElem hi] using q
  obtain ⟨i0, ea0⟩ := is_v hg1
  obtain rfl : w0 = (.int i0) := Option.some.inj ea0
  obtain ⟨hc0, hr0⟩ := and_e hn
  obtain ⟨hc1, hr1⟩ := and_e hr0
  obtain ⟨hc2, hr2⟩ := and_e hr1
  obtain ⟨hc3, hr3⟩ := and_e hr2
  obtain ⟨hc4, hr4⟩ := and_e hr3
  obtain ⟨hc5, hr5⟩ := and_e hr4
  obtain ⟨hc6, hr6⟩ := and_e hr5
  obtain ⟨hc7, hr7⟩ := and_e hr6
  obtain ⟨hc8, hr8⟩ := and_e hr7
  obtain ⟨hc9, hr9⟩ := and_e hr8
  obtain ⟨hc10, hr10⟩ := and_e hr9
  obtain ⟨hc11, hr11⟩ := and_e hr10
  obtain ⟨hc12, hr12⟩ := and_e hr11
  obtain ⟨hc13, hr13⟩ := and_e hr12
  obtain ⟨hc14, hr14⟩ := and_e hr13
  obtain ⟨hc15, hr15⟩ := and_e hr14
  obtain ⟨hc16, hr16⟩ := and_e hr15
  obtain ⟨hc17, hr17⟩ := and_e hr16
  obtain ⟨hc18, hr18⟩ := and_e hr17
  obtain ⟨hc19, hr19⟩ := and_e hr18
  obtain ⟨hc20, hr20⟩ := and_e hr19
  obtain ⟨hc21, hr21⟩ := and_e hr20
  obtain ⟨hc22, hr22⟩ := and_e hr21
  obtain ⟨hc23, hr23⟩ := and_e hr22
  obtain ⟨hc24, hr24⟩ := and_e hr23
  obtain ⟨hc25, hr25⟩ := and_e hr24
  obtain ⟨hc26, hr26⟩ := and_e hr25
  obtain ⟨hc27, hr27⟩ := and_e hr26
  obtain ⟨hc28, hr28⟩ := and_e hr27
  obtain ⟨hc29, hr29⟩ := and_e hr28
  obtain ⟨hc30, hr30⟩ := and_e hr29
  obtain ⟨hc31, hr31⟩ := and_e hr30
  obtain ⟨hc32, hr32⟩ := and_e hr31
  obtain ⟨hc33, hr33⟩ := and_e hr32
  obtain ⟨hc34, hr34⟩ := and_e hr33
  obtain ⟨hc35, hr35⟩ := and_e hr34
  obtain ⟨hc36, hr36⟩ := and_e hr35
  obtain ⟨hc37, hr37⟩ := and_e hr36
  obtain ⟨hc38, hr38⟩ := and_e hr37
  obtain ⟨hc39, hr39⟩ := and_e hr38
  obtain ⟨a_DOT, ev_DOT⟩ := exa_v hc0
  have S_DOT : Sta s s.heap "com/example/keystone_script/keystonescript/compiler/TokenType" "DOT" "Lcom/example/keystone_script/keystonescript/compiler/TokenType;" (.ref a_DOT) := Sta.start ev_DOT (Or.inr ⟨(hw _ (List.mem_of_getElem? (i := 5) rfl)), (hw _ (List.mem_of_getElem? (i := 6) rfl))⟩)
  have E_DOT : Exa s s.heap a_DOT "com/example/keystone_script/keystonescript/compiler/TokenType" := Exa.start ev_DOT hc0
  obtain ⟨a_NAVIGATIONS, ev_NAVIGATIONS⟩ := arr_v hc1
  have S_NAVIGATIONS : Sta s s.heap "com/example/keystone_script/keystonescript/compiler/Navigation" "NAVIGATIONS" "[Lcom/example/keystone_script/keystonescript/compiler/Navigation;" (.ref a_NAVIGATIONS) := Sta.start ev_NAVIGATIONS (Or.inr ⟨(hw _ (List.mem_of_getElem? (i := 9) rfl)), (hw _ (List.mem_of_getElem? (i := 12) rfl))⟩)
  obtain ⟨c_NAVIGATIONS, Ar_NAVIGATIONS⟩ := Arr.start ev_NAVIGATIONS hc1
  obtain ⟨a_DIRECT, ev_DIRECT⟩ := exa_v hc3
  have S_DIRECT : Sta s s.heap "com/example/keystone_script/keystonescript/compiler/Navigation" "DIRECT" "Lcom/example/keystone_script/keystonescript/compiler/Navigation;" (.ref a_DIRECT) := Sta.start ev_DIRECT (Or.inr ⟨(hw _ (List.mem_of_getElem? (i := 9) rfl)), (hw _ (List.mem_of_getElem? (i := 13) rfl))⟩)
  have E_DIRECT : Exa s s.heap a_DIRECT "com/example/keystone_script/keystonescript/compiler/Navigation" := Exa.start ev_DIRECT hc3
  obtain ⟨a_FIELD_DOT, ev_FIELD_DOT⟩ := exa_v hc6
  have S_FIELD_DOT : Sta s s.heap "com/example/keystone_script/keystonescript/compiler/TokenType" "FIELD_DOT" "Lcom/example/keystone_script/keystonescript/compiler/TokenType;" (.ref a_FIELD_DOT) := Sta.start ev_FIELD_DOT (Or.inr ⟨(hw _ (List.mem_of_getElem? (i := 5) rfl)), (hw _ (List.mem_of_getElem? (i := 22) rfl))⟩)
  have E_FIELD_DOT : Exa s s.heap a_FIELD_DOT "com/example/keystone_script/keystonescript/compiler/TokenType" := Exa.start ev_FIELD_DOT hc6
  obtain ⟨a_SAFE, ev_SAFE⟩ := exa_v hc9
  have S_SAFE : Sta s s.heap "com/example/keystone_script/keystonescript/compiler/Navigation" "SAFE" "Lcom/example/keystone_script/keystonescript/compiler/Navigation;" (.ref a_SAFE) := Sta.start ev_SAFE (Or.inr ⟨(hw _ (List.mem_of_getElem? (i := 9) rfl)), (hw _ (List.mem_of_getElem? (i := 23) rfl))⟩)
  have E_SAFE : Exa s s.heap a_SAFE "com/example/keystone_script/keystonescript/compiler/Navigation" := Exa.start ev_SAFE hc9
  obtain ⟨a_SAFE_DOT, ev_SAFE_DOT⟩ := exa_v hc11
  have S_SAFE_DOT : Sta s s.heap "com/example/keystone_script/keystonescript/compiler/TokenType" "SAFE_DOT" "Lcom/example/keystone_script/keystonescript/compiler/TokenType;" (.ref a_SAFE_DOT) := Sta.start ev_SAFE_DOT (Or.inr ⟨(hw _ (List.mem_of_getElem? (i := 5) rfl)), (hw _ (List.mem_of_getElem? (i := 24) rfl))⟩)
  have E_SAFE_DOT : Exa s s.heap a_SAFE_DOT "com/example/keystone_script/keystonescript/compiler/TokenType" := Exa.start ev_SAFE_DOT hc11
  obtain ⟨a_SPREAD, ev_SPREAD⟩ := exa_v hc14
  have S_SPREAD : Sta s s.heap "com/example/keystone_script/keystonescript/compiler/Navigation" "SPREAD" "Lcom/example/keystone_script/keystonescript/compiler/Navigation;" (.ref a_SPREAD) := Sta.start ev_SPREAD (Or.inr ⟨(hw _ (List.mem_of_getElem? (i := 9) rfl)), (hw _ (List.mem_of_getElem? (i := 25) rfl))⟩)
  have E_SPREAD : Exa s s.heap a_SPREAD "com/example/keystone_script/keystonescript/compiler/Navigation" := Exa.start ev_SPREAD hc14
  obtain ⟨a_SPREAD_DOT, ev_SPREAD_DOT⟩ := exa_v hc16
  have S_SPREAD_DOT : Sta s s.heap "com/example/keystone_script/keystonescript/compiler/TokenType" "SPREAD_DOT" "Lcom/example/keystone_script/keystonescript/compiler/TokenType;" (.ref a_SPREAD_DOT) := Sta.start ev_SPREAD_DOT (Or.inr ⟨(hw _ (List.mem_of_getElem? (i := 5) rfl)), (hw _ (List.mem_of_getElem? (i := 26) rfl))⟩)
  have E_SPREAD_DOT : Exa s s.heap a_SPREAD_DOT "com/example/keystone_script/keystonescript/compiler/TokenType" := Exa.start ev_SPREAD_DOT hc16
  obtain ⟨a_PLUS, ev_PLUS⟩ := exa_v hc19
  have S_PLUS : Sta s s.heap "com/example/keystone_script/keystonescript/compiler/TokenType" "PLUS" "Lcom/example/keystone_script/keystonescript/compiler/TokenType;" (.ref a_PLUS) := Sta.start ev_PLUS (Or.inr ⟨(hw _ (List.mem_of_getElem? (i := 5) rfl)), (hw _ (List.mem_of_getElem? (i := 28) rfl))⟩)
  have E_PLUS : Exa s s.heap a_PLUS "com/example/keystone_script/keystonescript/compiler/TokenType" := Exa.start ev_PLUS hc19
  obtain ⟨a_NEWLINE, ev_NEWLINE⟩ := exa_v hc21
  have S_NEWLINE : Sta s s.heap "com/example/keystone_script/keystonescript/compiler/TokenType" "NEWLINE" "Lcom/example/keystone_script/keystonescript/compiler/TokenType;" (.ref a_NEWLINE) := Sta.start ev_NEWLINE (Or.inr ⟨(hw _ (List.mem_of_getElem? (i := 5) rfl)), (hw _ (List.mem_of_getElem? (i := 30) rfl))⟩)
  have E_NEWLINE : Exa s s.heap a_NEWLINE "com/example/keystone_script/keystonescript/compiler/TokenType" := Exa.start ev_NEWLINE hc21
  obtain ⟨a_RANGE, ev_RANGE⟩ := exa_v hc23
  have S_RANGE : Sta s s.heap "com/example/keystone_script/keystonescript/compiler/TokenType" "RANGE" "Lcom/example/keystone_script/keystonescript/compiler/TokenType;" (.ref a_RANGE) := Sta.start ev_RANGE (Or.inr ⟨(hw _ (List.mem_of_getElem? (i := 5) rfl)), (hw _ (List.mem_of_getElem? (i := 32) rfl))⟩)
  have E_RANGE : Exa s s.heap a_RANGE "com/example/keystone_script/keystonescript/compiler/TokenType" := Exa.start ev_RANGE hc23
  obtain ⟨a_QUESTION, ev_QUESTION⟩ := exa_v hc25
  have S_QUESTION : Sta s s.heap "com/example/keystone_script/keystonescript/compiler/TokenType" "QUESTION" "Lcom/example/keystone_script/keystonescript/compiler/TokenType;" (.ref a_QUESTION) := Sta.start ev_QUESTION (Or.inr ⟨(hw _ (List.mem_of_getElem? (i := 5) rfl)), (hw _ (List.mem_of_getElem? (i := 34) rfl))⟩)
  have E_QUESTION : Exa s s.heap a_QUESTION "com/example/keystone_script/keystonescript/compiler/TokenType" := Exa.start ev_QUESTION hc25
  obtain ⟨a_AT, ev_AT⟩ := exa_v hc27
  have S_AT : Sta s s.heap "com/example/keystone_script/keystonescript/compiler/TokenType" "AT" "Lcom/example/keystone_script/keystonescript/compiler/TokenType;" (.ref a_AT) := Sta.start ev_AT (Or.inr ⟨(hw _ (List.mem_of_getElem? (i := 5) rfl)), (hw _ (List.mem_of_getElem? (i := 38) rfl))⟩)
  have E_AT : Exa s s.heap a_AT "com/example/keystone_script/keystonescript/compiler/TokenType" := Exa.start ev_AT hc27
  obtain ⟨a_ELVIS, ev_ELVIS⟩ := exa_v hc29
  have S_ELVIS : Sta s s.heap "com/example/keystone_script/keystonescript/compiler/TokenType" "ELVIS" "Lcom/example/keystone_script/keystonescript/compiler/TokenType;" (.ref a_ELVIS) := Sta.start ev_ELVIS (Or.inr ⟨(hw _ (List.mem_of_getElem? (i := 5) rfl)), (hw _ (List.mem_of_getElem? (i := 40) rfl))⟩)
  have E_ELVIS : Exa s s.heap a_ELVIS "com/example/keystone_script/keystonescript/compiler/TokenType" := Exa.start ev_ELVIS hc29
  obtain ⟨a_RANGE_EXCLUSIVE, ev_RANGE_EXCLUSIVE⟩ := exa_v hc31
  have S_RANGE_EXCLUSIVE : Sta s s.heap "com/example/keystone_script/keystonescript/compiler/TokenType" "RANGE_EXCLUSIVE" "Lcom/example/keystone_script/keystonescript/compiler/TokenType;" (.ref a_RANGE_EXCLUSIVE) := Sta.start ev_RANGE_EXCLUSIVE (Or.inr ⟨(hw _ (List.mem_of_getElem? (i := 5) rfl)), (hw _ (List.mem_of_getElem? (i := 44) rfl))⟩)
  have E_RANGE_EXCLUSIVE : Exa s s.heap a_RANGE_EXCLUSIVE "com/example/keystone_script/keystonescript/compiler/TokenType" := Exa.start ev_RANGE_EXCLUSIVE hc31
  obtain ⟨a_COMMA, ev_COMMA⟩ := exa_v hc33
  have S_COMMA : Sta s s.heap "com/example/keystone_script/keystonescript/compiler/TokenType" "COMMA" "Lcom/example/keystone_script/keystonescript/compiler/TokenType;" (.ref a_COMMA) := Sta.start ev_COMMA (Or.inr ⟨(hw _ (List.mem_of_getElem? (i := 5) rfl)), (hw _ (List.mem_of_getElem? (i := 46) rfl))⟩)
  have E_COMMA : Exa s s.heap a_COMMA "com/example/keystone_script/keystonescript/compiler/TokenType" := Exa.start ev_COMMA hc33
  obtain ⟨a_END, ev_END⟩ := exa_v hc35
  have S_END : Sta s s.heap "com/example/keystone_script/keystonescript/compiler/TokenType" "END" "Lcom/example/keystone_script/keystonescript/compiler/TokenType;" (.ref a_END) := Sta.start ev_END (Or.inr ⟨(hw _ (List.mem_of_getElem? (i := 5) rfl)), (hw _ (List.mem_of_getElem? (i := 48) rfl))⟩)
  have E_END : Exa s s.heap a_END "com/example/keystone_script/keystonescript/compiler/TokenType" := Exa.start ev_END hc35
  obtain ⟨a_STAR, ev_STAR⟩ := exa_v hc37
  have S_STAR : Sta s s.heap "com/example/keystone_script/keystonescript/compiler/TokenType" "STAR" "Lcom/example/keystone_script/keystonescript/compiler/TokenType;" (.ref a_STAR) := Sta.start ev_STAR (Or.inr ⟨(hw _ (List.mem_of_getElem? (i := 5) rfl)), (hw _ (List.mem_of_getElem? (i := 50) rfl))⟩)
  have E_STAR : Exa s s.heap a_STAR "com/example/keystone_script/keystonescript/compiler/TokenType" := Exa.start ev_STAR hc37
  obtain ⟨a_IDENTIFIER, ev_IDENTIFIER⟩ := exa_v hc39
  have S_IDENTIFIER : Sta s s.heap "com/example/keystone_script/keystonescript/compiler/TokenType" "IDENTIFIER" "Lcom/example/keystone_script/keystonescript/compiler/TokenType;" (.ref a_IDENTIFIER) := Sta.start ev_IDENTIFIER (Or.inr ⟨(hw _ (List.mem_of_getElem? (i := 5) rfl)), (hw _ (List.mem_of_getElem? (i := 52) rfl))⟩)
  have E_IDENTIFIER : Exa s s.heap a_IDENTIFIER "com/example/keystone_script/keystonescript/compiler/TokenType" := Exa.start ev_IDENTIFIER hc39
  have L_NAVIGATIONS : c_NAVIGATIONS.slots.size = 3 := own_len (k := 3) rfl hc2 ev_NAVIGATIONS Ar_NAVIGATIONS
  have V_NAVIGATIONS_0 : c_NAVIGATIONS.slots[0]? = some (.ref a_DIRECT) := own_elem (k := 0) rfl hc4 ev_NAVIGATIONS Ar_NAVIGATIONS ev_DIRECT
  have F_DIRECT_token : Fld s s.heap a_DIRECT "com/example/keystone_script/keystonescript/compiler/Navigation" "token" "Lcom/example/keystone_script/keystonescript/compiler/TokenType;" (.ref a_DOT) := own_fld hc5 ev_DIRECT ev_DOT
  have F_DOT_ordinal : Fld s s.heap a_DOT "java/lang/Enum" "ordinal" "I" (.int (70 : Int32)) := own_fld hc7 ev_DOT rfl
  have F_FIELD_DOT_ordinal : Fld s s.heap a_FIELD_DOT "java/lang/Enum" "ordinal" "I" (.int (73 : Int32)) := own_fld hc8 ev_FIELD_DOT rfl
  have V_NAVIGATIONS_1 : c_NAVIGATIONS.slots[1]? = some (.ref a_SAFE) := own_elem (k := 1) rfl hc10 ev_NAVIGATIONS Ar_NAVIGATIONS ev_SAFE
  have F_SAFE_token : Fld s s.heap a_SAFE "com/example/keystone_script/keystonescript/compiler/Navigation" "token" "Lcom/example/keystone_script/keystonescript/compiler/TokenType;" (.ref a_SAFE_DOT) := own_fld hc12 ev_SAFE ev_SAFE_DOT
  have F_SAFE_DOT_ordinal : Fld s s.heap a_SAFE_DOT "java/lang/Enum" "ordinal" "I" (.int (71 : Int32)) := own_fld hc13 ev_SAFE_DOT rfl
  have V_NAVIGATIONS_2 : c_NAVIGATIONS.slots[2]? = some (.ref a_SPREAD) := own_elem (k := 2) rfl hc15 ev_NAVIGATIONS Ar_NAVIGATIONS ev_SPREAD
  have F_SPREAD_token : Fld s s.heap a_SPREAD "com/example/keystone_script/keystonescript/compiler/Navigation" "token" "Lcom/example/keystone_script/keystonescript/compiler/TokenType;" (.ref a_SPREAD_DOT) := own_fld hc17 ev_SPREAD ev_SPREAD_DOT
  have F_SPREAD_DOT_ordinal : Fld s s.heap a_SPREAD_DOT "java/lang/Enum" "ordinal" "I" (.int (72 : Int32)) := own_fld hc18 ev_SPREAD_DOT rfl
  have F_PLUS_ordinal : Fld s s.heap a_PLUS "java/lang/Enum" "ordinal" "I" (.int (40 : Int32)) := own_fld hc20 ev_PLUS rfl
  have F_NEWLINE_ordinal : Fld s s.heap a_NEWLINE "java/lang/Enum" "ordinal" "I" (.int (89 : Int32)) := own_fld hc22 ev_NEWLINE rfl
  have F_RANGE_ordinal : Fld s s.heap a_RANGE "java/lang/Enum" "ordinal" "I" (.int (77 : Int32)) := own_fld hc24 ev_RANGE rfl
  have F_QUESTION_ordinal : Fld s s.heap a_QUESTION "java/lang/Enum" "ordinal" "I" (.int (75 : Int32)) := own_fld hc26 ev_QUESTION rfl
  have F_AT_ordinal : Fld s s.heap a_AT "java/lang/Enum" "ordinal" "I" (.int (74 : Int32)) := own_fld hc28 ev_AT rfl
  have F_ELVIS_ordinal : Fld s s.heap a_ELVIS "java/lang/Enum" "ordinal" "I" (.int (76 : Int32)) := own_fld hc30 ev_ELVIS rfl
  have F_RANGE_EXCLUSIVE_ordinal : Fld s s.heap a_RANGE_EXCLUSIVE "java/lang/Enum" "ordinal" "I" (.int (78 : Int32)) := own_fld hc32 ev_RANGE_EXCLUSIVE rfl
  have F_COMMA_ordinal : Fld s s.heap a_COMMA "java/lang/Enum" "ordinal" "I" (.int (79 : Int32)) := own_fld hc34 ev_COMMA rfl
  have F_END_ordinal : Fld s s.heap a_END "java/lang/Enum" "ordinal" "I" (.int (90 : Int32)) := own_fld hc36 ev_END rfl
  have F_STAR_ordinal : Fld s s.heap a_STAR "java/lang/Enum" "ordinal" "I" (.int (44 : Int32)) := own_fld hc38 ev_STAR rfl
  have F_IDENTIFIER_ordinal : Fld s s.heap a_IDENTIFIER "java/lang/Enum" "ordinal" "I" (.int (0 : Int32)) := own_fld hr39 ev_IDENTIFIER rfl
  obtain ⟨n, o, h1, h2, h3, _, L, rfl, ⟨rfl, N⟩, hq⟩ := own_main (ws := tables_1) (own_law l s _ hw s.heap.size s.heap i0 a_DOT S_DOT E_DOT a_NAVIGATIONS S_NAVIGATIONS c_NAVIGATIONS Ar_NAVIGATIONS a_DIRECT S_DIRECT E_DIRECT a_FIELD_DOT S_FIELD_DOT E_FIELD_DOT a_SAFE S_SAFE E_SAFE a_SAFE_DOT S_SAFE_DOT E_SAFE_DOT a_SPREAD S_SPREAD E_SPREAD a_SPREAD_DOT S_SPREAD_DOT E_SPREAD_DOT a_PLUS S_PLUS E_PLUS a_NEWLINE S_NEWLINE E_NEWLINE a_RANGE S_RANGE E_RANGE a_QUESTION S_QUESTION E_QUESTION a_AT S_AT E_AT a_ELVIS S_ELVIS E_ELVIS a_RANGE_EXCLUSIVE S_RANGE_EXCLUSIVE E_RANGE_EXCLUSIVE a_COMMA S_COMMA E_COMMA a_END S_END E_END a_STAR S_STAR E_STAR a_IDENTIFIER S_IDENTIFIER E_IDENTIFIER L_NAVIGATIONS V_NAVIGATIONS_0 F_DIRECT_token F_DOT_ordinal F_FIELD_DOT_ordinal V_NAVIGATIONS_1 F_SAFE_token F_SAFE_DOT_ordinal V_NAVIGATIONS_2 F_SPREAD_token F_SPREAD_DOT_ordinal F_PLUS_ordinal F_NEWLINE_ordinal F_RANGE_ordinal F_QUESTION_ordinal F_AT_ordinal F_ELVIS_ordinal F_RANGE_EXCLUSIVE_ordinal F_COMMA_ordinal F_END_ordinal F_STAR_ordinal F_IDENTIFIER_ordinal) p e ha hc hk s m _ below hf ((Spec.applies_iff_loose hf).mp happ).1 ⟨rfl, State.Warmed39.refl s, rfl⟩ trivial
  refine ⟨n, _, h1, h2, h3, hpost _ _ _ _ _ _ ⟨Cond.after_iff.mpr rfl, Cond.after_iff.mpr (eq_i res_at (Term.int_eval (1)) rfl), trivial⟩ ⟨hq.1, hq.2.1, (hq.2.2.sift fun y hy => Or.inr (N y hy)).mono (by decide) (by decide)⟩⟩
theorem main_1_1 : Claimed_1_1 := comes_1 fun _ _ _ _ _ _ h hF => ⟨h.1, hF⟩
theorem main_1_2 : Claimed_1_2 := comes_1 fun _ _ _ _ _ _ h hF => ⟨h.2.1, hF⟩
end Jvm.Pilot.@@N@@
namespace Jvm.Pilot.@@N@@
open Jvm Jvm.ClassFile Sem Op Lib Jvm.Free Jvm.Stand Jvm.Pilot.@@N@@.Jvm.D
/-! MADE BY PROGRAM (witnessworld.py) out of the Statement's table words and the real class files: 14 classes; the members and pool entries that the words name. The judged class is class 1, her method 3. -/
namespace start1
open Jvm.ClassFile
def u (s : String) : CpInfo := .utf8 (stringToUtf16 s)
/-- a pool by its gaps: so many unusable entries, then the entry; so many at the end -/
def gap : Nat → List CpInfo → List CpInfo
  | 0, r => r
  | n + 1, r => .unusable :: gap n r
def poolList (es : List (Nat × CpInfo)) (last : Nat) : List CpInfo := es.foldr (fun e r => gap e.1 (e.2 :: r)) (gap last [])
def pool (es : List (Nat × CpInfo)) (last : Nat) : Array CpInfo := ⟨poolList es last⟩
def fileOf (pool : Array CpInfo) (this : Nat) (attrs : Array Attribute := #[]) (ms : Array MethodInfo := #[]) (fl : Nat := 33) (sup : Nat := 0) (ifs : Array Nat := #[]) (fds : Array FieldInfo := #[]) : ClassFile where
  minorVersion := 0
  majorVersion := 65
  constantPool := pool
  accessFlags := fl
  thisClass := this
  superClass := sup
  interfaces := ifs
  fields := fds
  methods := ms
  attributes := attrs
def plain (name : String) (sup : Option ClassId) : Class where
  name := name
  kind := .ordinary
  loader := none
  accessFlags := 33
  super := sup
  interfaces := #[]
  cf := none
  fields := #[]
  methods := #[]
  instanceTypes := #[]
  staticTypes := #[]
  resolved := #[]
  callSites := []
  init := .initialized
  statics := none
  mirror := none

def pool0 : Array CpInfo := pool [(5, u "<init>"), (0, u "()V"), (1, .class_ 10), (1, u "java/lang/Object")] 113

def k0m0 : Method := { name := "<init>", desc := "()V", sig := { parameters := [], returnType := none }, accessFlags := 1, code := none }
/-- java/lang/Object -/
def k0 : Class := { plain "java/lang/Object" none with
  accessFlags := 33
  interfaces := #[]
  cf := some (fileOf pool0 8 #[] #[{ accessFlags := 1, nameIndex := 5, descriptorIndex := 6, attributes := #[] }] 33 0 #[] #[])
  fields := #[]
  methods := #[k0m0]
  instanceTypes := #[]
  staticTypes := #[]
  resolved := Array.replicate 124 none
  statics := none }

def pool1 : Array CpInfo := pool [(2, .class_ 4), (1, u "java/lang/Object"), (0, u "<init>"), (0, u "()V"), (0, .fieldref 8 9), (0, .class_ 10), (0, .nameAndType 11 12), (0, u "com/example/keystone_script/keystonescript/compiler/TokenType"), (0, u "DOT"), (0, u "Lcom/example/keystone_script/keystonescript/compiler/TokenType;"), (0, .fieldref 8 14), (0, .nameAndType 15 12), (0, u "SAFE_DOT"), (0, .fieldref 8 17), (0, .nameAndType 18 12), (0, u "SPREAD_DOT"), (0, .fieldref 8 20), (0, .nameAndType 21 12), (0, u "FIELD_DOT"), (0, .fieldref 8 23), (0, .nameAndType 24 12), (0, u "IDENTIFIER"), (0, .fieldref 8 26), (0, .nameAndType 27 12), (0, u "END"), (0, .fieldref 8 29), (0, .nameAndType 30 12), (0, u "QUESTION"), (0, .fieldref 8 32), (0, .nameAndType 33 12), (0, u "ELVIS"), (0, .fieldref 8 35), (0, .nameAndType 36 12), (0, u "STAR"), (0, .fieldref 8 38), (0, .nameAndType 39 12), (0, u "RANGE"), (0, .fieldref 8 41), (0, .nameAndType 42 12), (0, u "AT"), (0, .fieldref 8 44), (0, .nameAndType 45 12), (0, u "RANGE_EXCLUSIVE"), (0, .fieldref 8 47), (0, .nameAndType 48 12), (0, u "COMMA"), (0, .fieldref 8 50), (0, .nameAndType 51 12), (0, u "PLUS"), (0, .fieldref 8 53), (0, .nameAndType 54 12), (0, u "NEWLINE"), (0, .fieldref 56 57), (0, .class_ 58), (0, .nameAndType 59 60), (0, u "com/example/keystone_script/keystonescript/compiler/Navigation"), (0, u "DIRECT"), (0, u "Lcom/example/keystone_script/keystonescript/compiler/Navigation;"), (0, .fieldref 56 62), (0, .nameAndType 63 60), (0, u "SAFE"), (0, .fieldref 56 65), (0, .nameAndType 66 60), (0, u "SPREAD"), (0, .methodref 68 69), (0, .class_ 70), (0, .nameAndType 71 72), (0, u "com/example/keystone_script/keystonescript/compiler/NavigationOfPinLaw"), (0, u "token"), (0, u "(I)Lcom/example/keystone_script/keystonescript/compiler/TokenType;"), (0, .methodref 56 74), (0, .nameAndType 75 76), (0, u "of"), (0, u "(Lcom/example/keystone_script/keystonescript/compiler/TokenType;)Lcom/example/keystone_script/keystonescript/compiler/Navigation;"), (0, .methodref 68 78), (0, .nameAndType 79 80), (0, u "expected"), (0, u "(I)Lcom/example/keystone_script/keystonescript/compiler/Navigation;"), (0, .fieldref 56 82), (0, .nameAndType 71 12), (3, u "law"), (0, u "(I)Z")] 2

def k1m0 : Method := { name := "<init>", desc := "()V", sig := { parameters := [], returnType := none }, accessFlags := 2, code := none }
def k1c1 : Code := { maxStack := 2, maxLocals := 1, code := method_2_code, exceptionTable := #[], attributes := #[] }
def k1m1 : Method := { name := "token", desc := "(I)Lcom/example/keystone_script/keystonescript/compiler/TokenType;", sig := { parameters := [.int], returnType := some (.object "com/example/keystone_script/keystonescript/compiler/TokenType") }, accessFlags := 10, code := some k1c1 }
def k1c2 : Code := { maxStack := 2, maxLocals := 1, code := method_3_code, exceptionTable := #[], attributes := #[] }
def k1m2 : Method := { name := "expected", desc := "(I)Lcom/example/keystone_script/keystonescript/compiler/Navigation;", sig := { parameters := [.int], returnType := some (.object "com/example/keystone_script/keystonescript/compiler/Navigation") }, accessFlags := 10, code := some k1c2 }
def k1c3 : Code := { maxStack := 2, maxLocals := 4, code := code, exceptionTable := #[], attributes := #[] }
def k1m3 : Method := { name := "law", desc := "(I)Z", sig := { parameters := [.int], returnType := some .boolean }, accessFlags := 9, code := some k1c3 }
/-- com/example/keystone_script/keystonescript/compiler/NavigationOfPinLaw -/
def k1 : Class := { plain "com/example/keystone_script/keystonescript/compiler/NavigationOfPinLaw" (some 0) with
  accessFlags := 49
  interfaces := #[]
  cf := some (fileOf pool1 68 #[] #[{ accessFlags := 2, nameIndex := 5, descriptorIndex := 6, attributes := #[] }, { accessFlags := 10, nameIndex := 71, descriptorIndex := 72, attributes := #[] }, { accessFlags := 10, nameIndex := 79, descriptorIndex := 80, attributes := #[] }, { accessFlags := 9, nameIndex := 86, descriptorIndex := 87, attributes := #[] }] 49 2 #[] #[])
  fields := #[]
  methods := #[k1m0, k1m1, k1m2, k1m3]
  instanceTypes := #[]
  staticTypes := #[]
  resolved := Array.replicate 90 none
  statics := none }

def pool2 : Array CpInfo := pool [(1, .class_ 2), (0, u "java/lang/constant/Constable"), (0, .class_ 4), (0, u "java/lang/Object")] 6

/-- java/lang/constant/Constable -/
def k2 : Class := { plain "java/lang/constant/Constable" (some 0) with
  accessFlags := 1537
  interfaces := #[]
  cf := some (fileOf pool2 1 #[] #[] 1537 3 #[] #[])
  fields := #[]
  methods := #[]
  instanceTypes := #[]
  staticTypes := #[]
  resolved := Array.replicate 11 none
  statics := none }

def pool3 : Array CpInfo := pool [(1, .class_ 2), (0, u "java/lang/Comparable"), (0, .class_ 4), (0, u "java/lang/Object")] 7

/-- java/lang/Comparable -/
def k3 : Class := { plain "java/lang/Comparable" (some 0) with
  accessFlags := 1537
  interfaces := #[]
  cf := some (fileOf pool3 1 #[] #[] 1537 3 #[] #[])
  fields := #[]
  methods := #[]
  instanceTypes := #[]
  staticTypes := #[]
  resolved := Array.replicate 12 none
  statics := none }

def pool4 : Array CpInfo := pool [(1, .class_ 2), (0, u "java/io/Serializable"), (0, .class_ 4), (0, u "java/lang/Object")] 2

/-- java/io/Serializable -/
def k4 : Class := { plain "java/io/Serializable" (some 0) with
  accessFlags := 1537
  interfaces := #[]
  cf := some (fileOf pool4 1 #[] #[] 1537 3 #[] #[])
  fields := #[]
  methods := #[]
  instanceTypes := #[]
  staticTypes := #[]
  resolved := Array.replicate 7 none
  statics := none }

def pool5 : Array CpInfo := pool [(2, .class_ 4), (1, u "java/lang/Enum"), (0, u "name"), (0, u "Ljava/lang/String;"), (2, u "ordinal"), (0, u "I"), (1, .class_ 14), (1, u "java/lang/Object"), (4, u "hash"), (86, .class_ 108), (1, u "java/lang/Enum$EnumDesc"), (2, .class_ 112), (0, u "java/lang/constant/Constable"), (0, .class_ 114), (0, u "java/lang/Comparable"), (0, .class_ 116), (0, u "java/io/Serializable")] 87

/-- java/lang/Enum -/
def k5 : Class := { plain "java/lang/Enum" (some 0) with
  accessFlags := 1057
  interfaces := #[2, 3, 4]
  cf := some (fileOf pool5 2 #[.nestMembers #[106]] #[] 1057 12 #[111, 113, 115] #[{ accessFlags := 18, nameIndex := 5, descriptorIndex := 6, attributes := #[] }, { accessFlags := 18, nameIndex := 9, descriptorIndex := 10, attributes := #[] }, { accessFlags := 2, nameIndex := 19, descriptorIndex := 10, attributes := #[] }])
  fields := #[{ name := "name", type := (.object "java/lang/String"), accessFlags := 18, slot := 0, constantValue := 0 }, { name := "ordinal", type := .int, accessFlags := 18, slot := 1, constantValue := 0 }, { name := "hash", type := .int, accessFlags := 2, slot := 2, constantValue := 0 }]
  methods := #[]
  instanceTypes := #[(.object "java/lang/String"), .int, .int]
  staticTypes := #[]
  resolved := Array.replicate 204 none
  statics := none }

def pool6 : Array CpInfo := pool [(1, .class_ 2), (0, u "com/example/keystone_script/keystonescript/compiler/TokenType"), (2, u "IDENTIFIER"), (0, u "Lcom/example/keystone_script/keystonescript/compiler/TokenType;"), (2, u "NUMBER"), (2, u "STRING"), (2, u "GSTRING_BEGIN"), (2, u "GSTRING_PART"), (2, u "GSTRING_END"), (2, u "DEF"), (2, u "VOID"), (2, u "PUBLIC"), (2, u "PROTECTED"), (2, u "PRIVATE"), (2, u "STATIC"), (2, u "FINAL"), (2, u "CLASS"), (2, u "EXTENDS"), (2, u "IMPLEMENTS"), (2, u "THIS"), (2, u "SUPER"), (2, u "IF"), (2, u "ELSE"), (2, u "RETURN"), (2, u "FOR"), (2, u "IN"), (2, u "WHILE"), (2, u "BREAK"), (2, u "CONTINUE"), (2, u "SWITCH"), (2, u "CASE"), (2, u "DEFAULT"), (2, u "INSTANCEOF"), (2, u "AS"), (2, u "TRY"), (2, u "CATCH"), (2, u "FINALLY"), (2, u "THROW"), (2, u "ASSERT"), (2, u "NEW"), (2, u "NULL"), (2, u "TRUE"), (2, u "FALSE"), (2, u "PLUS"), (2, u "MINUS"), (2, u "PLUS_PLUS"), (2, u "MINUS_MINUS"), (2, u "STAR"), (2, u "SLASH"), (2, u "PERCENT"), (2, u "POWER"), (2, u "ASSIGN"), (2, u "PLUS_ASSIGN"), (2, u "MINUS_ASSIGN"), (2, u "STAR_ASSIGN"), (2, u "EQUAL"), (2, u "NOT_EQUAL"), (2, u "REGEX_FIND"), (2, u "REGEX_MATCH"), (2, u "LESS"), (2, u "LESS_EQUAL"), (2, u "GREATER"), (2, u "GREATER_EQUAL"), (2, u "AMPERSAND"), (2, u "PIPE"), (2, u "AMPERSAND_AMPERSAND"), (2, u "PIPE_PIPE"), (2, u "CARET"), (2, u "TILDE"), (2, u "BANG"), (2, u "SHIFT_LEFT"), (2, u "SHIFT_RIGHT"), (2, u "UNSIGNED_SHIFT_RIGHT"), (2, u "DOT"), (2, u "SAFE_DOT"), (2, u "SPREAD_DOT"), (2, u "FIELD_DOT"), (2, u "AT"), (2, u "QUESTION"), (2, u "ELVIS"), (2, u "RANGE"), (2, u "RANGE_EXCLUSIVE"), (2, u "COMMA"), (2, u "COLON"), (2, u "ARROW"), (2, u "LEFT_PAREN"), (2, u "RIGHT_PAREN"), (2, u "LEFT_BRACKET"), (2, u "RIGHT_BRACKET"), (2, u "LEFT_BRACE"), (2, u "RIGHT_BRACE"), (2, u "SEMICOLON"), (2, u "NEWLINE"), (2, u "END"), (2, u "$VALUES"), (0, u "[Lcom/example/keystone_script/keystonescript/compiler/TokenType;"), (6, .class_ 289), (1, u "java/lang/Enum"), (11, u "spelling"), (0, u "Ljava/lang/String;"), (2, u "description")] 322

/-- com/example/keystone_script/keystonescript/compiler/TokenType -/
def k6 : Class := { plain "com/example/keystone_script/keystonescript/compiler/TokenType" (some 5) with
  accessFlags := 16432
  interfaces := #[]
  cf := some (fileOf pool6 1 #[] #[] 16432 287 #[] #[{ accessFlags := 16409, nameIndex := 5, descriptorIndex := 6, attributes := #[] }, { accessFlags := 16409, nameIndex := 9, descriptorIndex := 6, attributes := #[] }, { accessFlags := 16409, nameIndex := 12, descriptorIndex := 6, attributes := #[] }, { accessFlags := 16409, nameIndex := 15, descriptorIndex := 6, attributes := #[] }, { accessFlags := 16409, nameIndex := 18, descriptorIndex := 6, attributes := #[] }, { accessFlags := 16409, nameIndex := 21, descriptorIndex := 6, attributes := #[] }, { accessFlags := 16409, nameIndex := 24, descriptorIndex := 6, attributes := #[] }, { accessFlags := 16409, nameIndex := 27, descriptorIndex := 6, attributes := #[] }, { accessFlags := 16409, nameIndex := 30, descriptorIndex := 6, attributes := #[] }, { accessFlags := 16409, nameIndex := 33, descriptorIndex := 6, attributes := #[] }, { accessFlags := 16409, nameIndex := 36, descriptorIndex := 6, attributes := #[] }, { accessFlags := 16409, nameIndex := 39, descriptorIndex := 6, attributes := #[] }, { accessFlags := 16409, nameIndex := 42, descriptorIndex := 6, attributes := #[] }, { accessFlags := 16409, nameIndex := 45, descriptorIndex := 6, attributes := #[] }, { accessFlags := 16409, nameIndex := 48, descriptorIndex := 6, attributes := #[] }, { accessFlags := 16409, nameIndex := 51, descriptorIndex := 6, attributes := #[] }, { accessFlags := 16409, nameIndex := 54, descriptorIndex := 6, attributes := #[] }, { accessFlags := 16409, nameIndex := 57, descriptorIndex := 6, attributes := #[] }, { accessFlags := 16409, nameIndex := 60, descriptorIndex := 6, attributes := #[] }, { accessFlags := 16409, nameIndex := 63, descriptorIndex := 6, attributes := #[] }, { accessFlags := 16409, nameIndex := 66, descriptorIndex := 6, attributes := #[] }, { accessFlags := 16409, nameIndex := 69, descriptorIndex := 6, attributes := #[] }, { accessFlags := 16409, nameIndex := 72, descriptorIndex := 6, attributes := #[] }, { accessFlags := 16409, nameIndex := 75, descriptorIndex := 6, attributes := #[] }, { accessFlags := 16409, nameIndex := 78, descriptorIndex := 6, attributes := #[] }, { accessFlags := 16409, nameIndex := 81, descriptorIndex := 6, attributes := #[] }, { accessFlags := 16409, nameIndex := 84, descriptorIndex := 6, attributes := #[] }, { accessFlags := 16409, nameIndex := 87, descriptorIndex := 6, attributes := #[] }, { accessFlags := 16409, nameIndex := 90, descriptorIndex := 6, attributes := #[] }, { accessFlags := 16409, nameIndex := 93, descriptorIndex := 6, attributes := #[] }, { accessFlags := 16409, nameIndex := 96, descriptorIndex := 6, attributes := #[] }, { accessFlags := 16409, nameIndex := 99, descriptorIndex := 6, attributes := #[] }, { accessFlags := 16409, nameIndex := 102, descriptorIndex := 6, attributes := #[] }, { accessFlags := 16409, nameIndex := 105, descriptorIndex := 6, attributes := #[] }, { accessFlags := 16409, nameIndex := 108, descriptorIndex := 6, attributes := #[] }, { accessFlags := 16409, nameIndex := 111, descriptorIndex := 6, attributes := #[] }, { accessFlags := 16409, nameIndex := 114, descriptorIndex := 6, attributes := #[] }, { accessFlags := 16409, nameIndex := 117, descriptorIndex := 6, attributes := #[] }, { accessFlags := 16409, nameIndex := 120, descriptorIndex := 6, attributes := #[] }, { accessFlags := 16409, nameIndex := 123, descriptorIndex := 6, attributes := #[] }, { accessFlags := 16409, nameIndex := 126, descriptorIndex := 6, attributes := #[] }, { accessFlags := 16409, nameIndex := 129, descriptorIndex := 6, attributes := #[] }, { accessFlags := 16409, nameIndex := 132, descriptorIndex := 6, attributes := #[] }, { accessFlags := 16409, nameIndex := 135, descriptorIndex := 6, attributes := #[] }, { accessFlags := 16409, nameIndex := 138, descriptorIndex := 6, attributes := #[] }, { accessFlags := 16409, nameIndex := 141, descriptorIndex := 6, attributes := #[] }, { accessFlags := 16409, nameIndex := 144, descriptorIndex := 6, attributes := #[] }, { accessFlags := 16409, nameIndex := 147, descriptorIndex := 6, attributes := #[] }, { accessFlags := 16409, nameIndex := 150, descriptorIndex := 6, attributes := #[] }, { accessFlags := 16409, nameIndex := 153, descriptorIndex := 6, attributes := #[] }, { accessFlags := 16409, nameIndex := 156, descriptorIndex := 6, attributes := #[] }, { accessFlags := 16409, nameIndex := 159, descriptorIndex := 6, attributes := #[] }, { accessFlags := 16409, nameIndex := 162, descriptorIndex := 6, attributes := #[] }, { accessFlags := 16409, nameIndex := 165, descriptorIndex := 6, attributes := #[] }, { accessFlags := 16409, nameIndex := 168, descriptorIndex := 6, attributes := #[] }, { accessFlags := 16409, nameIndex := 171, descriptorIndex := 6, attributes := #[] }, { accessFlags := 16409, nameIndex := 174, descriptorIndex := 6, attributes := #[] }, { accessFlags := 16409, nameIndex := 177, descriptorIndex := 6, attributes := #[] }, { accessFlags := 16409, nameIndex := 180, descriptorIndex := 6, attributes := #[] }, { accessFlags := 16409, nameIndex := 183, descriptorIndex := 6, attributes := #[] }, { accessFlags := 16409, nameIndex := 186, descriptorIndex := 6, attributes := #[] }, { accessFlags := 16409, nameIndex := 189, descriptorIndex := 6, attributes := #[] }, { accessFlags := 16409, nameIndex := 192, descriptorIndex := 6, attributes := #[] }, { accessFlags := 16409, nameIndex := 195, descriptorIndex := 6, attributes := #[] }, { accessFlags := 16409, nameIndex := 198, descriptorIndex := 6, attributes := #[] }, { accessFlags := 16409, nameIndex := 201, descriptorIndex := 6, attributes := #[] }, { accessFlags := 16409, nameIndex := 204, descriptorIndex := 6, attributes := #[] }, { accessFlags := 16409, nameIndex := 207, descriptorIndex := 6, attributes := #[] }, { accessFlags := 16409, nameIndex := 210, descriptorIndex := 6, attributes := #[] }, { accessFlags := 16409, nameIndex := 213, descriptorIndex := 6, attributes := #[] }, { accessFlags := 16409, nameIndex := 216, descriptorIndex := 6, attributes := #[] }, { accessFlags := 16409, nameIndex := 219, descriptorIndex := 6, attributes := #[] }, { accessFlags := 16409, nameIndex := 222, descriptorIndex := 6, attributes := #[] }, { accessFlags := 16409, nameIndex := 225, descriptorIndex := 6, attributes := #[] }, { accessFlags := 16409, nameIndex := 228, descriptorIndex := 6, attributes := #[] }, { accessFlags := 16409, nameIndex := 231, descriptorIndex := 6, attributes := #[] }, { accessFlags := 16409, nameIndex := 234, descriptorIndex := 6, attributes := #[] }, { accessFlags := 16409, nameIndex := 237, descriptorIndex := 6, attributes := #[] }, { accessFlags := 16409, nameIndex := 240, descriptorIndex := 6, attributes := #[] }, { accessFlags := 16409, nameIndex := 243, descriptorIndex := 6, attributes := #[] }, { accessFlags := 16409, nameIndex := 246, descriptorIndex := 6, attributes := #[] }, { accessFlags := 16409, nameIndex := 249, descriptorIndex := 6, attributes := #[] }, { accessFlags := 16409, nameIndex := 252, descriptorIndex := 6, attributes := #[] }, { accessFlags := 16409, nameIndex := 255, descriptorIndex := 6, attributes := #[] }, { accessFlags := 16409, nameIndex := 258, descriptorIndex := 6, attributes := #[] }, { accessFlags := 16409, nameIndex := 261, descriptorIndex := 6, attributes := #[] }, { accessFlags := 16409, nameIndex := 264, descriptorIndex := 6, attributes := #[] }, { accessFlags := 16409, nameIndex := 267, descriptorIndex := 6, attributes := #[] }, { accessFlags := 16409, nameIndex := 270, descriptorIndex := 6, attributes := #[] }, { accessFlags := 16409, nameIndex := 273, descriptorIndex := 6, attributes := #[] }, { accessFlags := 16409, nameIndex := 276, descriptorIndex := 6, attributes := #[] }, { accessFlags := 16, nameIndex := 301, descriptorIndex := 302, attributes := #[] }, { accessFlags := 18, nameIndex := 305, descriptorIndex := 302, attributes := #[] }, { accessFlags := 4122, nameIndex := 279, descriptorIndex := 280, attributes := #[] }])
  fields := #[{ name := "IDENTIFIER", type := (.object "com/example/keystone_script/keystonescript/compiler/TokenType"), accessFlags := 16409, slot := 0, constantValue := 0 }, { name := "NUMBER", type := (.object "com/example/keystone_script/keystonescript/compiler/TokenType"), accessFlags := 16409, slot := 1, constantValue := 0 }, { name := "STRING", type := (.object "com/example/keystone_script/keystonescript/compiler/TokenType"), accessFlags := 16409, slot := 2, constantValue := 0 }, { name := "GSTRING_BEGIN", type := (.object "com/example/keystone_script/keystonescript/compiler/TokenType"), accessFlags := 16409, slot := 3, constantValue := 0 }, { name := "GSTRING_PART", type := (.object "com/example/keystone_script/keystonescript/compiler/TokenType"), accessFlags := 16409, slot := 4, constantValue := 0 }, { name := "GSTRING_END", type := (.object "com/example/keystone_script/keystonescript/compiler/TokenType"), accessFlags := 16409, slot := 5, constantValue := 0 }, { name := "DEF", type := (.object "com/example/keystone_script/keystonescript/compiler/TokenType"), accessFlags := 16409, slot := 6, constantValue := 0 }, { name := "VOID", type := (.object "com/example/keystone_script/keystonescript/compiler/TokenType"), accessFlags := 16409, slot := 7, constantValue := 0 }, { name := "PUBLIC", type := (.object "com/example/keystone_script/keystonescript/compiler/TokenType"), accessFlags := 16409, slot := 8, constantValue := 0 }, { name := "PROTECTED", type := (.object "com/example/keystone_script/keystonescript/compiler/TokenType"), accessFlags := 16409, slot := 9, constantValue := 0 }, { name := "PRIVATE", type := (.object "com/example/keystone_script/keystonescript/compiler/TokenType"), accessFlags := 16409, slot := 10, constantValue := 0 }, { name := "STATIC", type := (.object "com/example/keystone_script/keystonescript/compiler/TokenType"), accessFlags := 16409, slot := 11, constantValue := 0 }, { name := "FINAL", type := (.object "com/example/keystone_script/keystonescript/compiler/TokenType"), accessFlags := 16409, slot := 12, constantValue := 0 }, { name := "CLASS", type := (.object "com/example/keystone_script/keystonescript/compiler/TokenType"), accessFlags := 16409, slot := 13, constantValue := 0 }, { name := "EXTENDS", type := (.object "com/example/keystone_script/keystonescript/compiler/TokenType"), accessFlags := 16409, slot := 14, constantValue := 0 }, { name := "IMPLEMENTS", type := (.object "com/example/keystone_script/keystonescript/compiler/TokenType"), accessFlags := 16409, slot := 15, constantValue := 0 }, { name := "THIS", type := (.object "com/example/keystone_script/keystonescript/compiler/TokenType"), accessFlags := 16409, slot := 16, constantValue := 0 }, { name := "SUPER", type := (.object "com/example/keystone_script/keystonescript/compiler/TokenType"), accessFlags := 16409, slot := 17, constantValue := 0 }, { name := "IF", type := (.object "com/example/keystone_script/keystonescript/compiler/TokenType"), accessFlags := 16409, slot := 18, constantValue := 0 }, { name := "ELSE", type := (.object "com/example/keystone_script/keystonescript/compiler/TokenType"), accessFlags := 16409, slot := 19, constantValue := 0 }, { name := "RETURN", type := (.object "com/example/keystone_script/keystonescript/compiler/TokenType"), accessFlags := 16409, slot := 20, constantValue := 0 }, { name := "FOR", type := (.object "com/example/keystone_script/keystonescript/compiler/TokenType"), accessFlags := 16409, slot := 21, constantValue := 0 }, { name := "IN", type := (.object "com/example/keystone_script/keystonescript/compiler/TokenType"), accessFlags := 16409, slot := 22, constantValue := 0 }, { name := "WHILE", type := (.object "com/example/keystone_script/keystonescript/compiler/TokenType"), accessFlags := 16409, slot := 23, constantValue := 0 }, { name := "BREAK", type := (.object "com/example/keystone_script/keystonescript/compiler/TokenType"), accessFlags := 16409, slot := 24, constantValue := 0 }, { name := "CONTINUE", type := (.object "com/example/keystone_script/keystonescript/compiler/TokenType"), accessFlags := 16409, slot := 25, constantValue := 0 }, { name := "SWITCH", type := (.object "com/example/keystone_script/keystonescript/compiler/TokenType"), accessFlags := 16409, slot := 26, constantValue := 0 }, { name := "CASE", type := (.object "com/example/keystone_script/keystonescript/compiler/TokenType"), accessFlags := 16409, slot := 27, constantValue := 0 }, { name := "DEFAULT", type := (.object "com/example/keystone_script/keystonescript/compiler/TokenType"), accessFlags := 16409, slot := 28, constantValue := 0 }, { name := "INSTANCEOF", type := (.object "com/example/keystone_script/keystonescript/compiler/TokenType"), accessFlags := 16409, slot := 29, constantValue := 0 }, { name := "AS", type := (.object "com/example/keystone_script/keystonescript/compiler/TokenType"), accessFlags := 16409, slot := 30, constantValue := 0 }, { name := "TRY", type := (.object "com/example/keystone_script/keystonescript/compiler/TokenType"), accessFlags := 16409, slot := 31, constantValue := 0 }, { name := "CATCH", type := (.object "com/example/keystone_script/keystonescript/compiler/TokenType"), accessFlags := 16409, slot := 32, constantValue := 0 }, { name := "FINALLY", type := (.object "com/example/keystone_script/keystonescript/compiler/TokenType"), accessFlags := 16409, slot := 33, constantValue := 0 }, { name := "THROW", type := (.object "com/example/keystone_script/keystonescript/compiler/TokenType"), accessFlags := 16409, slot := 34, constantValue := 0 }, { name := "ASSERT", type := (.object "com/example/keystone_script/keystonescript/compiler/TokenType"), accessFlags := 16409, slot := 35, constantValue := 0 }, { name := "NEW", type := (.object "com/example/keystone_script/keystonescript/compiler/TokenType"), accessFlags := 16409, slot := 36, constantValue := 0 }, { name := "NULL", type := (.object "com/example/keystone_script/keystonescript/compiler/TokenType"), accessFlags := 16409, slot := 37, constantValue := 0 }, { name := "TRUE", type := (.object "com/example/keystone_script/keystonescript/compiler/TokenType"), accessFlags := 16409, slot := 38, constantValue := 0 }, { name := "FALSE", type := (.object "com/example/keystone_script/keystonescript/compiler/TokenType"), accessFlags := 16409, slot := 39, constantValue := 0 }, { name := "PLUS", type := (.object "com/example/keystone_script/keystonescript/compiler/TokenType"), accessFlags := 16409, slot := 40, constantValue := 0 }, { name := "MINUS", type := (.object "com/example/keystone_script/keystonescript/compiler/TokenType"), accessFlags := 16409, slot := 41, constantValue := 0 }, { name := "PLUS_PLUS", type := (.object "com/example/keystone_script/keystonescript/compiler/TokenType"), accessFlags := 16409, slot := 42, constantValue := 0 }, { name := "MINUS_MINUS", type := (.object "com/example/keystone_script/keystonescript/compiler/TokenType"), accessFlags := 16409, slot := 43, constantValue := 0 }, { name := "STAR", type := (.object "com/example/keystone_script/keystonescript/compiler/TokenType"), accessFlags := 16409, slot := 44, constantValue := 0 }, { name := "SLASH", type := (.object "com/example/keystone_script/keystonescript/compiler/TokenType"), accessFlags := 16409, slot := 45, constantValue := 0 }, { name := "PERCENT", type := (.object "com/example/keystone_script/keystonescript/compiler/TokenType"), accessFlags := 16409, slot := 46, constantValue := 0 }, { name := "POWER", type := (.object "com/example/keystone_script/keystonescript/compiler/TokenType"), accessFlags := 16409, slot := 47, constantValue := 0 }, { name := "ASSIGN", type := (.object "com/example/keystone_script/keystonescript/compiler/TokenType"), accessFlags := 16409, slot := 48, constantValue := 0 }, { name := "PLUS_ASSIGN", type := (.object "com/example/keystone_script/keystonescript/compiler/TokenType"), accessFlags := 16409, slot := 49, constantValue := 0 }, { name := "MINUS_ASSIGN", type := (.object "com/example/keystone_script/keystonescript/compiler/TokenType"), accessFlags := 16409, slot := 50, constantValue := 0 }, { name := "STAR_ASSIGN", type := (.object "com/example/keystone_script/keystonescript/compiler/TokenType"), accessFlags := 16409, slot := 51, constantValue := 0 }, { name := "EQUAL", type := (.object "com/example/keystone_script/keystonescript/compiler/TokenType"), accessFlags := 16409, slot := 52, constantValue := 0 }, { name := "NOT_EQUAL", type := (.object "com/example/keystone_script/keystonescript/compiler/TokenType"), accessFlags := 16409, slot := 53, constantValue := 0 }, { name := "REGEX_FIND", type := (.object "com/example/keystone_script/keystonescript/compiler/TokenType"), accessFlags := 16409, slot := 54, constantValue := 0 }, { name := "REGEX_MATCH", type := (.object "com/example/keystone_script/keystonescript/compiler/TokenType"), accessFlags := 16409, slot := 55, constantValue := 0 }, { name := "LESS", type := (.object "com/example/keystone_script/keystonescript/compiler/TokenType"), accessFlags := 16409, slot := 56, constantValue := 0 }, { name := "LESS_EQUAL", type := (.object "com/example/keystone_script/keystonescript/compiler/TokenType"), accessFlags := 16409, slot := 57, constantValue := 0 }, { name := "GREATER", type := (.object "com/example/keystone_script/keystonescript/compiler/TokenType"), accessFlags := 16409, slot := 58, constantValue := 0 }, { name := "GREATER_EQUAL", type := (.object "com/example/keystone_script/keystonescript/compiler/TokenType"), accessFlags := 16409, slot := 59, constantValue := 0 }, { name := "AMPERSAND", type := (.object "com/example/keystone_script/keystonescript/compiler/TokenType"), accessFlags := 16409, slot := 60, constantValue := 0 }, { name := "PIPE", type := (.object "com/example/keystone_script/keystonescript/compiler/TokenType"), accessFlags := 16409, slot := 61, constantValue := 0 }, { name := "AMPERSAND_AMPERSAND", type := (.object "com/example/keystone_script/keystonescript/compiler/TokenType"), accessFlags := 16409, slot := 62, constantValue := 0 }, { name := "PIPE_PIPE", type := (.object "com/example/keystone_script/keystonescript/compiler/TokenType"), accessFlags := 16409, slot := 63, constantValue := 0 }, { name := "CARET", type := (.object "com/example/keystone_script/keystonescript/compiler/TokenType"), accessFlags := 16409, slot := 64, constantValue := 0 }, { name := "TILDE", type := (.object "com/example/keystone_script/keystonescript/compiler/TokenType"), accessFlags := 16409, slot := 65, constantValue := 0 }, { name := "BANG", type := (.object "com/example/keystone_script/keystonescript/compiler/TokenType"), accessFlags := 16409, slot := 66, constantValue := 0 }, { name := "SHIFT_LEFT", type := (.object "com/example/keystone_script/keystonescript/compiler/TokenType"), accessFlags := 16409, slot := 67, constantValue := 0 }, { name := "SHIFT_RIGHT", type := (.object "com/example/keystone_script/keystonescript/compiler/TokenType"), accessFlags := 16409, slot := 68, constantValue := 0 }, { name := "UNSIGNED_SHIFT_RIGHT", type := (.object "com/example/keystone_script/keystonescript/compiler/TokenType"), accessFlags := 16409, slot := 69, constantValue := 0 }, { name := "DOT", type := (.object "com/example/keystone_script/keystonescript/compiler/TokenType"), accessFlags := 16409, slot := 70, constantValue := 0 }, { name := "SAFE_DOT", type := (.object "com/example/keystone_script/keystonescript/compiler/TokenType"), accessFlags := 16409, slot := 71, constantValue := 0 }, { name := "SPREAD_DOT", type := (.object "com/example/keystone_script/keystonescript/compiler/TokenType"), accessFlags := 16409, slot := 72, constantValue := 0 }, { name := "FIELD_DOT", type := (.object "com/example/keystone_script/keystonescript/compiler/TokenType"), accessFlags := 16409, slot := 73, constantValue := 0 }, { name := "AT", type := (.object "com/example/keystone_script/keystonescript/compiler/TokenType"), accessFlags := 16409, slot := 74, constantValue := 0 }, { name := "QUESTION", type := (.object "com/example/keystone_script/keystonescript/compiler/TokenType"), accessFlags := 16409, slot := 75, constantValue := 0 }, { name := "ELVIS", type := (.object "com/example/keystone_script/keystonescript/compiler/TokenType"), accessFlags := 16409, slot := 76, constantValue := 0 }, { name := "RANGE", type := (.object "com/example/keystone_script/keystonescript/compiler/TokenType"), accessFlags := 16409, slot := 77, constantValue := 0 }, { name := "RANGE_EXCLUSIVE", type := (.object "com/example/keystone_script/keystonescript/compiler/TokenType"), accessFlags := 16409, slot := 78, constantValue := 0 }, { name := "COMMA", type := (.object "com/example/keystone_script/keystonescript/compiler/TokenType"), accessFlags := 16409, slot := 79, constantValue := 0 }, { name := "COLON", type := (.object "com/example/keystone_script/keystonescript/compiler/TokenType"), accessFlags := 16409, slot := 80, constantValue := 0 }, { name := "ARROW", type := (.object "com/example/keystone_script/keystonescript/compiler/TokenType"), accessFlags := 16409, slot := 81, constantValue := 0 }, { name := "LEFT_PAREN", type := (.object "com/example/keystone_script/keystonescript/compiler/TokenType"), accessFlags := 16409, slot := 82, constantValue := 0 }, { name := "RIGHT_PAREN", type := (.object "com/example/keystone_script/keystonescript/compiler/TokenType"), accessFlags := 16409, slot := 83, constantValue := 0 }, { name := "LEFT_BRACKET", type := (.object "com/example/keystone_script/keystonescript/compiler/TokenType"), accessFlags := 16409, slot := 84, constantValue := 0 }, { name := "RIGHT_BRACKET", type := (.object "com/example/keystone_script/keystonescript/compiler/TokenType"), accessFlags := 16409, slot := 85, constantValue := 0 }, { name := "LEFT_BRACE", type := (.object "com/example/keystone_script/keystonescript/compiler/TokenType"), accessFlags := 16409, slot := 86, constantValue := 0 }, { name := "RIGHT_BRACE", type := (.object "com/example/keystone_script/keystonescript/compiler/TokenType"), accessFlags := 16409, slot := 87, constantValue := 0 }, { name := "SEMICOLON", type := (.object "com/example/keystone_script/keystonescript/compiler/TokenType"), accessFlags := 16409, slot := 88, constantValue := 0 }, { name := "NEWLINE", type := (.object "com/example/keystone_script/keystonescript/compiler/TokenType"), accessFlags := 16409, slot := 89, constantValue := 0 }, { name := "END", type := (.object "com/example/keystone_script/keystonescript/compiler/TokenType"), accessFlags := 16409, slot := 90, constantValue := 0 }, { name := "spelling", type := (.object "java/lang/String"), accessFlags := 16, slot := 3, constantValue := 0 }, { name := "description", type := (.object "java/lang/String"), accessFlags := 18, slot := 4, constantValue := 0 }, { name := "$VALUES", type := (.array (.object "com/example/keystone_script/keystonescript/compiler/TokenType")), accessFlags := 4122, slot := 91, constantValue := 0 }]
  methods := #[]
  instanceTypes := #[(.object "java/lang/String"), .int, .int, (.object "java/lang/String"), (.object "java/lang/String")]
  staticTypes := #[(.object "com/example/keystone_script/keystonescript/compiler/TokenType"), (.object "com/example/keystone_script/keystonescript/compiler/TokenType"), (.object "com/example/keystone_script/keystonescript/compiler/TokenType"), (.object "com/example/keystone_script/keystonescript/compiler/TokenType"), (.object "com/example/keystone_script/keystonescript/compiler/TokenType"), (.object "com/example/keystone_script/keystonescript/compiler/TokenType"), (.object "com/example/keystone_script/keystonescript/compiler/TokenType"), (.object "com/example/keystone_script/keystonescript/compiler/TokenType"), (.object "com/example/keystone_script/keystonescript/compiler/TokenType"), (.object "com/example/keystone_script/keystonescript/compiler/TokenType"), (.object "com/example/keystone_script/keystonescript/compiler/TokenType"), (.object "com/example/keystone_script/keystonescript/compiler/TokenType"), (.object "com/example/keystone_script/keystonescript/compiler/TokenType"), (.object "com/example/keystone_script/keystonescript/compiler/TokenType"), (.object "com/example/keystone_script/keystonescript/compiler/TokenType"), (.object "com/example/keystone_script/keystonescript/compiler/TokenType"), (.object "com/example/keystone_script/keystonescript/compiler/TokenType"), (.object "com/example/keystone_script/keystonescript/compiler/TokenType"), (.object "com/example/keystone_script/keystonescript/compiler/TokenType"), (.object "com/example/keystone_script/keystonescript/compiler/TokenType"), (.object "com/example/keystone_script/keystonescript/compiler/TokenType"), (.object "com/example/keystone_script/keystonescript/compiler/TokenType"), (.object "com/example/keystone_script/keystonescript/compiler/TokenType"), (.object "com/example/keystone_script/keystonescript/compiler/TokenType"), (.object "com/example/keystone_script/keystonescript/compiler/TokenType"), (.object "com/example/keystone_script/keystonescript/compiler/TokenType"), (.object "com/example/keystone_script/keystonescript/compiler/TokenType"), (.object "com/example/keystone_script/keystonescript/compiler/TokenType"), (.object "com/example/keystone_script/keystonescript/compiler/TokenType"), (.object "com/example/keystone_script/keystonescript/compiler/TokenType"), (.object "com/example/keystone_script/keystonescript/compiler/TokenType"), (.object "com/example/keystone_script/keystonescript/compiler/TokenType"), (.object "com/example/keystone_script/keystonescript/compiler/TokenType"), (.object "com/example/keystone_script/keystonescript/compiler/TokenType"), (.object "com/example/keystone_script/keystonescript/compiler/TokenType"), (.object "com/example/keystone_script/keystonescript/compiler/TokenType"), (.object "com/example/keystone_script/keystonescript/compiler/TokenType"), (.object "com/example/keystone_script/keystonescript/compiler/TokenType"), (.object "com/example/keystone_script/keystonescript/compiler/TokenType"), (.object "com/example/keystone_script/keystonescript/compiler/TokenType"), (.object "com/example/keystone_script/keystonescript/compiler/TokenType"), (.object "com/example/keystone_script/keystonescript/compiler/TokenType"), (.object "com/example/keystone_script/keystonescript/compiler/TokenType"), (.object "com/example/keystone_script/keystonescript/compiler/TokenType"), (.object "com/example/keystone_script/keystonescript/compiler/TokenType"), (.object "com/example/keystone_script/keystonescript/compiler/TokenType"), (.object "com/example/keystone_script/keystonescript/compiler/TokenType"), (.object "com/example/keystone_script/keystonescript/compiler/TokenType"), (.object "com/example/keystone_script/keystonescript/compiler/TokenType"), (.object "com/example/keystone_script/keystonescript/compiler/TokenType"), (.object "com/example/keystone_script/keystonescript/compiler/TokenType"), (.object "com/example/keystone_script/keystonescript/compiler/TokenType"), (.object "com/example/keystone_script/keystonescript/compiler/TokenType"), (.object "com/example/keystone_script/keystonescript/compiler/TokenType"), (.object "com/example/keystone_script/keystonescript/compiler/TokenType"), (.object "com/example/keystone_script/keystonescript/compiler/TokenType"), (.object "com/example/keystone_script/keystonescript/compiler/TokenType"), (.object "com/example/keystone_script/keystonescript/compiler/TokenType"), (.object "com/example/keystone_script/keystonescript/compiler/TokenType"), (.object "com/example/keystone_script/keystonescript/compiler/TokenType"), (.object "com/example/keystone_script/keystonescript/compiler/TokenType"), (.object "com/example/keystone_script/keystonescript/compiler/TokenType"), (.object "com/example/keystone_script/keystonescript/compiler/TokenType"), (.object "com/example/keystone_script/keystonescript/compiler/TokenType"), (.object "com/example/keystone_script/keystonescript/compiler/TokenType"), (.object "com/example/keystone_script/keystonescript/compiler/TokenType"), (.object "com/example/keystone_script/keystonescript/compiler/TokenType"), (.object "com/example/keystone_script/keystonescript/compiler/TokenType"), (.object "com/example/keystone_script/keystonescript/compiler/TokenType"), (.object "com/example/keystone_script/keystonescript/compiler/TokenType"), (.object "com/example/keystone_script/keystonescript/compiler/TokenType"), (.object "com/example/keystone_script/keystonescript/compiler/TokenType"), (.object "com/example/keystone_script/keystonescript/compiler/TokenType"), (.object "com/example/keystone_script/keystonescript/compiler/TokenType"), (.object "com/example/keystone_script/keystonescript/compiler/TokenType"), (.object "com/example/keystone_script/keystonescript/compiler/TokenType"), (.object "com/example/keystone_script/keystonescript/compiler/TokenType"), (.object "com/example/keystone_script/keystonescript/compiler/TokenType"), (.object "com/example/keystone_script/keystonescript/compiler/TokenType"), (.object "com/example/keystone_script/keystonescript/compiler/TokenType"), (.object "com/example/keystone_script/keystonescript/compiler/TokenType"), (.object "com/example/keystone_script/keystonescript/compiler/TokenType"), (.object "com/example/keystone_script/keystonescript/compiler/TokenType"), (.object "com/example/keystone_script/keystonescript/compiler/TokenType"), (.object "com/example/keystone_script/keystonescript/compiler/TokenType"), (.object "com/example/keystone_script/keystonescript/compiler/TokenType"), (.object "com/example/keystone_script/keystonescript/compiler/TokenType"), (.object "com/example/keystone_script/keystonescript/compiler/TokenType"), (.object "com/example/keystone_script/keystonescript/compiler/TokenType"), (.object "com/example/keystone_script/keystonescript/compiler/TokenType"), (.object "com/example/keystone_script/keystonescript/compiler/TokenType"), (.array (.object "com/example/keystone_script/keystonescript/compiler/TokenType"))]
  resolved := Array.replicate 628 none
  statics := some 0 }

def pool7 : Array CpInfo := pool [(1, .class_ 2), (0, u "com/example/keystone_script/keystonescript/compiler/Navigation"), (2, u "DIRECT"), (0, u "Lcom/example/keystone_script/keystonescript/compiler/Navigation;"), (2, u "SAFE"), (2, u "SPREAD"), (2, u "$VALUES"), (0, u "[Lcom/example/keystone_script/keystonescript/compiler/Navigation;"), (6, .class_ 25), (1, u "java/lang/Enum"), (6, .fieldref 1 33), (0, .nameAndType 34 35), (0, u "token"), (0, u "Lcom/example/keystone_script/keystonescript/compiler/TokenType;"), (0, .fieldref 1 37), (0, .nameAndType 38 16), (0, u "NAVIGATIONS"), (48, u "of"), (0, u "(Lcom/example/keystone_script/keystonescript/compiler/TokenType;)Lcom/example/keystone_script/keystonescript/compiler/Navigation;")] 11

def k7c0 : Code := { maxStack := 2, maxLocals := 5, code := prog_56_method_4_code, exceptionTable := #[], attributes := #[] }
def k7m0 : Method := { name := "of", desc := "(Lcom/example/keystone_script/keystonescript/compiler/TokenType;)Lcom/example/keystone_script/keystonescript/compiler/Navigation;", sig := { parameters := [(.object "com/example/keystone_script/keystonescript/compiler/TokenType")], returnType := some (.object "com/example/keystone_script/keystonescript/compiler/Navigation") }, accessFlags := 8, code := some k7c0 }
/-- com/example/keystone_script/keystonescript/compiler/Navigation -/
def k7 : Class := { plain "com/example/keystone_script/keystonescript/compiler/Navigation" (some 5) with
  accessFlags := 16432
  interfaces := #[]
  cf := some (fileOf pool7 1 #[] #[{ accessFlags := 8, nameIndex := 87, descriptorIndex := 88, attributes := #[] }] 16432 23 #[] #[{ accessFlags := 16409, nameIndex := 5, descriptorIndex := 6, attributes := #[] }, { accessFlags := 16409, nameIndex := 9, descriptorIndex := 6, attributes := #[] }, { accessFlags := 16409, nameIndex := 12, descriptorIndex := 6, attributes := #[] }, { accessFlags := 26, nameIndex := 38, descriptorIndex := 16, attributes := #[] }, { accessFlags := 16, nameIndex := 34, descriptorIndex := 35, attributes := #[] }, { accessFlags := 4122, nameIndex := 15, descriptorIndex := 16, attributes := #[] }])
  fields := #[{ name := "DIRECT", type := (.object "com/example/keystone_script/keystonescript/compiler/Navigation"), accessFlags := 16409, slot := 0, constantValue := 0 }, { name := "SAFE", type := (.object "com/example/keystone_script/keystonescript/compiler/Navigation"), accessFlags := 16409, slot := 1, constantValue := 0 }, { name := "SPREAD", type := (.object "com/example/keystone_script/keystonescript/compiler/Navigation"), accessFlags := 16409, slot := 2, constantValue := 0 }, { name := "NAVIGATIONS", type := (.array (.object "com/example/keystone_script/keystonescript/compiler/Navigation")), accessFlags := 26, slot := 3, constantValue := 0 }, { name := "token", type := (.object "com/example/keystone_script/keystonescript/compiler/TokenType"), accessFlags := 16, slot := 3, constantValue := 0 }, { name := "$VALUES", type := (.array (.object "com/example/keystone_script/keystonescript/compiler/Navigation")), accessFlags := 4122, slot := 4, constantValue := 0 }]
  methods := #[k7m0]
  instanceTypes := #[(.object "java/lang/String"), .int, .int, (.object "com/example/keystone_script/keystonescript/compiler/TokenType")]
  staticTypes := #[(.object "com/example/keystone_script/keystonescript/compiler/Navigation"), (.object "com/example/keystone_script/keystonescript/compiler/Navigation"), (.object "com/example/keystone_script/keystonescript/compiler/Navigation"), (.array (.object "com/example/keystone_script/keystonescript/compiler/Navigation")), (.array (.object "com/example/keystone_script/keystonescript/compiler/Navigation"))]
  resolved := Array.replicate 100 none
  statics := some 1 }

def pool8 : Array CpInfo := pool [(1, u "java/lang/Cloneable"), (0, .class_ 1), (0, u "java/lang/Object"), (0, .class_ 3)] 3

/-- java/lang/Cloneable -/
def k8 : Class := { plain "java/lang/Cloneable" (some 0) with
  accessFlags := 1537
  interfaces := #[]
  cf := some (fileOf pool8 2 #[] #[] 1537 4 #[] #[])
  fields := #[]
  methods := #[]
  instanceTypes := #[]
  staticTypes := #[]
  resolved := Array.replicate 8 none
  statics := none }

/-- the primitive byte -/
def k9 : Class := { plain "byte" none with kind := .primitive 'B', accessFlags := 0x411 }
/-- [B -/
def k10 : Class := { plain "[B" (some 0) with kind := .array 9 .byte, interfaces := #[8, 4], accessFlags := 1041 }

/-- the primitive int -/
def k11 : Class := { plain "int" none with kind := .primitive 'I', accessFlags := 0x411 }
/-- [I -/
def k12 : Class := { plain "[I" (some 0) with kind := .array 11 .int, interfaces := #[8, 4], accessFlags := 1041 }

/-- [Lcom/example/keystone_script/keystonescript/compiler/Navigation; -/
def k13 : Class := { plain "[Lcom/example/keystone_script/keystonescript/compiler/Navigation;" (some 0) with kind := .array 7 (.object "com/example/keystone_script/keystonescript/compiler/Navigation"), interfaces := #[8, 4], accessFlags := 1041 }

def heap : Heap := #[{ cls := 6, slots := #[.ref 7, .null, .null, .null, .null, .null, .null, .null, .null, .null, .null, .null, .null, .null, .null, .null, .null, .null, .null, .null, .null, .null, .null, .null, .null, .null, .null, .null, .null, .null, .null, .null, .null, .null, .null, .null, .null, .null, .null, .null, .ref 16, .null, .null, .null, .ref 11, .null, .null, .null, .null, .null, .null, .null, .null, .null, .null, .null, .null, .null, .null, .null, .null, .null, .null, .null, .null, .null, .null, .null, .null, .null, .ref 3, .ref 4, .ref 5, .ref 6, .ref 13, .ref 9, .ref 10, .ref 12, .ref 14, .ref 15, .null, .null, .null, .null, .null, .null, .null, .null, .null, .ref 17, .ref 8, .null], vm := .statics 6 },
  { cls := 7, slots := #[.ref 18, .ref 19, .ref 20, .ref 2, .null], vm := .statics 7 },
  { cls := 13, slots := #[.ref 18, .ref 19, .ref 20], vm := .none },
  { cls := 6, slots := #[.null, .int 70, .int 0, .null, .null], vm := .none },
  { cls := 6, slots := #[.null, .int 71, .int 0, .null, .null], vm := .none },
  { cls := 6, slots := #[.null, .int 72, .int 0, .null, .null], vm := .none },
  { cls := 6, slots := #[.null, .int 73, .int 0, .null, .null], vm := .none },
  { cls := 6, slots := #[.null, .int 0, .int 0, .null, .null], vm := .none },
  { cls := 6, slots := #[.null, .int 90, .int 0, .null, .null], vm := .none },
  { cls := 6, slots := #[.null, .int 75, .int 0, .null, .null], vm := .none },
  { cls := 6, slots := #[.null, .int 76, .int 0, .null, .null], vm := .none },
  { cls := 6, slots := #[.null, .int 44, .int 0, .null, .null], vm := .none },
  { cls := 6, slots := #[.null, .int 77, .int 0, .null, .null], vm := .none },
  { cls := 6, slots := #[.null, .int 74, .int 0, .null, .null], vm := .none },
  { cls := 6, slots := #[.null, .int 78, .int 0, .null, .null], vm := .none },
  { cls := 6, slots := #[.null, .int 79, .int 0, .null, .null], vm := .none },
  { cls := 6, slots := #[.null, .int 40, .int 0, .null, .null], vm := .none },
  { cls := 6, slots := #[.null, .int 89, .int 0, .null, .null], vm := .none },
  { cls := 7, slots := #[.null, .int 0, .int 0, .ref 3], vm := .none },
  { cls := 7, slots := #[.null, .int 1, .int 0, .ref 4], vm := .none },
  { cls := 7, slots := #[.null, .int 2, .int 0, .ref 5], vm := .none }]
def classes : Array Class := #[k0, k1, k2, k3, k4, k5, k6, k7, k8, k9, k10, k11, k12, k13]
def interned : List (Array UInt16 × Addr) := []
def slotsUsed : Nat := 187
def theMethod : MethodId := ⟨1, 3⟩
def args0 : Array Value := #[.int 5]
def aboutOver (below : List Frame) : State where
  vm := { classes := classes, interned := interned.toArray }
  heap := heap
  slotsUsed := slotsUsed
  threads := #[{ frames := .invoking theMethod args0 :: below }]
def below0 : List Frame := [.native { method := ⟨0, 0⟩, args := #[] }]
def about1 : State := aboutOver below0
def p0 : Program := .bare "" "" ""
def e0 : Env := launch0.env 0 0 0
theorem w_frames : about1.frames = Frame.invoking theMethod args0 :: below0 := rfl
set_option maxRecDepth 65536 in
theorem w_args : argsFit about1.vm theMethod args0 = true := by decide +kernel
set_option maxRecDepth 65536 in
theorem w_heap : heapFits about1 = true := by decide +kernel
set_option maxRecDepth 65536 in
theorem w_runnable : about1.curStatus? = some .runnable := by decide +kernel
set_option maxRecDepth 65536 in
theorem w_alone : about1.alone = true := by decide +kernel
set_option maxRecDepth 65536 in
theorem w_named : about1.methodNamed? x = some theMethod := by decide +kernel
set_option maxRecDepth 65536 in
theorem w_hears : about1.hears theMethod below0 = true := by decide +kernel
set_option maxRecDepth 65536 in
theorem w_ripe : about1.ripe theMethod args0 below0 = true := by decide +kernel
theorem w_running : about1.status = .running := rfl
set_option maxRecDepth 65536 in
theorem w_room : about1.hasRoom e0.platform room_1 = true :=
  launch0.hasRoom_least _ room_1 (by decide +kernel) (by decide +kernel) (by decide +kernel) (by decide +kernel) (by decide +kernel) (by decide +kernel)
theorem allAtoms_all (ts : List Jvm.Cond) (a : Array Jvm.Value) (st : Jvm.State) : (allAtoms ts).before a st = ts.all (fun c => c.before a st) := by
  induction ts with
  | nil => rfl
  | cons c t ih =>
    show (Jvm.Cond.and c (allAtoms t)).before a st = _
    rw [Jvm.Cond.before_and, ih, List.all_cons]
def words1 : List Jvm.Cond := Jvm.Cond.code x code maxLocals ret :: tables_1
/-- a 'code' word, met by the world's own term for the bytes: nothing is compared byte by byte -/
theorem code_word {y : MethodName} {bytes : ByteArray} {mx : Nat} {rt : Option FieldType} {a : Array Value} {s : State} {m : MethodId} {meth : Method} {c : Code} (h1 : s.methodNamed? y = some m) (h2 : s.vm.method? m = some meth) (h3 : meth.code = some c) (h4 : c.code = bytes)
    (h5 : (c.maxLocals == mx && c.exceptionTable.isEmpty && decide (c.maxStack ≤ mostOperands) && decide (meth.sig.returnType = rt) && !meth.locks && decide (parseMethodDescriptor y.desc = some meth.sig)) = true) : (Jvm.Cond.code y bytes mx rt).before a s = true := by
  simp only [Bool.and_eq_true, beq_iff_eq, Bool.not_eq_true', decide_eq_true_eq] at h5
  obtain ⟨⟨⟨⟨⟨g1, g2⟩, g3⟩, g4⟩, g5⟩, g6⟩ := h5
  simp [Cond.before, Cond.holds, Cond.value, h1, h2, h3, h4, g1, g2, g3, g4, g5, g6]
def isCode : Jvm.Cond → Bool
  | .code _ _ _ _ => true
  | _ => false
theorem all_split {L : List Jvm.Cond} {P : Jvm.Cond → Bool} (h1 : L.all (fun c => isCode c || P c) = true) (h2 : ∀ c ∈ L.filter isCode, P c = true) : L.all P = true := by
  refine List.all_eq_true.mpr fun c hc => ?_
  have h := List.all_eq_true.mp h1 c hc
  rcases Bool.eq_false_or_eq_true (isCode c) with hi | hi
  · exact h2 c (List.mem_filter.mpr ⟨hc, hi⟩)
  · simpa [hi] using h
set_option maxRecDepth 65536 in
theorem w_c0 : (Jvm.Cond.code x code maxLocals ret).before args0 about1 = true := code_word (m := ⟨1, 3⟩) (meth := k1m3) (c := k1c3) (by decide +kernel) rfl rfl rfl (by decide +kernel)
set_option maxRecDepth 65536 in
theorem w_c1 : (Jvm.Cond.code ({ cls := "com/example/keystone_script/keystonescript/compiler/NavigationOfPinLaw", name := "token", desc := "(I)Lcom/example/keystone_script/keystonescript/compiler/TokenType;" } : Jvm.MethodName) method_2_code (1 : Nat) (Option.some (Jvm.ClassFile.FieldType.object "com/example/keystone_script/keystonescript/compiler/TokenType"))).before args0 about1 = true := code_word (m := ⟨1, 1⟩) (meth := k1m1) (c := k1c1) (by decide +kernel) rfl rfl rfl (by decide +kernel)
set_option maxRecDepth 65536 in
theorem w_c2 : (Jvm.Cond.code ({ cls := "com/example/keystone_script/keystonescript/compiler/Navigation", name := "of", desc := "(Lcom/example/keystone_script/keystonescript/compiler/TokenType;)Lcom/example/keystone_script/keystonescript/compiler/Navigation;" } : Jvm.MethodName) prog_56_method_4_code (5 : Nat) (Option.some (Jvm.ClassFile.FieldType.object "com/example/keystone_script/keystonescript/compiler/Navigation"))).before args0 about1 = true := code_word (m := ⟨7, 0⟩) (meth := k7m0) (c := k7c0) (by decide +kernel) rfl rfl rfl (by decide +kernel)
set_option maxRecDepth 65536 in
theorem w_c3 : (Jvm.Cond.code ({ cls := "com/example/keystone_script/keystonescript/compiler/NavigationOfPinLaw", name := "expected", desc := "(I)Lcom/example/keystone_script/keystonescript/compiler/Navigation;" } : Jvm.MethodName) method_3_code (1 : Nat) (Option.some (Jvm.ClassFile.FieldType.object "com/example/keystone_script/keystonescript/compiler/Navigation"))).before args0 about1 = true := code_word (m := ⟨1, 2⟩) (meth := k1m2) (c := k1c2) (by decide +kernel) rfl rfl rfl (by decide +kernel)
def codes1 : List Jvm.Cond := [Jvm.Cond.code x code maxLocals ret, Jvm.Cond.code ({ cls := "com/example/keystone_script/keystonescript/compiler/NavigationOfPinLaw", name := "token", desc := "(I)Lcom/example/keystone_script/keystonescript/compiler/TokenType;" } : Jvm.MethodName) method_2_code (1 : Nat) (Option.some (Jvm.ClassFile.FieldType.object "com/example/keystone_script/keystonescript/compiler/TokenType")), Jvm.Cond.code ({ cls := "com/example/keystone_script/keystonescript/compiler/Navigation", name := "of", desc := "(Lcom/example/keystone_script/keystonescript/compiler/TokenType;)Lcom/example/keystone_script/keystonescript/compiler/Navigation;" } : Jvm.MethodName) prog_56_method_4_code (5 : Nat) (Option.some (Jvm.ClassFile.FieldType.object "com/example/keystone_script/keystonescript/compiler/Navigation")), Jvm.Cond.code ({ cls := "com/example/keystone_script/keystonescript/compiler/NavigationOfPinLaw", name := "expected", desc := "(I)Lcom/example/keystone_script/keystonescript/compiler/Navigation;" } : Jvm.MethodName) method_3_code (1 : Nat) (Option.some (Jvm.ClassFile.FieldType.object "com/example/keystone_script/keystonescript/compiler/Navigation"))]
set_option maxRecDepth 65536 in
theorem codes_eq : words1.filter isCode = codes1 := rfl
theorem w_codes : ∀ c ∈ words1.filter isCode, c.before args0 about1 = true := by
  rw [codes_eq]
  intro c hc
  simp only [codes1, List.mem_cons, List.not_mem_nil, or_false] at hc
  rcases hc with rfl | rfl | rfl | rfl
  · exact w_c0
  · exact w_c1
  · exact w_c2
  · exact w_c3
set_option maxRecDepth 65536 in
theorem w_t1 : (words1.take 24).all (fun c => isCode c || c.before args0 about1) = true := by decide +kernel
set_option maxRecDepth 65536 in
theorem w_t2 : ((words1.drop 24).take 24).all (fun c => isCode c || c.before args0 about1) = true := by decide +kernel
set_option maxRecDepth 65536 in
theorem w_t3 : ((words1.drop 24).drop 24).all (fun c => isCode c || c.before args0 about1) = true := by decide +kernel
theorem w_tables : (allAtoms (Jvm.Cond.code x code maxLocals ret :: tables_1)).before args0 about1 = true := by
  rw [allAtoms_all]
  show words1.all (fun c => c.before args0 about1) = true
  refine all_split ?_ w_codes
  rw [← List.take_append_drop 24 words1, List.all_append, w_t1, ← List.take_append_drop 24 (words1.drop 24), List.all_append, w_t2, w_t3]
  rfl
set_option maxRecDepth 65536 in
theorem w_case : (Jvm.Cond.and given_1 narrow_1).before args0 about1 = true := by decide +kernel
theorem w_applies : (headSpec (Jvm.Cond.code x code maxLocals ret :: tables_1) room_1).applies x e0.platform about1 = true :=
  (Spec.applies_iff w_frames).mpr ⟨w_running, w_runnable, w_alone, w_named, w_hears, w_ripe, w_room, w_tables⟩
theorem atStart : AtStart classFile x code maxLocals ret World_1 tables_1 room_1 Calls_1 rest_1 Pre_1 launch0 p0 e0 about1 theMethod args0 below0 :=
  ⟨lists_1, trivial, launch0.admits_env _ _ _, launch0.least_env, fairChoices_fair.cas, fairChoices_fair.clock, w_frames, w_args, w_heap, w_applies, trivial, trivial, w_case⟩
end start1
theorem witness_1 : WitnessClaimed_1 := ⟨start1.p0, start1.e0, start1.about1, start1.theMethod, start1.args0, start1.below0, start1.atStart⟩
end Jvm.Pilot.@@N@@
