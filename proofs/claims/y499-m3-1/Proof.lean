import JvmDerived
import JvmDerived.Pilot.@@N@@Statement
import JvmDerived.Pilot.@@N@@Code
set_option linter.unusedVariables false
set_option linter.unusedSimpArgs false
namespace Jvm.RoadKit
open Sem ClassFile Op Lib Jvm.Stand Jvm.Free Jvm.LawKit
section OwnKit
/-- what stands fast while one body is walked -/
def own_Cx (p : Program) (l : Launch) (e : Env) (R : Room) (s : State) (m : MethodId) (args : Array Value) (below : List Frame) (meth : Method) (c : Code) (Z : State) (own nm : String) (bytes : ByteArray) (maxL : Nat) (ret : Option FieldType) : Prop :=
  p.tables.exec = Jvm.exec ∧ Z.Warmed39 s.vm ∧ s.vm.findClass own = some m.cls ∧ c.code = bytes ∧ c.maxLocals = maxL ∧ meth.sig.returnType = ret ∧ meth.locks = false ∧ meth.name = nm
/-- from here the body comes to its end, and Q holds of what it returns and of the heap -/
def own_Go (p : Program) (l : Launch) (e : Env) (R : Room) (s : State) (m : MethodId) (args : Array Value) (below : List Frame) (meth : Method) (c : Code) (n0 : Nat) (Q : Option Value → State → List Loc → Prop) (cells slots : Nat) (h : Heap) (pc : Nat) (Ls : List Slot) (st : List Value) : Prop :=
  ∀ (T : State) (locs : List Loc) (ce sl : Nat), ce ≤ cells → sl ≤ slots → Fr n0 locs → Stand p l e R s m args below meth c T locs ce sl → T.heap = h →
    ∃ s₂ o, Steps p.tables e below (T.setTop (mkF m pc Ls.toArray st)) s₂ ∧ s₂.status = .running ∧ Ended s₂ below o ∧ ∃ v L, o = .returned v ∧ Q v s₂ L
/-- the plain end: what is returned, the heap, what was written, the frame -/
def own_N (s : State) (n0 : Nat) (R : Room) (Q : Option Value → Heap → Prop) (v : Option Value) (t : State) (L : List Loc) : Prop := (Q v t.heap ∧ Fr n0 L) ∧ FrameEnd s (.returned v) t L R.cells R.slots
/-- an instruction and the place behind it -/
def own_D (bytes : ByteArray) (pc : Nat) (i : Instr) (n pn : Nat) : Prop := decode bytes pc = .ok (i, n) ∧ pc + n = pn
/-- where a branch leads -/
def own_T (pc : Nat) (o : Int) (pt : Nat) : Prop := 0 ≤ (pc : Int) + o ∧ ((pc : Int) + o).toNat = pt
/-- a body's contract, over the start's tables Z and the heap h -/
def own_Con (l : Launch) (Z : State) (y : MethodName) (bytes : ByteArray) (maxL : Nat) (ret : Option FieldType) (rm : Room) (n0 : Nat) (as' : List Value) (h : Heap) (Q : Option Value → Heap → Prop) : Prop :=
  ∀ ws : List Jvm.Cond, MetFree l y (head1 (Jvm.Cond.code y bytes maxL ret :: ws) rm) (fun a U => a = as'.toArray ∧ Z.Warmed39 U.vm ∧ U.heap = h) (fun _ _ _ _ _ => True) (fun _ U o U' => ∃ v L, o = .returned v ∧ (Q v U'.heap ∧ Fr n0 L) ∧ FrameEnd U o U' L rm.cells rm.slots)
variable {p : Program} {l : Launch} {e : Env} {R : Room} {s : State} {m : MethodId} {args : Array Value} {below : List Frame} {meth : Method} {c : Code} {Z : State} {a0 : Array Value} {h : Heap} {own nm : String} {bytes : ByteArray} {maxL : Nat} {ret : Option FieldType} {n0 cells slots pc pn pt : Nat} {Q : Option Value → State → List Loc → Prop} {Qn : Option Value → Heap → Prop} {Ls : List Slot} {st rest : List Value}
theorem own_Con.mk {y : MethodName} {rm : Room} {as' : List Value} (hpn : plainFor y = true) (hef : ∀ m, entryFrame m as'.toArray maxL = mkF m 0 Ls.toArray [])
    (body : ∀ p e s m below meth c, own_Cx p l e rm s m as'.toArray below meth c Z y.cls y.name bytes maxL ret → own_Go p l e rm s m as'.toArray below meth c n0 (own_N s n0 rm Qn) 0 0 h 0 Ls []) : own_Con l Z y bytes maxL ret rm n0 as' h Qn := by
  intro ws
  refine MetFree.of_bodySF hpn hisR ?_
  intro p e s m args below meth c s₁ Bd hml0 hP hK
  obtain ⟨rfl, hZ, hh⟩ := hP
  have X0 : Stand p l e rm s m as'.toArray below meth c s₁ [] 0 0 := Stand.of_body Bd
  have e0 : s₁.heap = h := by rw [← hh, Bd.state]; rfl
  obtain ⟨s₂, o, h1, h2, h3, v, L, rfl, h4⟩ := body p e s m below meth c ⟨Bd.exec, hZ, findClass_of_methodNamed Bd.named, Bd.bytes, hml0, Bd.returns, Bd.notSynchronized, (name_of_methodNamed Bd.named Bd.method).1⟩ s₁ [] 0 0 (Nat.le_refl _) (Nat.le_refl _) (Fr.nil n0) X0 e0
  exact ⟨s₂, _, castTop (hef m) h1, h2, h3, v, L, rfl, h4⟩
theorem own_Con.imp {y : MethodName} {rm : Room} {as' : List Value} {Q' : Option Value → Heap → Prop} (K : own_Con l Z y bytes maxL ret rm n0 as' h Qn) (q : ∀ v h', Qn v h' → Q' v h') : own_Con l Z y bytes maxL ret rm n0 as' h Q' := by
  intro ws p e ha hc hk s m args below hf happ hP hK
  obtain ⟨n, o, h1, h2, h3, v, L, h4, h5, h6⟩ := K ws p e ha hc hk s m args below hf happ hP hK
  exact ⟨n, o, h1, h2, h3, v, L, h4, ⟨q _ _ h5.1, h5.2⟩, h6⟩
theorem own_step {pc' : Nat} {Ls' : List Slot} {st' : List Value} (H : ∀ (T : State) (locs : List Loc) (ce sl : Nat), Stand p l e R s m args below meth c T locs ce sl → ∀ target, Steps p.tables e below (T.setTop (mkF m pc' Ls'.toArray st')) target → Steps p.tables e below (T.setTop (mkF m pc Ls.toArray st)) target)
    (k : own_Go p l e R s m args below meth c n0 Q cells slots h pc' Ls' st') : own_Go p l e R s m args below meth c n0 Q cells slots h pc Ls st := by
  intro T locs ce sl hc hs hf X eT
  obtain ⟨s₂, o, h1, h2⟩ := k T locs ce sl hc hs hf X eT
  exact ⟨s₂, o, H T locs ce sl X _ h1, h2⟩
theorem own_warm {pc' : Nat} {Ls' : List Slot} {st' : List Value} (H : ∀ (T : State) (locs : List Loc) (ce sl : Nat), Stand p l e R s m args below meth c T locs ce sl → T.heap = h → ∃ T', Stand p l e R s m args below meth c T' locs ce sl ∧ T'.heap = h ∧ ∀ target, Steps p.tables e below (T'.setTop (mkF m pc' Ls'.toArray st')) target → Steps p.tables e below (T.setTop (mkF m pc Ls.toArray st)) target)
    (k : own_Go p l e R s m args below meth c n0 Q cells slots h pc' Ls' st') : own_Go p l e R s m args below meth c n0 Q cells slots h pc Ls st := by
  intro T locs ce sl hc hs hf X eT
  obtain ⟨T', X', eT', H'⟩ := H T locs ce sl X eT
  obtain ⟨s₂, o, h1, h2⟩ := k T' locs ce sl hc hs hf X' eT'
  exact ⟨s₂, o, H' _ h1, h2⟩
theorem own_Go.more {cells' slots' : Nat} (hc : cells ≤ cells') (hs : slots ≤ slots') (k : own_Go p l e R s m args below meth c n0 Q cells' slots' h pc Ls st) : own_Go p l e R s m args below meth c n0 Q cells slots h pc Ls st :=
  fun T locs ce sl h1 h2 hf X eT => k T locs ce sl (Nat.le_trans h1 hc) (Nat.le_trans h2 hs) hf X eT
theorem own_Go.cast {pc' : Nat} {Ls' : List Slot} {st' : List Value} (k : own_Go p l e R s m args below meth c n0 Q cells slots h pc' Ls' st') (e1 : pc = pc' := by rfl) (e2 : Ls = Ls' := by rfl) (e3 : st = st' := by rfl) : own_Go p l e R s m args below meth c n0 Q cells slots h pc Ls st := by
  subst e1 e2 e3; exact k
theorem own_aloadN (C : own_Cx p l e R s m args below meth c Z own nm bytes maxL ret) {i : Fin 4} {v : Value} (d : own_D bytes pc (.aload_n i) 1 pn) (hl : Ls[i.val]? = some (.val v)) (hv : v.isRef = true) (k : own_Go p l e R s m args below meth c n0 Q cells slots h pn Ls (v :: st)) : own_Go p l e R s m args below meth c n0 Q cells slots h pc Ls st := by
  obtain ⟨hd, rfl⟩ := d
  exact own_step (fun T locs ce sl X t r => XS.aloadN X.here C.1 rfl (hb C.2.2.2.1 hd) (by simpa using hl) hv r) k
theorem own_aload (C : own_Cx p l e R s m args below meth c Z own nm bytes maxL ret) {i : Nat} {v : Value} (d : own_D bytes pc (.aload i) 2 pn) (hl : Ls[i]? = some (.val v)) (hv : v.isRef = true) (k : own_Go p l e R s m args below meth c n0 Q cells slots h pn Ls (v :: st)) : own_Go p l e R s m args below meth c n0 Q cells slots h pc Ls st := by
  obtain ⟨hd, rfl⟩ := d
  exact own_step (fun T locs ce sl X t r => XS.aload X.here C.1 rfl (hb C.2.2.2.1 hd) (by simpa using hl) hv r) k
theorem own_iloadN (C : own_Cx p l e R s m args below meth c Z own nm bytes maxL ret) {i : Fin 4} {v : Int32} (d : own_D bytes pc (.iload_n i) 1 pn) (hl : Ls[i.val]? = some (.val (.int v))) (k : own_Go p l e R s m args below meth c n0 Q cells slots h pn Ls (.int v :: st)) : own_Go p l e R s m args below meth c n0 Q cells slots h pc Ls st := by
  obtain ⟨hd, rfl⟩ := d
  exact own_step (fun T locs ce sl X t r => XS.iloadN X.here C.1 rfl (hb C.2.2.2.1 hd) (by simpa using hl) r) k
theorem own_iload (C : own_Cx p l e R s m args below meth c Z own nm bytes maxL ret) {i : Nat} {v : Int32} (d : own_D bytes pc (.iload i) 2 pn) (hl : Ls[i]? = some (.val (.int v))) (k : own_Go p l e R s m args below meth c n0 Q cells slots h pn Ls (.int v :: st)) : own_Go p l e R s m args below meth c n0 Q cells slots h pc Ls st := by
  obtain ⟨hd, rfl⟩ := d
  exact own_step (fun T locs ce sl X t r => XS.iload X.here C.1 rfl (hb C.2.2.2.1 hd) (by simpa using hl) r) k
theorem own_lloadN (C : own_Cx p l e R s m args below meth c Z own nm bytes maxL ret) {i : Fin 4} {v : Int64} (d : own_D bytes pc (.lload_n i) 1 pn) (hl : Ls[i.val]? = some (.val (.long v))) (k : own_Go p l e R s m args below meth c n0 Q cells slots h pn Ls (.long v :: st)) : own_Go p l e R s m args below meth c n0 Q cells slots h pc Ls st := by
  obtain ⟨hd, rfl⟩ := d
  exact own_step (fun T locs ce sl X t r => XS.lloadN X.here C.1 rfl (hb C.2.2.2.1 hd) (by simpa using hl) r) k
theorem own_lload (C : own_Cx p l e R s m args below meth c Z own nm bytes maxL ret) {i : Nat} {v : Int64} (d : own_D bytes pc (.lload i) 2 pn) (hl : Ls[i]? = some (.val (.long v))) (k : own_Go p l e R s m args below meth c n0 Q cells slots h pn Ls (.long v :: st)) : own_Go p l e R s m args below meth c n0 Q cells slots h pc Ls st := by
  obtain ⟨hd, rfl⟩ := d
  exact own_step (fun T locs ce sl X t r => XS.lload X.here C.1 rfl (hb C.2.2.2.1 hd) (by simpa using hl) r) k
theorem own_iconst (C : own_Cx p l e R s m args below meth c Z own nm bytes maxL ret) {i : Int} (v : Int32) (d : own_D bytes pc (.iconst i) 1 pn) (hv : Int32.ofInt i = v) (k : own_Go p l e R s m args below meth c n0 Q cells slots h pn Ls (.int v :: st)) : own_Go p l e R s m args below meth c n0 Q cells slots h pc Ls st := by
  obtain ⟨hd, rfl⟩ := d
  exact own_step (fun T locs ce sl X t r => XS.iconst X.here C.1 rfl (hb C.2.2.2.1 hd) (by rw [hv]; exact r)) k
theorem own_bipush (C : own_Cx p l e R s m args below meth c Z own nm bytes maxL ret) {i : Int} (v : Int32) (d : own_D bytes pc (.bipush i) 2 pn) (hv : (Int8.ofInt i).toInt32 = v) (k : own_Go p l e R s m args below meth c n0 Q cells slots h pn Ls (.int v :: st)) : own_Go p l e R s m args below meth c n0 Q cells slots h pc Ls st := by
  obtain ⟨hd, rfl⟩ := d
  exact own_step (fun T locs ce sl X t r => XS.bipush X.here C.1 rfl (hb C.2.2.2.1 hd) (by rw [hv]; exact r)) k
theorem own_sipush (C : own_Cx p l e R s m args below meth c Z own nm bytes maxL ret) {i : Int} (v : Int32) (d : own_D bytes pc (.sipush i) 3 pn) (hv : (Int16.ofInt i).toInt32 = v) (k : own_Go p l e R s m args below meth c n0 Q cells slots h pn Ls (.int v :: st)) : own_Go p l e R s m args below meth c n0 Q cells slots h pc Ls st := by
  obtain ⟨hd, rfl⟩ := d
  exact own_step (fun T locs ce sl X t r => XS.sipush X.here C.1 rfl (hb C.2.2.2.1 hd) (by rw [hv]; exact r)) k
theorem own_lconst (C : own_Cx p l e R s m args below meth c Z own nm bytes maxL ret) {i : Fin 2} (v : Int64) (d : own_D bytes pc (.lconst i) 1 pn) (hv : Int64.ofNat i = v) (k : own_Go p l e R s m args below meth c n0 Q cells slots h pn Ls (.long v :: st)) : own_Go p l e R s m args below meth c n0 Q cells slots h pc Ls st := by
  obtain ⟨hd, rfl⟩ := d
  exact own_step (fun T locs ce sl X t r => XS.lconst X.here C.1 rfl (hb C.2.2.2.1 hd) (by rw [hv]; exact r)) k
theorem own_aconst_null (C : own_Cx p l e R s m args below meth c Z own nm bytes maxL ret)  (d : own_D bytes pc (.aconst_null) 1 pn)  (k : own_Go p l e R s m args below meth c n0 Q cells slots h pn Ls (.null :: st)) : own_Go p l e R s m args below meth c n0 Q cells slots h pc Ls st := by
  obtain ⟨hd, rfl⟩ := d
  exact own_step (fun T locs ce sl X t r => XS.aconstNull X.here C.1 rfl (hb C.2.2.2.1 hd) r) k
theorem own_iadd (C : own_Cx p l e R s m args below meth c Z own nm bytes maxL ret) {x y : Int32} (d : own_D bytes pc (.iadd) 1 pn)  (k : own_Go p l e R s m args below meth c n0 Q cells slots h pn Ls (.int (x + y) :: st)) : own_Go p l e R s m args below meth c n0 Q cells slots h pc Ls (.int y :: .int x :: st) := by
  obtain ⟨hd, rfl⟩ := d
  exact own_step (fun T locs ce sl X t r => XS.iadd X.here C.1 rfl (hb C.2.2.2.1 hd) rfl r) k
theorem own_isub (C : own_Cx p l e R s m args below meth c Z own nm bytes maxL ret) {x y : Int32} (d : own_D bytes pc (.isub) 1 pn)  (k : own_Go p l e R s m args below meth c n0 Q cells slots h pn Ls (.int (x - y) :: st)) : own_Go p l e R s m args below meth c n0 Q cells slots h pc Ls (.int y :: .int x :: st) := by
  obtain ⟨hd, rfl⟩ := d
  exact own_step (fun T locs ce sl X t r => XS.isub X.here C.1 rfl (hb C.2.2.2.1 hd) rfl r) k
theorem own_imul (C : own_Cx p l e R s m args below meth c Z own nm bytes maxL ret) {x y : Int32} (d : own_D bytes pc (.imul) 1 pn)  (k : own_Go p l e R s m args below meth c n0 Q cells slots h pn Ls (.int (x * y) :: st)) : own_Go p l e R s m args below meth c n0 Q cells slots h pc Ls (.int y :: .int x :: st) := by
  obtain ⟨hd, rfl⟩ := d
  exact own_step (fun T locs ce sl X t r => XS.imul X.here C.1 rfl (hb C.2.2.2.1 hd) rfl r) k
theorem own_iand (C : own_Cx p l e R s m args below meth c Z own nm bytes maxL ret) {x y : Int32} (d : own_D bytes pc (.iand) 1 pn)  (k : own_Go p l e R s m args below meth c n0 Q cells slots h pn Ls (.int (x &&& y) :: st)) : own_Go p l e R s m args below meth c n0 Q cells slots h pc Ls (.int y :: .int x :: st) := by
  obtain ⟨hd, rfl⟩ := d
  exact own_step (fun T locs ce sl X t r => XS.iand X.here C.1 rfl (hb C.2.2.2.1 hd) rfl r) k
theorem own_ior (C : own_Cx p l e R s m args below meth c Z own nm bytes maxL ret) {x y : Int32} (d : own_D bytes pc (.ior) 1 pn)  (k : own_Go p l e R s m args below meth c n0 Q cells slots h pn Ls (.int (x ||| y) :: st)) : own_Go p l e R s m args below meth c n0 Q cells slots h pc Ls (.int y :: .int x :: st) := by
  obtain ⟨hd, rfl⟩ := d
  exact own_step (fun T locs ce sl X t r => XS.ior X.here C.1 rfl (hb C.2.2.2.1 hd) rfl r) k
theorem own_ixor (C : own_Cx p l e R s m args below meth c Z own nm bytes maxL ret) {x y : Int32} (d : own_D bytes pc (.ixor) 1 pn)  (k : own_Go p l e R s m args below meth c n0 Q cells slots h pn Ls (.int (x ^^^ y) :: st)) : own_Go p l e R s m args below meth c n0 Q cells slots h pc Ls (.int y :: .int x :: st) := by
  obtain ⟨hd, rfl⟩ := d
  exact own_step (fun T locs ce sl X t r => XS.ixor X.here C.1 rfl (hb C.2.2.2.1 hd) rfl r) k
theorem own_ladd (C : own_Cx p l e R s m args below meth c Z own nm bytes maxL ret) {x y : Int64} (d : own_D bytes pc (.ladd) 1 pn)  (k : own_Go p l e R s m args below meth c n0 Q cells slots h pn Ls (.long (x + y) :: st)) : own_Go p l e R s m args below meth c n0 Q cells slots h pc Ls (.long y :: .long x :: st) := by
  obtain ⟨hd, rfl⟩ := d
  exact own_step (fun T locs ce sl X t r => XS.ladd X.here C.1 rfl (hb C.2.2.2.1 hd) rfl r) k
theorem own_lsub (C : own_Cx p l e R s m args below meth c Z own nm bytes maxL ret) {x y : Int64} (d : own_D bytes pc (.lsub) 1 pn)  (k : own_Go p l e R s m args below meth c n0 Q cells slots h pn Ls (.long (x - y) :: st)) : own_Go p l e R s m args below meth c n0 Q cells slots h pc Ls (.long y :: .long x :: st) := by
  obtain ⟨hd, rfl⟩ := d
  exact own_step (fun T locs ce sl X t r => XS.lsub X.here C.1 rfl (hb C.2.2.2.1 hd) rfl r) k
theorem own_land (C : own_Cx p l e R s m args below meth c Z own nm bytes maxL ret) {x y : Int64} (d : own_D bytes pc (.land) 1 pn)  (k : own_Go p l e R s m args below meth c n0 Q cells slots h pn Ls (.long (x &&& y) :: st)) : own_Go p l e R s m args below meth c n0 Q cells slots h pc Ls (.long y :: .long x :: st) := by
  obtain ⟨hd, rfl⟩ := d
  exact own_step (fun T locs ce sl X t r => XS.land X.here C.1 rfl (hb C.2.2.2.1 hd) rfl r) k
theorem own_lor (C : own_Cx p l e R s m args below meth c Z own nm bytes maxL ret) {x y : Int64} (d : own_D bytes pc (.lor) 1 pn)  (k : own_Go p l e R s m args below meth c n0 Q cells slots h pn Ls (.long (x ||| y) :: st)) : own_Go p l e R s m args below meth c n0 Q cells slots h pc Ls (.long y :: .long x :: st) := by
  obtain ⟨hd, rfl⟩ := d
  exact own_step (fun T locs ce sl X t r => XS.lor X.here C.1 rfl (hb C.2.2.2.1 hd) rfl r) k
theorem own_lxor (C : own_Cx p l e R s m args below meth c Z own nm bytes maxL ret) {x y : Int64} (d : own_D bytes pc (.lxor) 1 pn)  (k : own_Go p l e R s m args below meth c n0 Q cells slots h pn Ls (.long (x ^^^ y) :: st)) : own_Go p l e R s m args below meth c n0 Q cells slots h pc Ls (.long y :: .long x :: st) := by
  obtain ⟨hd, rfl⟩ := d
  exact own_step (fun T locs ce sl X t r => XS.lxor X.here C.1 rfl (hb C.2.2.2.1 hd) rfl r) k
theorem own_ishl (C : own_Cx p l e R s m args below meth c Z own nm bytes maxL ret) {x y : Int32} (d : own_D bytes pc (.ishl) 1 pn)  (k : own_Go p l e R s m args below meth c n0 Q cells slots h pn Ls (.int (x <<< (y &&& 31)) :: st)) : own_Go p l e R s m args below meth c n0 Q cells slots h pc Ls (.int y :: .int x :: st) := by
  obtain ⟨hd, rfl⟩ := d
  exact own_step (fun T locs ce sl X t r => XS.ishl X.here C.1 rfl (hb C.2.2.2.1 hd) rfl r) k
theorem own_ishr (C : own_Cx p l e R s m args below meth c Z own nm bytes maxL ret) {x y : Int32} (d : own_D bytes pc (.ishr) 1 pn)  (k : own_Go p l e R s m args below meth c n0 Q cells slots h pn Ls (.int (x >>> (y &&& 31)) :: st)) : own_Go p l e R s m args below meth c n0 Q cells slots h pc Ls (.int y :: .int x :: st) := by
  obtain ⟨hd, rfl⟩ := d
  exact own_step (fun T locs ce sl X t r => XS.ishr X.here C.1 rfl (hb C.2.2.2.1 hd) rfl r) k
theorem own_iushr (C : own_Cx p l e R s m args below meth c Z own nm bytes maxL ret) {x y : Int32} (d : own_D bytes pc (.iushr) 1 pn)  (k : own_Go p l e R s m args below meth c n0 Q cells slots h pn Ls (.int ((x.toUInt32 >>> (y &&& 31).toUInt32).toInt32) :: st)) : own_Go p l e R s m args below meth c n0 Q cells slots h pc Ls (.int y :: .int x :: st) := by
  obtain ⟨hd, rfl⟩ := d
  exact own_step (fun T locs ce sl X t r => XS.iushr X.here C.1 rfl (hb C.2.2.2.1 hd) rfl r) k
theorem own_ineg (C : own_Cx p l e R s m args below meth c Z own nm bytes maxL ret) {x : Int32} (d : own_D bytes pc (.ineg) 1 pn)  (k : own_Go p l e R s m args below meth c n0 Q cells slots h pn Ls (.int (-x) :: st)) : own_Go p l e R s m args below meth c n0 Q cells slots h pc Ls (.int x :: st) := by
  obtain ⟨hd, rfl⟩ := d
  exact own_step (fun T locs ce sl X t r => XS.ineg X.here C.1 rfl (hb C.2.2.2.1 hd) rfl r) k
theorem own_irem (C : own_Cx p l e R s m args below meth c Z own nm bytes maxL ret) {x y : Int32} (d : own_D bytes pc (.irem) 1 pn) (hy : y ≠ 0) (k : own_Go p l e R s m args below meth c n0 Q cells slots h pn Ls (.int (x % y) :: st)) : own_Go p l e R s m args below meth c n0 Q cells slots h pc Ls (.int y :: .int x :: st) := by
  obtain ⟨hd, rfl⟩ := d
  exact own_step (fun T locs ce sl X t r => iremM X C.1 rfl (hb C.2.2.2.1 hd) rfl hy r) k
theorem own_lcmp (C : own_Cx p l e R s m args below meth c Z own nm bytes maxL ret) {x y : Int64} (d : own_D bytes pc (.lcmp) 1 pn)  (k : own_Go p l e R s m args below meth c n0 Q cells slots h pn Ls (.int (lcmpW x y) :: st)) : own_Go p l e R s m args below meth c n0 Q cells slots h pc Ls (.long y :: .long x :: st) := by
  obtain ⟨hd, rfl⟩ := d
  exact own_step (fun T locs ce sl X t r => XS.lcmp X.here C.1 rfl (hb C.2.2.2.1 hd) rfl r) k
theorem own_dup (C : own_Cx p l e R s m args below meth c Z own nm bytes maxL ret) {x : Value} (d : own_D bytes pc (.dup) 1 pn) (hc : x.category = 1) (k : own_Go p l e R s m args below meth c n0 Q cells slots h pn Ls (x :: x :: st)) : own_Go p l e R s m args below meth c n0 Q cells slots h pc Ls (x :: st) := by
  obtain ⟨hd, rfl⟩ := d
  exact own_step (fun T locs ce sl X t r => XS.dup X.here C.1 rfl (hb C.2.2.2.1 hd) rfl hc r) k
theorem own_dupX1 (C : own_Cx p l e R s m args below meth c Z own nm bytes maxL ret) {x y : Value} (d : own_D bytes pc (.dup_x1) 1 pn) (hc : x.category = 1) (hc' : y.category = 1) (k : own_Go p l e R s m args below meth c n0 Q cells slots h pn Ls (x :: y :: x :: st)) : own_Go p l e R s m args below meth c n0 Q cells slots h pc Ls (x :: y :: st) := by
  obtain ⟨hd, rfl⟩ := d
  exact own_step (fun T locs ce sl X t r => XS.dupX1 X.here C.1 rfl (hb C.2.2.2.1 hd) rfl hc hc' r) k
theorem own_dup2 (C : own_Cx p l e R s m args below meth c Z own nm bytes maxL ret) {x y : Value} (d : own_D bytes pc (.dup2) 1 pn) (hc : x.category = 1) (hc' : y.category = 1) (k : own_Go p l e R s m args below meth c n0 Q cells slots h pn Ls (x :: y :: x :: y :: st)) : own_Go p l e R s m args below meth c n0 Q cells slots h pc Ls (x :: y :: st) := by
  obtain ⟨hd, rfl⟩ := d
  exact own_step (fun T locs ce sl X t r => XT.dup2 X.here C.1 rfl (hb C.2.2.2.1 hd) rfl hc hc' r) k
theorem own_pop (C : own_Cx p l e R s m args below meth c Z own nm bytes maxL ret) {x : Value} (d : own_D bytes pc (.pop) 1 pn) (hc : x.category = 1) (k : own_Go p l e R s m args below meth c n0 Q cells slots h pn Ls st) : own_Go p l e R s m args below meth c n0 Q cells slots h pc Ls (x :: st) := by
  obtain ⟨hd, rfl⟩ := d
  exact own_step (fun T locs ce sl X t r => XS.pop X.here C.1 rfl (hb C.2.2.2.1 hd) rfl hc r) k
/-- a slot that one word may be laid over -/
def own_one : Slot → Bool
  | .unset => true
  | .second => false
  | .val w => w.category == 1
theorem own_one_spec {o : Slot} (q : own_one o = true) : o = .unset ∨ ∃ w, o = .val w ∧ w.category = 1 := by
  cases o with
  | unset => exact Or.inl rfl
  | second => cases q
  | val w => exact Or.inr ⟨w, rfl, by simpa [own_one] using q⟩
theorem own_store {k : Nat} {v : Value} {o : Slot} (hold : Ls[k]? = some o) (ho : own_one o = true) (hv : v.category = 1) : storeLocals Ls.toArray k v = some (Ls.set k (.val v)).toArray := by
  rw [XS.store1 (o := o) (by simpa using hold) (own_one_spec ho) hv]; simp
theorem own_istoreN (C : own_Cx p l e R s m args below meth c Z own nm bytes maxL ret) {i : Fin 4} {x : Int32} {o : Slot} (j : Nat) (d : own_D bytes pc (.istore_n i) 1 pn) (hj : i.val = j) (hl : Ls[j]? = some o) (ho : own_one o = true) (k : own_Go p l e R s m args below meth c n0 Q cells slots h pn (Ls.set j (.val (.int x))) st) : own_Go p l e R s m args below meth c n0 Q cells slots h pc Ls (.int x :: st) := by
  obtain ⟨hd, rfl⟩ := d
  exact own_step (fun T locs ce sl X t r => XS.istoreN X.here C.1 rfl (hb C.2.2.2.1 hd) rfl (by rw [hj]; exact own_store hl ho rfl) r) k
theorem own_istore (C : own_Cx p l e R s m args below meth c Z own nm bytes maxL ret) {i : Nat} {x : Int32} {o : Slot} (j : Nat) (d : own_D bytes pc (.istore i) 2 pn) (hj : i = j) (hl : Ls[j]? = some o) (ho : own_one o = true) (k : own_Go p l e R s m args below meth c n0 Q cells slots h pn (Ls.set j (.val (.int x))) st) : own_Go p l e R s m args below meth c n0 Q cells slots h pc Ls (.int x :: st) := by
  obtain ⟨hd, rfl⟩ := d
  exact own_step (fun T locs ce sl X t r => XS.istore X.here C.1 rfl (hb C.2.2.2.1 hd) rfl (by rw [hj]; exact own_store hl ho rfl) r) k
theorem own_astoreN (C : own_Cx p l e R s m args below meth c Z own nm bytes maxL ret) {i : Fin 4} {x : Value} {o : Slot} (j : Nat) (d : own_D bytes pc (.astore_n i) 1 pn) (hj : i.val = j) (hl : Ls[j]? = some o) (ho : own_one o = true) (hv : x.isRef = true) (k : own_Go p l e R s m args below meth c n0 Q cells slots h pn (Ls.set j (.val x)) st) : own_Go p l e R s m args below meth c n0 Q cells slots h pc Ls (x :: st) := by
  obtain ⟨hd, rfl⟩ := d
  exact own_step (fun T locs ce sl X t r => XS.astoreN X.here C.1 rfl (hb C.2.2.2.1 hd) rfl hv (by rw [hj]; exact own_store hl ho (XT.cat1 hv)) r) k
theorem own_astore (C : own_Cx p l e R s m args below meth c Z own nm bytes maxL ret) {i : Nat} {x : Value} {o : Slot} (j : Nat) (d : own_D bytes pc (.astore i) 2 pn) (hj : i = j) (hl : Ls[j]? = some o) (ho : own_one o = true) (hv : x.isRef = true) (k : own_Go p l e R s m args below meth c n0 Q cells slots h pn (Ls.set j (.val x)) st) : own_Go p l e R s m args below meth c n0 Q cells slots h pc Ls (x :: st) := by
  obtain ⟨hd, rfl⟩ := d
  exact own_step (fun T locs ce sl X t r => XS.astore X.here C.1 rfl (hb C.2.2.2.1 hd) rfl hv (by rw [hj]; exact own_store hl ho (XT.cat1 hv)) r) k
theorem own_lstoreN (C : own_Cx p l e R s m args below meth c Z own nm bytes maxL ret) {i : Fin 4} {x : Int64} {Ls' : List Slot} (d : own_D bytes pc (.lstore_n i) 1 pn) (hl : storeLocals Ls.toArray i.val (.long x) = some Ls'.toArray) (k : own_Go p l e R s m args below meth c n0 Q cells slots h pn Ls' st) : own_Go p l e R s m args below meth c n0 Q cells slots h pc Ls (.long x :: st) := by
  obtain ⟨hd, rfl⟩ := d
  exact own_step (fun T locs ce sl X t r => XS.lstoreN X.here C.1 rfl (hb C.2.2.2.1 hd) rfl hl r) k
theorem own_lstore (C : own_Cx p l e R s m args below meth c Z own nm bytes maxL ret) {i : Nat} {x : Int64} {Ls' : List Slot} (d : own_D bytes pc (.lstore i) 2 pn) (hl : storeLocals Ls.toArray i (.long x) = some Ls'.toArray) (k : own_Go p l e R s m args below meth c n0 Q cells slots h pn Ls' st) : own_Go p l e R s m args below meth c n0 Q cells slots h pc Ls (.long x :: st) := by
  obtain ⟨hd, rfl⟩ := d
  exact own_step (fun T locs ce sl X t r => XS.lstore X.here C.1 rfl (hb C.2.2.2.1 hd) rfl hl r) k
theorem own_iinc (C : own_Cx p l e R s m args below meth c Z own nm bytes maxL ret) {i : Nat} {cst : Int} {x : Int32} (v : Int32) (d : own_D bytes pc (.iinc i cst) 3 pn) (hv : Int32.ofInt cst = v) (hl : Ls[i]? = some (.val (.int x))) (k : own_Go p l e R s m args below meth c n0 Q cells slots h pn (Ls.set i (.val (.int (x + v)))) st) : own_Go p l e R s m args below meth c n0 Q cells slots h pc Ls st := by
  obtain ⟨hd, rfl⟩ := d
  exact own_step (fun T locs ce sl X t r => XS.iinc X.here C.1 rfl (hb C.2.2.2.1 hd) (by simpa using hl) (by rw [hv]; exact own_store hl rfl rfl) r) k
theorem own_goto (C : own_Cx p l e R s m args below meth c Z own nm bytes maxL ret) {o : Int} (d : own_D bytes pc (.goto o) 3 pn) (ht : own_T pc o pt) (k : own_Go p l e R s m args below meth c n0 Q cells slots h pt Ls st) : own_Go p l e R s m args below meth c n0 Q cells slots h pc Ls st := by
  obtain ⟨hd, rfl⟩ := d
  exact own_step (fun T locs ce sl X t r => XS.goto X.here C.1 rfl rfl (hb C.2.2.2.1 hd) ht.1 ht.2 r) k
theorem own_icmplt (C : own_Cx p l e R s m args below meth c Z own nm bytes maxL ret) {o : Int} {x y : Int32} (d : own_D bytes pc (.if_icmp .lt o) 3 pn) (ht : own_T pc o pt) (ky : x < y → own_Go p l e R s m args below meth c n0 Q cells slots h pt Ls st) (kn : ¬ x < y → own_Go p l e R s m args below meth c n0 Q cells slots h pn Ls st) : own_Go p l e R s m args below meth c n0 Q cells slots h pc Ls (.int y :: .int x :: st) := by
  obtain ⟨hd, rfl⟩ := d
  by_cases h' : x < y
  · exact own_step (fun T locs ce sl X t r => XS.icmpYes X.here C.1 rfl rfl (hb C.2.2.2.1 hd) rfl (tlt h').1 ht.1 ht.2 r) (ky h')
  · exact own_step (fun T locs ce sl X t r => XS.icmpNo X.here C.1 rfl (hb C.2.2.2.1 hd) rfl (flt h').1 r) (kn h')
theorem own_iflt (C : own_Cx p l e R s m args below meth c Z own nm bytes maxL ret) {o : Int} {x : Int32} (d : own_D bytes pc (.ifCond .lt o) 3 pn) (ht : own_T pc o pt) (ky : x < (0 : Int32) → own_Go p l e R s m args below meth c n0 Q cells slots h pt Ls st) (kn : ¬ x < (0 : Int32) → own_Go p l e R s m args below meth c n0 Q cells slots h pn Ls st) : own_Go p l e R s m args below meth c n0 Q cells slots h pc Ls (.int x :: st) := by
  obtain ⟨hd, rfl⟩ := d
  by_cases h' : x < (0 : Int32)
  · exact own_step (fun T locs ce sl X t r => XS.ifYes X.here C.1 rfl rfl (hb C.2.2.2.1 hd) rfl ((if0 _ _).trans (tlt h').1) ht.1 ht.2 r) (ky h')
  · exact own_step (fun T locs ce sl X t r => XS.ifNo X.here C.1 rfl (hb C.2.2.2.1 hd) rfl ((if0 _ _).trans (flt h').1) r) (kn h')
theorem own_icmpge (C : own_Cx p l e R s m args below meth c Z own nm bytes maxL ret) {o : Int} {x y : Int32} (d : own_D bytes pc (.if_icmp .ge o) 3 pn) (ht : own_T pc o pt) (ky : ¬ x < y → own_Go p l e R s m args below meth c n0 Q cells slots h pt Ls st) (kn : x < y → own_Go p l e R s m args below meth c n0 Q cells slots h pn Ls st) : own_Go p l e R s m args below meth c n0 Q cells slots h pc Ls (.int y :: .int x :: st) := by
  obtain ⟨hd, rfl⟩ := d
  by_cases h' : x < y
  · exact own_step (fun T locs ce sl X t r => XS.icmpNo X.here C.1 rfl (hb C.2.2.2.1 hd) rfl (tlt h').2.1 r) (kn h')
  · exact own_step (fun T locs ce sl X t r => XS.icmpYes X.here C.1 rfl rfl (hb C.2.2.2.1 hd) rfl (flt h').2.1 ht.1 ht.2 r) (ky h')
theorem own_ifge (C : own_Cx p l e R s m args below meth c Z own nm bytes maxL ret) {o : Int} {x : Int32} (d : own_D bytes pc (.ifCond .ge o) 3 pn) (ht : own_T pc o pt) (ky : ¬ x < (0 : Int32) → own_Go p l e R s m args below meth c n0 Q cells slots h pt Ls st) (kn : x < (0 : Int32) → own_Go p l e R s m args below meth c n0 Q cells slots h pn Ls st) : own_Go p l e R s m args below meth c n0 Q cells slots h pc Ls (.int x :: st) := by
  obtain ⟨hd, rfl⟩ := d
  by_cases h' : x < (0 : Int32)
  · exact own_step (fun T locs ce sl X t r => XS.ifNo X.here C.1 rfl (hb C.2.2.2.1 hd) rfl ((if0 _ _).trans (tlt h').2.1) r) (kn h')
  · exact own_step (fun T locs ce sl X t r => XS.ifYes X.here C.1 rfl rfl (hb C.2.2.2.1 hd) rfl ((if0 _ _).trans (flt h').2.1) ht.1 ht.2 r) (ky h')
theorem own_icmpgt (C : own_Cx p l e R s m args below meth c Z own nm bytes maxL ret) {o : Int} {x y : Int32} (d : own_D bytes pc (.if_icmp .gt o) 3 pn) (ht : own_T pc o pt) (ky : y < x → own_Go p l e R s m args below meth c n0 Q cells slots h pt Ls st) (kn : ¬ y < x → own_Go p l e R s m args below meth c n0 Q cells slots h pn Ls st) : own_Go p l e R s m args below meth c n0 Q cells slots h pc Ls (.int y :: .int x :: st) := by
  obtain ⟨hd, rfl⟩ := d
  by_cases h' : y < x
  · exact own_step (fun T locs ce sl X t r => XS.icmpYes X.here C.1 rfl rfl (hb C.2.2.2.1 hd) rfl (tlt h').2.2.1 ht.1 ht.2 r) (ky h')
  · exact own_step (fun T locs ce sl X t r => XS.icmpNo X.here C.1 rfl (hb C.2.2.2.1 hd) rfl (flt h').2.2.1 r) (kn h')
theorem own_ifgt (C : own_Cx p l e R s m args below meth c Z own nm bytes maxL ret) {o : Int} {x : Int32} (d : own_D bytes pc (.ifCond .gt o) 3 pn) (ht : own_T pc o pt) (ky : (0 : Int32) < x → own_Go p l e R s m args below meth c n0 Q cells slots h pt Ls st) (kn : ¬ (0 : Int32) < x → own_Go p l e R s m args below meth c n0 Q cells slots h pn Ls st) : own_Go p l e R s m args below meth c n0 Q cells slots h pc Ls (.int x :: st) := by
  obtain ⟨hd, rfl⟩ := d
  by_cases h' : (0 : Int32) < x
  · exact own_step (fun T locs ce sl X t r => XS.ifYes X.here C.1 rfl rfl (hb C.2.2.2.1 hd) rfl ((if0 _ _).trans (tlt h').2.2.1) ht.1 ht.2 r) (ky h')
  · exact own_step (fun T locs ce sl X t r => XS.ifNo X.here C.1 rfl (hb C.2.2.2.1 hd) rfl ((if0 _ _).trans (flt h').2.2.1) r) (kn h')
theorem own_icmple (C : own_Cx p l e R s m args below meth c Z own nm bytes maxL ret) {o : Int} {x y : Int32} (d : own_D bytes pc (.if_icmp .le o) 3 pn) (ht : own_T pc o pt) (ky : ¬ y < x → own_Go p l e R s m args below meth c n0 Q cells slots h pt Ls st) (kn : y < x → own_Go p l e R s m args below meth c n0 Q cells slots h pn Ls st) : own_Go p l e R s m args below meth c n0 Q cells slots h pc Ls (.int y :: .int x :: st) := by
  obtain ⟨hd, rfl⟩ := d
  by_cases h' : y < x
  · exact own_step (fun T locs ce sl X t r => XS.icmpNo X.here C.1 rfl (hb C.2.2.2.1 hd) rfl (tlt h').2.2.2 r) (kn h')
  · exact own_step (fun T locs ce sl X t r => XS.icmpYes X.here C.1 rfl rfl (hb C.2.2.2.1 hd) rfl (flt h').2.2.2 ht.1 ht.2 r) (ky h')
theorem own_ifle (C : own_Cx p l e R s m args below meth c Z own nm bytes maxL ret) {o : Int} {x : Int32} (d : own_D bytes pc (.ifCond .le o) 3 pn) (ht : own_T pc o pt) (ky : ¬ (0 : Int32) < x → own_Go p l e R s m args below meth c n0 Q cells slots h pt Ls st) (kn : (0 : Int32) < x → own_Go p l e R s m args below meth c n0 Q cells slots h pn Ls st) : own_Go p l e R s m args below meth c n0 Q cells slots h pc Ls (.int x :: st) := by
  obtain ⟨hd, rfl⟩ := d
  by_cases h' : (0 : Int32) < x
  · exact own_step (fun T locs ce sl X t r => XS.ifNo X.here C.1 rfl (hb C.2.2.2.1 hd) rfl ((if0 _ _).trans (tlt h').2.2.2) r) (kn h')
  · exact own_step (fun T locs ce sl X t r => XS.ifYes X.here C.1 rfl rfl (hb C.2.2.2.1 hd) rfl ((if0 _ _).trans (flt h').2.2.2) ht.1 ht.2 r) (ky h')
theorem own_icmpeq (C : own_Cx p l e R s m args below meth c Z own nm bytes maxL ret) {o : Int} {x y : Int32} (d : own_D bytes pc (.if_icmp .eq o) 3 pn) (ht : own_T pc o pt) (ky : x = y → own_Go p l e R s m args below meth c n0 Q cells slots h pt Ls st) (kn : ¬ x = y → own_Go p l e R s m args below meth c n0 Q cells slots h pn Ls st) : own_Go p l e R s m args below meth c n0 Q cells slots h pc Ls (.int y :: .int x :: st) := by
  obtain ⟨hd, rfl⟩ := d
  by_cases h' : x = y
  · exact own_step (fun T locs ce sl X t r => XS.icmpYes X.here C.1 rfl rfl (hb C.2.2.2.1 hd) rfl (teq h').1 ht.1 ht.2 r) (ky h')
  · exact own_step (fun T locs ce sl X t r => XS.icmpNo X.here C.1 rfl (hb C.2.2.2.1 hd) rfl (feq h').1 r) (kn h')
theorem own_ifeq (C : own_Cx p l e R s m args below meth c Z own nm bytes maxL ret) {o : Int} {x : Int32} (d : own_D bytes pc (.ifCond .eq o) 3 pn) (ht : own_T pc o pt) (ky : x = (0 : Int32) → own_Go p l e R s m args below meth c n0 Q cells slots h pt Ls st) (kn : ¬ x = (0 : Int32) → own_Go p l e R s m args below meth c n0 Q cells slots h pn Ls st) : own_Go p l e R s m args below meth c n0 Q cells slots h pc Ls (.int x :: st) := by
  obtain ⟨hd, rfl⟩ := d
  by_cases h' : x = (0 : Int32)
  · exact own_step (fun T locs ce sl X t r => XS.ifYes X.here C.1 rfl rfl (hb C.2.2.2.1 hd) rfl ((if0 _ _).trans (teq h').1) ht.1 ht.2 r) (ky h')
  · exact own_step (fun T locs ce sl X t r => XS.ifNo X.here C.1 rfl (hb C.2.2.2.1 hd) rfl ((if0 _ _).trans (feq h').1) r) (kn h')
theorem own_icmpne (C : own_Cx p l e R s m args below meth c Z own nm bytes maxL ret) {o : Int} {x y : Int32} (d : own_D bytes pc (.if_icmp .ne o) 3 pn) (ht : own_T pc o pt) (ky : ¬ x = y → own_Go p l e R s m args below meth c n0 Q cells slots h pt Ls st) (kn : x = y → own_Go p l e R s m args below meth c n0 Q cells slots h pn Ls st) : own_Go p l e R s m args below meth c n0 Q cells slots h pc Ls (.int y :: .int x :: st) := by
  obtain ⟨hd, rfl⟩ := d
  by_cases h' : x = y
  · exact own_step (fun T locs ce sl X t r => XS.icmpNo X.here C.1 rfl (hb C.2.2.2.1 hd) rfl (teq h').2 r) (kn h')
  · exact own_step (fun T locs ce sl X t r => XS.icmpYes X.here C.1 rfl rfl (hb C.2.2.2.1 hd) rfl (feq h').2 ht.1 ht.2 r) (ky h')
theorem own_ifne (C : own_Cx p l e R s m args below meth c Z own nm bytes maxL ret) {o : Int} {x : Int32} (d : own_D bytes pc (.ifCond .ne o) 3 pn) (ht : own_T pc o pt) (ky : ¬ x = (0 : Int32) → own_Go p l e R s m args below meth c n0 Q cells slots h pt Ls st) (kn : x = (0 : Int32) → own_Go p l e R s m args below meth c n0 Q cells slots h pn Ls st) : own_Go p l e R s m args below meth c n0 Q cells slots h pc Ls (.int x :: st) := by
  obtain ⟨hd, rfl⟩ := d
  by_cases h' : x = (0 : Int32)
  · exact own_step (fun T locs ce sl X t r => XS.ifNo X.here C.1 rfl (hb C.2.2.2.1 hd) rfl ((if0 _ _).trans (teq h').2) r) (kn h')
  · exact own_step (fun T locs ce sl X t r => XS.ifYes X.here C.1 rfl rfl (hb C.2.2.2.1 hd) rfl ((if0 _ _).trans (feq h').2) ht.1 ht.2 r) (ky h')
theorem own_acmpeq (C : own_Cx p l e R s m args below meth c Z own nm bytes maxL ret) {o : Int} {x y : Value} (d : own_D bytes pc (.if_acmp .eq o) 3 pn) (ht : own_T pc o pt) (hx' : x.isRef = true) (hy' : y.isRef = true) (ky : x = y → own_Go p l e R s m args below meth c n0 Q cells slots h pt Ls st) (kn : ¬ x = y → own_Go p l e R s m args below meth c n0 Q cells slots h pn Ls st) : own_Go p l e R s m args below meth c n0 Q cells slots h pc Ls (y :: x :: st) := by
  obtain ⟨hd, rfl⟩ := d
  by_cases h' : x = y
  · exact own_step (fun T locs ce sl X t r => XT.acmpYes X.here C.1 rfl rfl (hb C.2.2.2.1 hd) rfl hx' hy' (XT.aa_eq_t h') ht.1 ht.2 r) (ky h')
  · exact own_step (fun T locs ce sl X t r => XT.acmpNo X.here C.1 rfl (hb C.2.2.2.1 hd) rfl hx' hy' (XT.aa_eq_f h') r) (kn h')
theorem own_acmpne (C : own_Cx p l e R s m args below meth c Z own nm bytes maxL ret) {o : Int} {x y : Value} (d : own_D bytes pc (.if_acmp .ne o) 3 pn) (ht : own_T pc o pt) (hx' : x.isRef = true) (hy' : y.isRef = true) (ky : ¬ x = y → own_Go p l e R s m args below meth c n0 Q cells slots h pt Ls st) (kn : x = y → own_Go p l e R s m args below meth c n0 Q cells slots h pn Ls st) : own_Go p l e R s m args below meth c n0 Q cells slots h pc Ls (y :: x :: st) := by
  obtain ⟨hd, rfl⟩ := d
  by_cases h' : x = y
  · exact own_step (fun T locs ce sl X t r => XT.acmpNo X.here C.1 rfl (hb C.2.2.2.1 hd) rfl hx' hy' (XT.aa_ne_f h') r) (kn h')
  · exact own_step (fun T locs ce sl X t r => XT.acmpYes X.here C.1 rfl rfl (hb C.2.2.2.1 hd) rfl hx' hy' (XT.aa_ne_t h') ht.1 ht.2 r) (ky h')
theorem own_ifnull (C : own_Cx p l e R s m args below meth c Z own nm bytes maxL ret) {o : Int} {v : Value} (d : own_D bytes pc (.ifnull o) 3 pn) (ht : own_T pc o pt) (hv : v.isRef = true) (ky : v = .null → own_Go p l e R s m args below meth c n0 Q cells slots h pt Ls st) (kn : ¬ v = .null → own_Go p l e R s m args below meth c n0 Q cells slots h pn Ls st) : own_Go p l e R s m args below meth c n0 Q cells slots h pc Ls (v :: st) := by
  obtain ⟨hd, rfl⟩ := d
  by_cases h' : v = .null
  · exact own_step (fun T locs ce sl X t r => XT.nullYes X.here C.1 rfl rfl (hb C.2.2.2.1 hd) rfl h' ht.1 ht.2 r) (ky h')
  · exact own_step (fun T locs ce sl X t r => XT.nullNo X.here C.1 rfl (hb C.2.2.2.1 hd) rfl hv h' r) (kn h')
theorem own_ifnonnull (C : own_Cx p l e R s m args below meth c Z own nm bytes maxL ret) {o : Int} {v : Value} (d : own_D bytes pc (.ifnonnull o) 3 pn) (ht : own_T pc o pt) (hv : v.isRef = true) (ky : ¬ v = .null → own_Go p l e R s m args below meth c n0 Q cells slots h pt Ls st) (kn : v = .null → own_Go p l e R s m args below meth c n0 Q cells slots h pn Ls st) : own_Go p l e R s m args below meth c n0 Q cells slots h pc Ls (v :: st) := by
  obtain ⟨hd, rfl⟩ := d
  by_cases h' : v = .null
  · exact own_step (fun T locs ce sl X t r => XT.nonnullNo X.here C.1 rfl (hb C.2.2.2.1 hd) rfl h' r) (kn h')
  · exact own_step (fun T locs ce sl X t r => XT.nonnullYes X.here C.1 rfl rfl (hb C.2.2.2.1 hd) rfl hv h' ht.1 ht.2 r) (ky h')
theorem own_ldc (C : own_Cx p l e R s m args below meth c Z own nm bytes maxL ret) {i : Nat} {v : Int32} (d : own_D bytes pc (.ldc i) 2 pn) (w1 : (Jvm.Cond.constant own i v).before a0 Z = true) (k : own_Go p l e R s m args below meth c n0 Q cells slots h pn Ls (.int v :: st)) : own_Go p l e R s m args below meth c n0 Q cells slots h pc Ls st := by
  obtain ⟨hd, rfl⟩ := d
  exact own_step (fun T locs ce sl X t r => ldcI X C.1 C.2.2.1 (mv C.2.1 w1) rfl (hb C.2.2.2.1 hd) r) k
theorem own_ldc2 (C : own_Cx p l e R s m args below meth c Z own nm bytes maxL ret) {i : Nat} {v : Int64} (d : own_D bytes pc (.ldc2_w i) 3 pn) (w1 : (Jvm.Cond.constantLong own i v).before a0 Z = true) (k : own_Go p l e R s m args below meth c n0 Q cells slots h pn Ls (.long v :: st)) : own_Go p l e R s m args below meth c n0 Q cells slots h pc Ls st := by
  obtain ⟨hd, rfl⟩ := d
  exact own_step (fun T locs ce sl X t r => ldc2J X C.1 C.2.2.1 (mv C.2.1 w1) rfl (hb C.2.2.2.1 hd) r) k
theorem own_getS (C : own_Cx p l e R s m args below meth c Z own nm bytes maxL ret) {O n dd : String} {i : Nat} {v : Value} (d : own_D bytes pc (.getstatic i) 3 pn) (w1 : (Jvm.Cond.fieldLink own i O n dd).before a0 Z = true) (F : Sta Z h O n dd v) (k : own_Go p l e R s m args below meth c n0 Q cells slots h pn Ls (v :: st)) : own_Go p l e R s m args below meth c n0 Q cells slots h pc Ls st := by
  obtain ⟨hd, rfl⟩ := d
  refine own_warm (fun T locs ce sl X eT => ?_) k
  obtain ⟨T', X', e', st'⟩ := getS2 X C.1 C.2.1 C.2.2.1 (host := "") (Or.inl w1) Via.refl eT F (g := mkF m pc Ls.toArray st) rfl (hb C.2.2.2.1 hd)
  exact ⟨T', X', e', st'⟩
theorem own_getF (C : own_Cx p l e R s m args below meth c Z own nm bytes maxL ret) {R0 O n dd : String} {i : Nat} {a : Addr} {v : Value} (d : own_D bytes pc (.getfield i) 3 pn) (w1 : (Jvm.Cond.fieldLink own i R0 n dd).before a0 Z = true) (via : Via Z R0 O n dd) (F : Fld Z h a O n dd v) (k : own_Go p l e R s m args below meth c n0 Q cells slots h pn Ls (v :: st)) : own_Go p l e R s m args below meth c n0 Q cells slots h pc Ls (.ref a :: st) := by
  obtain ⟨hd, rfl⟩ := d
  refine own_warm (fun T locs ce sl X eT => ?_) k
  obtain ⟨T', X', e', st'⟩ := getF X C.1 C.2.1 C.2.2.1 (host := "") (Or.inl w1) via eT F (g := mkF m pc Ls.toArray (.ref a :: st)) rfl rfl (hb C.2.2.2.1 hd)
  exact ⟨T', X', e', st'⟩
theorem own_cast (C : own_Cx p l e R s m args below meth c Z own nm bytes maxL ret) {K : String} {i : Nat} {a : Addr} (d : own_D bytes pc (.checkcast i) 3 pn) (w1 : (Jvm.Cond.classLink own i K).before a0 Z = true) (F : Ins Z h a K true) (k : own_Go p l e R s m args below meth c n0 Q cells slots h pn Ls (.ref a :: st)) : own_Go p l e R s m args below meth c n0 Q cells slots h pc Ls (.ref a :: st) := by
  obtain ⟨hd, rfl⟩ := d
  refine own_warm (fun T locs ce sl X eT => ?_) k
  obtain ⟨T', X', e', st'⟩ := castY X C.1 C.2.1 C.2.2.1 w1 eT F (g := mkF m pc Ls.toArray (.ref a :: st)) rfl rfl (hb C.2.2.2.1 hd)
  exact ⟨T', X', e', st'⟩
theorem own_instY (C : own_Cx p l e R s m args below meth c Z own nm bytes maxL ret) {K : String} {i : Nat} {a : Addr} (d : own_D bytes pc (.instanceof i) 3 pn) (w1 : (Jvm.Cond.classLink own i K).before a0 Z = true) (F : Ins Z h a K true) (k : own_Go p l e R s m args below meth c n0 Q cells slots h pn Ls (.int 1 :: st)) : own_Go p l e R s m args below meth c n0 Q cells slots h pc Ls (.ref a :: st) := by
  obtain ⟨hd, rfl⟩ := d
  refine own_warm (fun T locs ce sl X eT => ?_) k
  obtain ⟨T', X', e', st'⟩ := instY X C.1 C.2.1 C.2.2.1 w1 eT F (g := mkF m pc Ls.toArray (.ref a :: st)) rfl rfl (hb C.2.2.2.1 hd)
  exact ⟨T', X', e', st'⟩
theorem own_write {pc' : Nat} {Ls' : List Slot} {st' : List Value} {a : Addr} {j : Nat} {v : Value} (ha : n0 ≤ a) (H : ∀ (T : State) (locs : List Loc) (ce sl : Nat), Stand p l e R s m args below meth c T locs ce sl → T.heap = h → ∃ T' h', Stand p l e R s m args below meth c T' (locs ++ [⟨a, j⟩]) ce sl ∧ T'.heap = h' ∧ Wr h h' a j v ∧ ∀ target, Steps p.tables e below (T'.setTop (mkF m pc' Ls'.toArray st')) target → Steps p.tables e below (T.setTop (mkF m pc Ls.toArray st)) target)
    (k : ∀ h', Wr h h' a j v → own_Go p l e R s m args below meth c n0 Q cells slots h' pc' Ls' st') : own_Go p l e R s m args below meth c n0 Q cells slots h pc Ls st := by
  intro T locs ce sl hc hs hf X eT
  obtain ⟨T', h', X', eT', W, H'⟩ := H T locs ce sl X eT
  obtain ⟨s₂, o, h1, h2⟩ := k h' W T' _ ce sl hc hs (Fr.snoc X' hf ha) X' eT'
  exact ⟨s₂, o, H' _ h1, h2⟩
theorem own_putF (C : own_Cx p l e R s m args below meth c Z own nm bytes maxL ret) {R0 O n dd K : String} {i kk : Nat} {ty : FieldType} {a : Addr} {v old : Value} (d : own_D bytes pc (.putfield i) 3 pn) (w1 : (Jvm.Cond.fieldLink own i R0 n dd).before a0 Z = true) (via : Via Z R0 O n dd) (F : Fld Z h a O n dd old) (E : Exa Z h a K)
    (L : (Jvm.Cond.lays K O n dd).before a0 Z = true ∨ ((Jvm.Cond.laysFinal K O n dd).before a0 Z = true ∧ own = O ∧ nm = "<init>")) (wi : (Jvm.Cond.instantiable K kk).before a0 Z = true) (hty : parseFieldDescriptor dd = some ty) (hn : narrow ty v = v) (hf : fits ty v = true) (ha : n0 ≤ a)
    (k : ∀ h', Wr h h' a (slotOf Z O n dd) v → own_Go p l e R s m args below meth c n0 Q cells slots h' pn Ls st) : own_Go p l e R s m args below meth c n0 Q cells slots h pc Ls (v :: .ref a :: st) := by
  obtain ⟨hd, rfl⟩ := d
  refine own_write ha (fun T locs ce sl X eT => ?_) k
  obtain ⟨T', h', X', e', W, st'⟩ := putF X C.1 C.2.1 C.2.2.1 (host := "") (Or.inl w1) via eT F E (L.imp id fun q => ⟨q.1, q.2.1, C.2.2.2.2.2.2.2.trans q.2.2⟩) wi hty hn hf (g := mkF m pc Ls.toArray (v :: .ref a :: st)) rfl rfl (hb C.2.2.2.1 hd)
  exact ⟨T', h', X', e', W, st'⟩
theorem own_stR (C : own_Cx p l e R s m args below meth c Z own nm bytes maxL ret) {ty : FieldType} {a : Addr} {v : Value} {cl : Cell} {j : Int32} (d : own_D bytes pc .aastore 1 pn) (A : Arr Z h a cl ty) (hj : ¬ (j < 0 ∨ cl.slots.size ≤ j.toNatClampNeg)) (hty : ty.isReference = true) (F : Sto Z h a v) (ha : n0 ≤ a)
    (k : ∀ h', Wr h h' a j.toNatClampNeg v → own_Go p l e R s m args below meth c n0 Q cells slots h' pn Ls st) : own_Go p l e R s m args below meth c n0 Q cells slots h pc Ls (v :: .int j :: .ref a :: st) := by
  obtain ⟨hd, rfl⟩ := d
  refine own_write ha (fun T locs ce sl X eT => ?_) k
  obtain ⟨T', h', X', e', W, st'⟩ := stR X C.1 C.2.1 eT A hj hty F (g := mkF m pc Ls.toArray (v :: .int j :: .ref a :: st)) rfl rfl (hb C.2.2.2.1 hd)
  exact ⟨T', h', X', e', W, st'⟩
theorem own_newO (C : own_Cx p l e R s m args below meth c Z own nm bytes maxL ret) {K : String} {i n : Nat} (d : own_D bytes pc (.new i) 3 pn) (w1 : (Jvm.Cond.classLink own i K).before a0 Z = true) (w2 : (Jvm.Cond.instantiable K n).before a0 Z = true) (w3 : (Jvm.Cond.initialized K).before a0 Z = true) (hc : cells + 1 ≤ R.cells) (hs : slots + n ≤ R.slots)
    (k : ∀ (h' : Heap) (a : Addr), a = h.size → Ext h h' → Exa Z h' a K → (∀ {O fn dd : String} {ty : FieldType}, Laid Z a0 K O fn dd → parseFieldDescriptor dd = some ty → Fld Z h' a O fn dd (defaultValue ty)) → own_Go p l e R s m args below meth c n0 Q (cells + 1) (slots + n) h' pn Ls (.ref a :: st)) : own_Go p l e R s m args below meth c n0 Q cells slots h pc Ls st := by
  obtain ⟨hd, rfl⟩ := d
  intro T locs ce sl h1 h2 hf X eT
  obtain ⟨T', h', X', e', E', A', D', -, st'⟩ := newO X C.1 C.2.1 C.2.2.1 w1 w2 w3 eT (g := mkF m pc Ls.toArray st) rfl (hb C.2.2.2.1 hd) (Nat.le_trans (Nat.add_le_add_right h1 1) hc) (Nat.le_trans (Nat.add_le_add_right h2 n) hs)
  obtain ⟨s₂, o, g1, g2⟩ := k h' h.size rfl E' A' D' T' locs _ _ (Nat.add_le_add_right h1 1) (Nat.add_le_add_right h2 n) hf X' e'
  exact ⟨s₂, o, st' _ g1, g2⟩
theorem own_newR (C : own_Cx p l e R s m args below meth c Z own nm bytes maxL ret) {K : String} {i : Nat} {n : Int32} (d : own_D bytes pc (.anewarray i) 3 pn) (w1 : (Jvm.Cond.classLink own i K).before a0 Z = true) (w2 : (Jvm.Cond.arrayOver (.object K)).before a0 Z = true) (hn : ¬ n < 0) (cap : Nat) (hcap : n.toNatClampNeg ≤ cap) (hb8 : cap * 8 ≤ 536870912) (hc : cells + 1 ≤ R.cells) (hs : slots + cap ≤ R.slots)
    (k : ∀ (h' : Heap) (a : Addr) (cA : ClassId), a = h.size → Ext h h' → Arr Z h' a (newA cA (.object K) n) (.object K) → Ovr Z cA K → own_Go p l e R s m args below meth c n0 Q (cells + 1) (slots + cap) h' pn Ls (.ref a :: st)) : own_Go p l e R s m args below meth c n0 Q cells slots h pc Ls (.int n :: st) := by
  obtain ⟨hd, rfl⟩ := d
  intro T locs ce sl h1 h2 hf X eT
  obtain ⟨T', h', cA, X', e', E', A', O', st'⟩ := newR X C.1 C.2.1 C.2.2.1 w1 w2 eT (g := mkF m pc Ls.toArray (.int n :: st)) rfl (hb C.2.2.2.1 hd) rfl hn hcap hb8 (Nat.le_trans (Nat.add_le_add_right h1 1) hc) (Nat.le_trans (Nat.add_le_add_right h2 cap) hs)
  obtain ⟨s₂, o, g1, g2⟩ := k h' h.size cA rfl E' A' O' T' locs _ _ (Nat.add_le_add_right h1 1) (Nat.add_le_add_right h2 cap) hf X' e'
  exact ⟨s₂, o, st' _ g1, g2⟩
theorem own_aaload (C : own_Cx p l e R s m args below meth c Z own nm bytes maxL ret) {ty : FieldType} {a : Addr} {v : Value} {cl : Cell} {j : Int32} (d : own_D bytes pc .aaload 1 pn) (A : Arr Z h a cl ty) (hty : ty.isReference = true) (hj : ¬ (j < 0 ∨ cl.slots.size ≤ j.toNatClampNeg)) (hat : cl.slots[j.toNatClampNeg]? = some v)
    (k : own_Go p l e R s m args below meth c n0 Q cells slots h pn Ls (v :: st)) : own_Go p l e R s m args below meth c n0 Q cells slots h pc Ls (.int j :: .ref a :: st) := by
  obtain ⟨hd, rfl⟩ := d
  refine own_warm (fun T locs ce sl X eT => ⟨T, X, eT, ?_⟩) k
  exact X.aaload C.1 (by rw [eT]; exact A.1) (State.isArrayOf_alike C.2.1.alike A.2.1) hty A.2.2 hj hat (g := mkF m pc Ls.toArray (.int j :: .ref a :: st)) rfl rfl (hb C.2.2.2.1 hd)
theorem own_arraylength (C : own_Cx p l e R s m args below meth c Z own nm bytes maxL ret) {ty : FieldType} {a : Addr} {cl : Cell} (d : own_D bytes pc .arraylength 1 pn) (A : Arr Z h a cl ty)
    (k : own_Go p l e R s m args below meth c n0 Q cells slots h pn Ls (.int cl.slots.size.toInt32 :: st)) : own_Go p l e R s m args below meth c n0 Q cells slots h pc Ls (.ref a :: st) := by
  obtain ⟨hd, rfl⟩ := d
  refine own_warm (fun T locs ce sl X eT => ⟨T, X, eT, ?_⟩) k
  exact X.arraylength C.1 (by rw [eT]; exact A.1) (State.isArrayOf_alike C.2.1.alike A.2.1) (g := mkF m pc Ls.toArray (.ref a :: st)) rfl rfl (hb C.2.2.2.1 hd)
theorem own_ret {t : FieldType} (C : own_Cx p l e R s m args below meth c Z own nm bytes maxL (some t)) {w : Value} {i : Instr} (d : own_D bytes pc i 1 pn) (hn : narrow t w = w)
    (hi : (i = .ireturn ∧ (t = .int ∨ t = .boolean ∨ t = .byte ∨ t = .char ∨ t = .short) ∧ ∃ z, w = .int z) ∨ (i = .lreturn ∧ t = .long ∧ ∃ z, w = .long z) ∨ (i = .dreturn ∧ t = .double ∧ ∃ z, w = .double z) ∨ (i = .freturn ∧ t = .float ∧ ∃ z, w = .float z) ∨ (i = .areturn ∧ t.isReference = true ∧ w.isRef = true))
    (hc : cells ≤ R.cells) (hs : slots ≤ R.slots) (q : Qn (some w) h) : own_Go p l e R s m args below meth c n0 (own_N s n0 R Qn) cells slots h pc Ls (w :: st) := by
  obtain ⟨hd, rfl⟩ := d
  intro T locs ce sl h1 h2 hf X eT
  obtain ⟨fs, hr, hrun, hended, hW, hsame⟩ := X.leave (v := some w) (fun h => by rw [C.2.2.2.2.2.1] at h; cases h) C.2.2.2.2.2.2.1
  exact ⟨_, _, retOut X C.1 C.2.2.2.2.2.1 hn hi (hb C.2.2.2.1 hd) hr, hrun, hended, _, locs, rfl, ⟨by show Qn (some w) T.heap; rw [eT]; exact q, hf⟩, ⟨_, rfl⟩, hW, hsame.mono (Nat.le_trans h1 hc) (Nat.le_trans h2 hs)⟩
theorem own_retA {t : FieldType} (C : own_Cx p l e R s m args below meth c Z own nm bytes maxL (some t)) {w : Value} (d : own_D bytes pc .areturn 1 pn) (ht : t.isReference = true) (hw : w.isRef = true) (hc : cells ≤ R.cells) (hs : slots ≤ R.slots) (q : Qn (some w) h) : own_Go p l e R s m args below meth c n0 (own_N s n0 R Qn) cells slots h pc Ls (w :: st) := by
  refine own_ret C d ?_ (Or.inr (Or.inr (Or.inr (Or.inr ⟨rfl, ht, hw⟩)))) hc hs q
  cases t <;> first | (cases ht; done) | rfl
theorem own_retI (C : own_Cx p l e R s m args below meth c Z own nm bytes maxL (some .int)) {z : Int32} (d : own_D bytes pc .ireturn 1 pn) (hc : cells ≤ R.cells) (hs : slots ≤ R.slots) (q : Qn (some (.int z)) h) : own_Go p l e R s m args below meth c n0 (own_N s n0 R Qn) cells slots h pc Ls (.int z :: st) :=
  own_ret C d rfl (Or.inl ⟨rfl, Or.inl rfl, z, rfl⟩) hc hs q
theorem own_retZ (C : own_Cx p l e R s m args below meth c Z own nm bytes maxL (some .boolean)) {z : Int32} (d : own_D bytes pc .ireturn 1 pn) (hz : z = 0 ∨ z = 1) (hc : cells ≤ R.cells) (hs : slots ≤ R.slots) (q : Qn (some (.int z)) h) : own_Go p l e R s m args below meth c n0 (own_N s n0 R Qn) cells slots h pc Ls (.int z :: st) :=
  own_ret C d (by rcases hz with rfl | rfl <;> rfl) (Or.inl ⟨rfl, Or.inr (Or.inl rfl), z, rfl⟩) hc hs q
theorem own_retJ (C : own_Cx p l e R s m args below meth c Z own nm bytes maxL (some .long)) {z : Int64} (d : own_D bytes pc .lreturn 1 pn) (hc : cells ≤ R.cells) (hs : slots ≤ R.slots) (q : Qn (some (.long z)) h) : own_Go p l e R s m args below meth c n0 (own_N s n0 R Qn) cells slots h pc Ls (.long z :: st) :=
  own_ret C d rfl (Or.inr (Or.inl ⟨rfl, rfl, z, rfl⟩)) hc hs q
theorem own_retV (C : own_Cx p l e R s m args below meth c Z own nm bytes maxL none) (d : own_D bytes pc .return_ 1 pn) (hc : cells ≤ R.cells) (hs : slots ≤ R.slots) (q : Qn none h) : own_Go p l e R s m args below meth c n0 (own_N s n0 R Qn) cells slots h pc Ls [] := by
  obtain ⟨hd, rfl⟩ := d
  intro T locs ce sl h1 h2 hf X eT
  obtain ⟨fs, hr, hrun, hended, hW, hsame⟩ := X.leave (v := none) (fun _ => rfl) C.2.2.2.2.2.2.1
  exact ⟨_, _, X.returnOut C.1 C.2.2.2.2.2.1 (hb C.2.2.2.1 hd) hr, hrun, hended, _, locs, rfl, ⟨by show Qn none T.heap; rw [eT]; exact q, hf⟩, ⟨_, rfl⟩, hW, hsame.mono (Nat.le_trans h1 hc) (Nat.le_trans h2 hs)⟩
theorem own_hlen {dsc : String} {ps : List FieldType} {r : Option FieldType} {L : List Value} (hd : parseMethodDescriptor dsc = some ⟨ps, r⟩) (hl : L.length = ps.length) : ∀ sig, parseMethodDescriptor dsc = some sig → L.length = sig.parameters.length := lenOf hd hl
theorem own_callS (C : own_Cx p l e R s m args below meth c Z own nm bytes maxL ret) {i : Nat} {y : MethodName} {bytes' : ByteArray} {maxL' : Nat} {ret' : Option FieldType} {rm : Room} {as' : List Value} {Qc : Option Value → Heap → Prop} (K : own_Con l Z y bytes' maxL' ret' rm n0 as' h Qc) (d : own_D bytes pc (.invokestatic i) 3 pn) (w1 : (Jvm.Cond.methodLink own i y).before a0 Z = true) (w2 : (Jvm.Cond.static y).before a0 Z = true) (w3 : (Jvm.Cond.initialized y.cls).before a0 Z = true) (w4 : (Jvm.Cond.code y bytes' maxL' ret').before a0 Z = true)
    (hy : y.cls ≠ "java/lang/invoke/MethodHandle" ∧ y.cls ≠ "java/lang/invoke/VarHandle") {ps : List FieldType} {r : Option FieldType} (hp : parseMethodDescriptor y.desc = some ⟨ps, r⟩) (hn : as'.length = ps.length) (hst : st = as'.reverse ++ rest) (hLs : Ls.length = maxL) (hfr : rm.frames + 1 ≤ R.frames) (hlo : (rest.map fun v => v.category).sum + (maxL' + 11) + rm.locals ≤ R.locals) (hc : cells + rm.cells ≤ R.cells) (hs : slots + rm.slots ≤ R.slots)
    (k : ∀ v h', Qc v h' → own_Go p l e R s m args below meth c n0 Q (cells + rm.cells) (slots + rm.slots) h' pn Ls (v.toList ++ rest)) : own_Go p l e R s m args below meth c n0 Q cells slots h pc Ls st := by
  obtain ⟨hd, rfl⟩ := d
  intro T locs ce sl h1 h2 hf X eT
  obtain ⟨v, _, ⟨T', L', k', n'⟩, -, X', ⟨Lc, hq, l', y', z'⟩, st'⟩ := Jvm.LawKit.callS X C.1 (y := y) C.2.2.1 (mvT C.2.1 w1) (mvT C.2.1 w2) (mvT C.2.1 w3) (mvT C.2.1 w4) hy (backOf (W := (rest.map fun v => v.category).sum) (Q := fun v h L => Qc v h ∧ Fr n0 L) (K []) C.2.1 w4 w3 hfr hlo) (g := mkF m pc Ls.toArray st) rfl (by rw [C.2.2.2.2.1]; simpa using hLs) (argsL := as') (rest := rest) (lenOf hp hn) hst (by simp) (hb C.2.2.2.1 hd) (fun _ _ => ⟨rfl, eT, Nat.le_trans (Nat.add_le_add_right h1 _) hc, Nat.le_trans (Nat.add_le_add_right h2 _) hs⟩)
  dsimp only [Pt.U, Pt.locs, Pt.cells, Pt.slots] at X' l' y' z' st' hq
  subst l' y' z'
  obtain ⟨s₂, o, g1, g2⟩ := k v T'.heap hq.1 T' _ _ _ (by omega) (by omega) (Fr.app hf hq.2) X' rfl
  exact ⟨s₂, o, st' _ g1, g2⟩
theorem own_callV (C : own_Cx p l e R s m args below meth c Z own nm bytes maxL ret) {i : Nat} {a : Addr} {Kc : String} {z : MethodName} {y : MethodName} {bytes' : ByteArray} {maxL' : Nat} {ret' : Option FieldType} {rm : Room} {as' : List Value} {Qc : Option Value → Heap → Prop} (K : own_Con l Z z bytes' maxL' ret' rm n0 (.ref a :: as') h Qc) (E : Exa Z h a Kc) (d : own_D bytes pc (.invokevirtual i) 3 pn) (w1 : (Jvm.Cond.methodLink own i y).before a0 Z = true) (w2 : (Jvm.Cond.declares y).before a0 Z = true) (w3 : (Jvm.Cond.selects Kc y z).before a0 Z = true) (nf : NotFace s y) (w4 : (Jvm.Cond.instanceMethod z).before a0 Z = true) (w5 : (Jvm.Cond.code z bytes' maxL' ret').before a0 Z = true) (w6 : (Jvm.Cond.initialized z.cls).before a0 Z = true)
    (hy : y.cls ≠ "java/lang/invoke/MethodHandle" ∧ y.cls ≠ "java/lang/invoke/VarHandle") {ps : List FieldType} {r : Option FieldType} (hp : parseMethodDescriptor y.desc = some ⟨ps, r⟩) (hn : as'.length = ps.length) (hst : st = as'.reverse ++ .ref a :: rest) (hLs : Ls.length = maxL) (hfr : rm.frames + 1 ≤ R.frames) (hlo : (rest.map fun v => v.category).sum + (maxL' + 11) + rm.locals ≤ R.locals) (hc : cells + rm.cells ≤ R.cells) (hs : slots + rm.slots ≤ R.slots)
    (k : ∀ v h', Qc v h' → own_Go p l e R s m args below meth c n0 Q (cells + rm.cells) (slots + rm.slots) h' pn Ls (v.toList ++ rest)) : own_Go p l e R s m args below meth c n0 Q cells slots h pc Ls st := by
  obtain ⟨hd, rfl⟩ := d
  intro T locs ce sl h1 h2 hf X eT
  obtain ⟨cB, kB, qa, qb, qc⟩ := isOf C.2.1 eT E
  obtain ⟨v, _, ⟨T', L', k', n'⟩, -, X', ⟨Lc, hq, l', y', z'⟩, st'⟩ := X.virtualBack C.1 (y := y) (z := z) C.2.2.1 (mvT C.2.1 w1) (mvT C.2.1 w2) nf (mvT C.2.1 w3) (mvT C.2.1 w4) hy (backOf (W := (rest.map fun v => v.category).sum) (Q := fun v h L => Qc v h ∧ Fr n0 L) (K []) C.2.1 w5 w6 hfr hlo) qa qc (g := mkF m pc Ls.toArray st) rfl (by rw [C.2.2.2.2.1]; simpa using hLs) (Steps.refl _) (argsL := as') (rest := rest) (lenOf hp hn) hst (by simp) (hb C.2.2.2.1 hd) (fun _ _ => ⟨rfl, eT, Nat.le_trans (Nat.add_le_add_right h1 _) hc, Nat.le_trans (Nat.add_le_add_right h2 _) hs⟩)
  dsimp only [Pt.U, Pt.locs, Pt.cells, Pt.slots] at X' l' y' z' st' hq
  subst l' y' z'
  obtain ⟨s₂, o, g1, g2⟩ := k v T'.heap hq.1 T' _ _ _ (by omega) (by omega) (Fr.app hf hq.2) X' rfl
  exact ⟨s₂, o, st'.trans g1, g2⟩
theorem own_callI (C : own_Cx p l e R s m args below meth c Z own nm bytes maxL ret) {i : Nat} {a : Addr} {y : MethodName} {bytes' : ByteArray} {maxL' : Nat} {rm : Room} {as' : List Value} {Qc : Option Value → Heap → Prop} (K : own_Con l Z y bytes' maxL' none rm n0 (.ref a :: as') h Qc) (d : own_D bytes pc (.invokespecial i) 3 pn) (hi : y.name = "<init>") (w1 : (Jvm.Cond.methodLink own i y).before a0 Z = true) (w4 : (Jvm.Cond.instanceMethod y).before a0 Z = true) (w5 : (Jvm.Cond.code y bytes' maxL' none).before a0 Z = true) (w6 : (Jvm.Cond.initialized y.cls).before a0 Z = true)
    (hy : y.cls ≠ "java/lang/invoke/MethodHandle" ∧ y.cls ≠ "java/lang/invoke/VarHandle") {ps : List FieldType} {r : Option FieldType} (hp : parseMethodDescriptor y.desc = some ⟨ps, r⟩) (hn : as'.length = ps.length) (hst : st = as'.reverse ++ .ref a :: rest) (hLs : Ls.length = maxL) (hfr : rm.frames + 1 ≤ R.frames) (hlo : (rest.map fun v => v.category).sum + (maxL' + 11) + rm.locals ≤ R.locals) (hc : cells + rm.cells ≤ R.cells) (hs : slots + rm.slots ≤ R.slots)
    (k : ∀ v h', Qc v h' → own_Go p l e R s m args below meth c n0 Q (cells + rm.cells) (slots + rm.slots) h' pn Ls (v.toList ++ rest)) : own_Go p l e R s m args below meth c n0 Q cells slots h pc Ls st := by
  obtain ⟨hd, rfl⟩ := d
  intro T locs ce sl h1 h2 hf X eT
  obtain ⟨v, _, ⟨T', L', k', n'⟩, -, X', ⟨Lc, hq, l', y', z'⟩, st'⟩ := X.specialBack C.1 (y := y) hi C.2.2.1 (mvT C.2.1 w1) (mvT C.2.1 w4) (mvT C.2.1 w5) hy (backOf (W := (rest.map fun v => v.category).sum) (Q := fun v h L => Qc v h ∧ Fr n0 L) (K []) C.2.1 w5 w6 hfr hlo) (g := mkF m pc Ls.toArray st) rfl (by rw [C.2.2.2.2.1]; simpa using hLs) (Steps.refl _) (argsL := as') (rest := rest) (lenOf hp hn) hst (by simp) (hb C.2.2.2.1 hd) (fun _ _ => ⟨rfl, eT, Nat.le_trans (Nat.add_le_add_right h1 _) hc, Nat.le_trans (Nat.add_le_add_right h2 _) hs⟩)
  dsimp only [Pt.U, Pt.locs, Pt.cells, Pt.slots] at X' l' y' z' st' hq
  subst l' y' z'
  obtain ⟨s₂, o, g1, g2⟩ := k v T'.heap hq.1 T' _ _ _ (by omega) (by omega) (Fr.app hf hq.2) X' rfl
  exact ⟨s₂, o, st'.trans g1, g2⟩
theorem own_nf {args : Array Value} {y : MethodName} {K : String} (hZ : Z.Warmed39 s.vm) (w : (Jvm.Cond.selects K y y).before a0 Z = true) : NotFace s y := notFace_of_selects (args := args) (mvT hZ w)
/-- from the words of a case to facts -/
theorem own_fld {t u : Term} {O n dd : String} {a : Addr} {v : Value} (hw : (Jvm.Cond.eq (Term.field t O n dd) u).value args Z none Z [] = some true) (ht : t.eval args Z none [] Z = some (.ref a)) (hu : u.eval args Z none [] Z = some v) : Fld Z Z.heap a O n dd v := by
  refine Fld.start ?_
  rw [← fld_at ht]
  obtain ⟨x, y, e1, e2, k1, k2⟩ := cmp_v (Or.inl hw)
  cases hu.symm.trans e2
  rw [e1]
  simp only [Jvm.Cond.value, e1, e2] at hw
  cases x <;> cases v <;> simp_all [Kin, Value.isRef]
theorem own_main {y : MethodName} {rm : Room} {as' : List Value} {ws : List Jvm.Cond} (K : own_Con l Z y bytes maxL ret rm n0 as' h Qn) : MetFree l y (head1 (Jvm.Cond.code y bytes maxL ret :: ws) rm) (fun a U => a = as'.toArray ∧ Z.Warmed39 U.vm ∧ U.heap = h) (fun _ _ _ _ _ => True) (fun _ U o U' => ∃ v L, o = .returned v ∧ (Qn v U'.heap ∧ Fr n0 L) ∧ FrameEnd U o U' L rm.cells rm.slots) := K ws
theorem own_ext_ext {h0 h' : Heap} (E : Ext h0 h) (E' : Ext h h') : Ext h0 h' := ⟨Nat.le_trans E.1 E'.1, fun a c q => E'.2 a c (E.2 a c q)⟩
theorem own_ext_wr {h0 h' : Heap} {a : Addr} {j : Nat} {v : Value} (E : Ext h0 h) (W : Wr h h' a j v) (q : h0.size ≤ a) : Ext h0 h' := by
  refine ⟨by rw [W.size]; exact E.1, fun b c hb => ?_⟩
  obtain ⟨c', e1, -, -, -, e5, -⟩ := wr_at W (E.2 b c hb)
  have ne : b ≠ a := fun e => absurd (Array.getElem?_eq_some_iff.mp hb).1 (by rw [e]; exact Nat.not_lt.mpr q)
  rw [e1, e5 ne]
theorem own_ext_keep {h0 h' : Heap} {ws : List Addr} (E : Ext h0 h) (K : Keep h h' ws) (q : ∀ x ∈ ws, h0.size ≤ x) : Ext h0 h' := ⟨Nat.le_trans E.1 K.1, fun b c hb => K.2.1 b c (E.2 b c hb) fun z => absurd (Array.getElem?_eq_some_iff.mp hb).1 (Nat.not_lt.mpr (q b z))⟩
theorem own_ext_refl (h : Heap) : Ext h h := ⟨Nat.le_refl _, fun _ _ q => q⟩
/-- an array of references and all that lies in it -/
def own_Av (Z : State) (h : Heap) (a : Addr) (ty : FieldType) (cA : ClassId) (vs : List Value) : Prop := ∃ c : Cell, Arr Z h a c ty ∧ c.cls = cA ∧ c.slots = vs.toArray
theorem own_Av.ext {h' : Heap} {a : Addr} {ty : FieldType} {cA : ClassId} {vs : List Value} (A : own_Av Z h a ty cA vs) (E : Ext h h') : own_Av Z h' a ty cA vs := by obtain ⟨c, A, r⟩ := A; exact ⟨c, A.ext E, r⟩
theorem own_newA (C : own_Cx p l e R s m args below meth c Z own nm bytes maxL ret) {K : String} {i : Nat} {n : Int32} (d : own_D bytes pc (.anewarray i) 3 pn) (w1 : (Jvm.Cond.classLink own i K).before a0 Z = true) (w2 : (Jvm.Cond.arrayOver (.object K)).before a0 Z = true) (hn : ¬ n < 0) (cap : Nat) (hcap : n.toNatClampNeg = cap) (hb8 : cap * 8 ≤ 536870912) (hc : cells + 1 ≤ R.cells) (hs : slots + cap ≤ R.slots)
    (k : ∀ (h' : Heap) (a : Addr) (cA : ClassId), a = h.size → Ext h h' → own_Av Z h' a (.object K) cA (List.replicate cap .null) → Ovr Z cA K → own_Go p l e R s m args below meth c n0 Q (cells + 1) (slots + cap) h' pn Ls (.ref a :: st)) : own_Go p l e R s m args below meth c n0 Q cells slots h pc Ls (.int n :: st) :=
  own_newR C d w1 w2 hn cap (Nat.le_of_eq hcap) hb8 hc hs fun h' a cA e1 E A O => k h' a cA e1 E ⟨_, A, rfl, by subst hcap; simp [newA, defaultValue]⟩ O
theorem own_stA (C : own_Cx p l e R s m args below meth c Z own nm bytes maxL ret) {K : String} {a b : Addr} {cA : ClassId} {vs : List Value} {j : Int32} (d : own_D bytes pc .aastore 1 pn) (A : own_Av Z h a (.object K) cA vs) (O : Ovr Z cA K) (I : Ins Z h b K true) (i : Nat) (hj : ¬ j < 0) (hi : j.toNatClampNeg = i) (hl : i < vs.length) (ha : n0 ≤ a)
    (k : ∀ h', Wr h h' a i (.ref b) → own_Av Z h' a (.object K) cA (vs.set i (.ref b)) → own_Go p l e R s m args below meth c n0 Q cells slots h' pn Ls st) : own_Go p l e R s m args below meth c n0 Q cells slots h pc Ls (.ref b :: .int j :: .ref a :: st) := by
  obtain ⟨cl, A, rfl, hv⟩ := A
  subst hi
  have hsz : cl.slots.size = vs.length := by rw [hv]; simp
  refine own_stR C d A (by rw [hsz]; intro q; rcases q with q | q; exact hj q; omega) rfl (Sto.of A O I) ha fun h' W => k h' W ⟨_, A.same W, rfl, ?_⟩
  simp [Cell.setSlot, hv]
theorem own_ldA (C : own_Cx p l e R s m args below meth c Z own nm bytes maxL ret) {ty : FieldType} {a : Addr} {v : Value} {cA : ClassId} {vs : List Value} {j : Int32} (d : own_D bytes pc .aaload 1 pn) (A : own_Av Z h a ty cA vs) (hty : ty.isReference = true) (i : Nat) (hj : ¬ j < 0) (hi : j.toNatClampNeg = i) (hat : vs[i]? = some v)
    (k : own_Go p l e R s m args below meth c n0 Q cells slots h pn Ls (v :: st)) : own_Go p l e R s m args below meth c n0 Q cells slots h pc Ls (.int j :: .ref a :: st) := by
  obtain ⟨cl, A, rfl, hv⟩ := A
  subst hi
  have hl : j.toNatClampNeg < vs.length := (List.getElem?_eq_some_iff.mp hat).1
  have hsz : cl.slots.size = vs.length := by rw [hv]; simp
  exact own_aaload C d A hty (by rw [hsz]; intro q; rcases q with q | q; exact hj q; omega) (by rw [hv]; simpa using hat) k
theorem own_lenA (C : own_Cx p l e R s m args below meth c Z own nm bytes maxL ret) {ty : FieldType} {a : Addr} {cA : ClassId} {vs : List Value} (d : own_D bytes pc .arraylength 1 pn) (A : own_Av Z h a ty cA vs) {z : Int32} (hz : vs.length.toInt32 = z)
    (k : own_Go p l e R s m args below meth c n0 Q cells slots h pn Ls (.int z :: st)) : own_Go p l e R s m args below meth c n0 Q cells slots h pc Ls (.ref a :: st) := by
  obtain ⟨cl, A, rfl, hv⟩ := A
  refine own_arraylength C d A ?_
  have hsz : cl.slots.size = vs.length := by rw [hv]; simp
  rw [hsz, hz]; exact k
theorem own_getClass (C : own_Cx p l e R s m args below meth c Z own nm bytes maxL ret) {i : Nat} {K : String} {a mir : Addr} (d : own_D bytes pc (.invokevirtual i) 3 pn) (w1 : (Jvm.Cond.methodLink own i ⟨"java/lang/Object", "getClass", "()Ljava/lang/Class;"⟩).before a0 Z = true) (w2 : (Jvm.Cond.declares ⟨"java/lang/Object", "getClass", "()Ljava/lang/Class;"⟩).before a0 Z = true) (w3 : (Jvm.Cond.selects K ⟨"java/lang/Object", "getClass", "()Ljava/lang/Class;"⟩ ⟨"java/lang/Object", "getClass", "()Ljava/lang/Class;"⟩).before a0 Z = true)
    (w4 : (Jvm.Cond.instanceMethod ⟨"java/lang/Object", "getClass", "()Ljava/lang/Class;"⟩).before a0 Z = true) (w5 : (Jvm.Cond.native ⟨"java/lang/Object", "getClass", "()Ljava/lang/Class;"⟩).before a0 Z = true) (E : Exa Z h a K) (M : ∃ (cc : ClassId) (kc : Class), Z.vm.findClass K = some cc ∧ Z.vm.classes[cc]? = some kc ∧ kc.mirror = some mir) (hLs : Ls.length = maxL) (hfr : 1 ≤ R.frames) (hlo : (st.map fun v => v.category).sum + (nativeFrameWords "java/lang/Object" "getClass" 1 + 11) ≤ R.locals)
    (k : own_Go p l e R s m args below meth c n0 Q cells slots h pn Ls (.ref mir :: st)) : own_Go p l e R s m args below meth c n0 Q cells slots h pc Ls (.ref a :: st) := by
  obtain ⟨hd, rfl⟩ := d
  refine own_warm (fun T locs ce sl X eT => ?_) k
  obtain ⟨cB, kB, i1, i2, i3⟩ := isOf C.2.1 eT E
  obtain ⟨cc, kc, m1, m2, m3⟩ := M
  rw [C.2.1.alike.findClass] at i1
  cases i1.symm.trans m1
  obtain ⟨k', q, ek⟩ := C.2.1.alike.2.2 _ _ m2
  obtain ⟨vm', X', st'⟩ := X.getClassOf C.1 C.2.2.1 (mvT C.2.1 w1) (mvT C.2.1 w2) (own_nf (args := #[]) C.2.1 w3) (mvT C.2.1 w3) (mvT C.2.1 w4) (mvT C.2.1 w5) (by rw [C.2.1.alike.findClass]; exact m1) i3 q (by rw [ek]; exact m3) (g := mkF m pc Ls.toArray (.ref a :: st)) rfl (by rw [C.2.2.2.2.1]; simpa using hLs) rfl (hb C.2.2.2.1 hd) hfr (by simpa using hlo)
  exact ⟨_, X', eT, st'⟩
theorem own_len {t : Term} {a : Addr} {cl : Cell} {ty : FieldType} {n : Int32} {k : Nat} (hn : n.toNatClampNeg = k) (hw : (Jvm.Cond.eq (Term.length t) (Term.int n)).value args Z none Z [] = some true) (ht : t.eval args Z none [] Z = some (.ref a)) (A : Arr Z Z.heap a cl ty) : cl.slots.size = k := by
  obtain ⟨x, y, e1, e2, -, -⟩ := cmp_v (Or.inl hw)
  have hx := e1
  simp only [Term.eval, ht, Option.bind_eq_bind, Option.bind_some] at e1
  rw [A.fin (Vm.Alike.refl _)] at e1
  simp only [Option.bind_some] at e1
  split at e1
  · rename_i q
    cases e1
    have h2 := gotT (Cond.eq_ints hx (show (Term.int n).eval args Z none [] Z = some (.int n) from rfl)) hw
    have h3 : cl.slots.size.toInt32.toNatClampNeg = cl.slots.size := by
      show (cl.slots.size.toInt32.toInt).toNat = cl.slots.size
      rw [len_toInt q]; rfl
    rw [h2, hn] at h3
    exact h3.symm
  · cases e1
theorem own_elem {t u : Term} {a b : Addr} {cl : Cell} {ty : FieldType} {j : Int32} {k : Nat} (hk : j.toNatClampNeg = k) (hw : (Jvm.Cond.eq (Term.elem t (Term.int j)) u).value args Z none Z [] = some true) (ht : t.eval args Z none [] Z = some (.ref a)) (A : Arr Z Z.heap a cl ty) (hu : u.eval args Z none [] Z = some (.ref b)) : cl.slots[k]? = some (.ref b) := by
  subst hk
  obtain ⟨x, y, e1, e2, k1, k2⟩ := cmp_v (Or.inl hw)
  cases hu.symm.trans e2
  obtain ⟨-, e4⟩ := elem_in e1 ht rfl A.1
  rw [e4]
  simp only [Jvm.Cond.value, e1, e2] at hw
  cases x <;> simp_all [Kin, Value.isRef]
theorem own_callU (C : own_Cx p l e R s m args below meth c Z own nm bytes maxL ret) {i : Nat} {a : Addr} {Kc owner : String} {z : MethodName} {y : MethodName} {bytes' : ByteArray} {maxL' : Nat} {ret' : Option FieldType} {rm : Room} {as' : List Value} {Qc : Option Value → Heap → Prop} (K : own_Con l Z z bytes' maxL' ret' rm n0 (.ref a :: as') h Qc) (E : Exa Z h a Kc) (d : own_D bytes pc (.invokevirtual i) 3 pn) (w1 : (Jvm.Cond.methodLink own i y).before a0 Z = true) (w2 : (Jvm.Cond.sameMethod y.cls owner y.name y.desc).before a0 Z = true) (w2' : (Jvm.Cond.declares ⟨owner, y.name, y.desc⟩).before a0 Z = true) (w3 : (Jvm.Cond.selects Kc y z).before a0 Z = true) (w4 : (Jvm.Cond.instanceMethod z).before a0 Z = true) (w5 : (Jvm.Cond.code z bytes' maxL' ret').before a0 Z = true) (w6 : (Jvm.Cond.initialized z.cls).before a0 Z = true)
    (hy : owner ≠ "java/lang/invoke/MethodHandle" ∧ owner ≠ "java/lang/invoke/VarHandle") {ps : List FieldType} {r : Option FieldType} (hp : parseMethodDescriptor y.desc = some ⟨ps, r⟩) (hn : as'.length = ps.length) (hst : st = as'.reverse ++ .ref a :: rest) (hLs : Ls.length = maxL) (hfr : rm.frames + 1 ≤ R.frames) (hlo : (rest.map fun v => v.category).sum + (maxL' + 11) + rm.locals ≤ R.locals) (hc : cells + rm.cells ≤ R.cells) (hs : slots + rm.slots ≤ R.slots)
    (k : ∀ v h', Qc v h' → own_Go p l e R s m args below meth c n0 Q (cells + rm.cells) (slots + rm.slots) h' pn Ls (v.toList ++ rest)) : own_Go p l e R s m args below meth c n0 Q cells slots h pc Ls st := by
  obtain ⟨hd, rfl⟩ := d
  intro T locs ce sl h1 h2 hf X eT
  obtain ⟨cB, kB, qa, qb, qc⟩ := isOf C.2.1 eT E
  obtain ⟨v, _, ⟨T', L', k', n'⟩, -, X', ⟨Lc, hq, l', y', z'⟩, st'⟩ := X.virtualBackUp C.1 (x := y) (y := z) C.2.2.1 (mvT C.2.1 w1) (mvT C.2.1 w2) (mvT C.2.1 w2') hy (mvT C.2.1 w3) (mvT C.2.1 w4) (backOf (W := (rest.map fun v => v.category).sum) (Q := fun v h L => Qc v h ∧ Fr n0 L) (K []) C.2.1 w5 w6 hfr hlo) qa qc (g := mkF m pc Ls.toArray st) rfl (by rw [C.2.2.2.2.1]; simpa using hLs) (Steps.refl _) (argsL := as') (rest := rest) (lenOf hp hn) hst (by simp) (hb C.2.2.2.1 hd) (fun _ _ => ⟨rfl, eT, Nat.le_trans (Nat.add_le_add_right h1 _) hc, Nat.le_trans (Nat.add_le_add_right h2 _) hs⟩)
  dsimp only [Pt.U, Pt.locs, Pt.cells, Pt.slots] at X' l' y' z' st' hq
  subst l' y' z'
  obtain ⟨s₂, o, g1, g2⟩ := k v T'.heap hq.1 T' _ _ _ (by omega) (by omega) (Fr.app hf hq.2) X' rfl
  exact ⟨s₂, o, st'.trans g1, g2⟩
theorem own_callF (C : own_Cx p l e R s m args below meth c Z own nm bytes maxL ret) {i n : Nat} {a : Addr} {Kc : String} {z : MethodName} {y : MethodName} {bytes' : ByteArray} {maxL' : Nat} {ret' : Option FieldType} {rm : Room} {as' : List Value} {Qc : Option Value → Heap → Prop} (K : own_Con l Z z bytes' maxL' ret' rm n0 (.ref a :: as') h Qc) (E : Exa Z h a Kc) (d : own_D bytes pc (.invokeinterface i n) 5 pn) (w1 : (Jvm.Cond.methodLink own i y).before a0 Z = true) (w2 : (Jvm.Cond.declares y).before a0 Z = true) (w2' : (Jvm.Cond.interfaceMethod y.cls y.cls y.name y.desc).before a0 Z = true) (hfa : ((Jvm.Cond.interfaceMethod y.cls y.cls y.name y.desc).onTables && (Jvm.Cond.interfaceMethod y.cls y.cls y.name y.desc).keepsFace) = true) (w3 : (Jvm.Cond.selects Kc y z).before a0 Z = true) (w4 : (Jvm.Cond.instanceMethod z).before a0 Z = true) (w7 : (Jvm.Cond.publicMethod z).before a0 Z = true) (w8 : (Jvm.Cond.unhidden Kc y.name y.desc).before a0 Z = true) (w9 : (Jvm.Cond.castable Kc y.cls).before a0 Z = true) (w5 : (Jvm.Cond.code z bytes' maxL' ret').before a0 Z = true) (w6 : (Jvm.Cond.initialized z.cls).before a0 Z = true)
    (hy : y.cls ≠ "java/lang/invoke/MethodHandle" ∧ y.cls ≠ "java/lang/invoke/VarHandle") {ps : List FieldType} {r : Option FieldType} (hp : parseMethodDescriptor y.desc = some ⟨ps, r⟩) (hn : as'.length = ps.length) (hst : st = as'.reverse ++ .ref a :: rest) (hLs : Ls.length = maxL) (hfr : rm.frames + 1 ≤ R.frames) (hlo : (rest.map fun v => v.category).sum + (maxL' + 11) + rm.locals ≤ R.locals) (hc : cells + rm.cells ≤ R.cells) (hs : slots + rm.slots ≤ R.slots)
    (k : ∀ v h', Qc v h' → own_Go p l e R s m args below meth c n0 Q (cells + rm.cells) (slots + rm.slots) h' pn Ls (v.toList ++ rest)) : own_Go p l e R s m args below meth c n0 Q cells slots h pc Ls st := by
  obtain ⟨hd, rfl⟩ := d
  intro T locs ce sl h1 h2 hf X eT
  obtain ⟨cB, kB, qa, qb, qc⟩ := isOf C.2.1 eT E
  obtain ⟨v, _, ⟨T', L', k', n'⟩, -, X', ⟨Lc, hq, l', y', z'⟩, st'⟩ := X.interfaceBack C.1 (xi := y) (y := z) C.2.2.1 (mvT C.2.1 w1) (mvT C.2.1 w2) (mvT C.2.1 w2' hfa) (mvT C.2.1 w3) (mvT C.2.1 w4) (mvT C.2.1 w7) (mvT C.2.1 w8) (mvT C.2.1 w9) hy (backOf (W := (rest.map fun v => v.category).sum) (Q := fun v h L => Qc v h ∧ Fr n0 L) (K []) C.2.1 w5 w6 hfr hlo) qa qb qc (g := mkF m pc Ls.toArray st) rfl (by rw [C.2.2.2.2.1]; simpa using hLs) (Steps.refl _) (argsL := as') (rest := rest) (lenOf hp hn) hst (by simp) (hb C.2.2.2.1 hd) (fun _ _ => ⟨rfl, eT, Nat.le_trans (Nat.add_le_add_right h1 _) hc, Nat.le_trans (Nat.add_le_add_right h2 _) hs⟩)
  dsimp only [Pt.U, Pt.locs, Pt.cells, Pt.slots] at X' l' y' z' st' hq
  subst l' y' z'
  obtain ⟨s₂, o, g1, g2⟩ := k v T'.heap hq.1 T' _ _ _ (by omega) (by omega) (Fr.app hf hq.2) X' rfl
  exact ⟨s₂, o, st'.trans g1, g2⟩
end OwnKit
end Jvm.RoadKit
namespace Jvm.Pilot.@@N@@
open Jvm Jvm.ClassFile Sem Op Lib Jvm.Free Jvm.Stand Jvm.LawKit Jvm.RoadKit Bundle Jvm.Pilot.@@N@@.Jvm.D

theorem d0_0 : own_D code 0 (.lload_n 2) 1 1 := ⟨at_0, rfl⟩
theorem d0_1 : own_D code 1 (.ldc2_w 9) 3 4 := ⟨at_1, rfl⟩
theorem d0_4 : own_D code 4 (.land) 1 5 := ⟨at_4, rfl⟩
theorem d0_5 : own_D code 5 (.lstore 4) 2 7 := ⟨at_5, rfl⟩
theorem d0_7 : own_D code 7 (.lload_n 0) 1 8 := ⟨at_7, rfl⟩
theorem d0_8 : own_D code 8 (.invokestatic 11) 3 11 := ⟨at_8, rfl⟩
theorem d0_11 : own_D code 11 (.astore 6) 2 13 := ⟨at_11, rfl⟩
theorem d0_13 : own_D code 13 (.lload_n 0) 1 14 := ⟨at_13, rfl⟩
theorem d0_14 : own_D code 14 (.lload 4) 2 16 := ⟨at_14, rfl⟩
theorem d0_16 : own_D code 16 (.invokestatic 17) 3 19 := ⟨at_16, rfl⟩
theorem d0_19 : own_D code 19 (.astore 7) 2 21 := ⟨at_19, rfl⟩
theorem d0_21 : own_D code 21 (.aload 6) 2 23 := ⟨at_21, rfl⟩
theorem d0_23 : own_D code 23 (.invokevirtual 21) 3 26 := ⟨at_23, rfl⟩
theorem d0_26 : own_D code 26 (.ifCond .ne 7) 3 29 := ⟨at_26, rfl⟩
theorem t0_26 : own_T 26 (7) 33 := ⟨by decide, by decide⟩
theorem d0_29 : own_D code 29 (.iconst 1) 1 30 := ⟨at_29, rfl⟩
theorem d0_30 : own_D code 30 (.goto 4) 3 33 := ⟨at_30, rfl⟩
theorem t0_30 : own_T 30 (4) 34 := ⟨by decide, by decide⟩
theorem d0_33 : own_D code 33 (.iconst 0) 1 34 := ⟨at_33, rfl⟩
theorem d0_34 : own_D code 34 (.istore 8) 2 36 := ⟨at_34, rfl⟩
theorem d0_36 : own_D code 36 (.aload 6) 2 38 := ⟨at_36, rfl⟩
theorem d0_38 : own_D code 38 (.invokevirtual 25) 3 41 := ⟨at_38, rfl⟩
theorem d0_41 : own_D code 41 (.lload_n 0) 1 42 := ⟨at_41, rfl⟩
theorem d0_42 : own_D code 42 (.lcmp) 1 43 := ⟨at_42, rfl⟩
theorem d0_43 : own_D code 43 (.ifCond .ne 7) 3 46 := ⟨at_43, rfl⟩
theorem t0_43 : own_T 43 (7) 50 := ⟨by decide, by decide⟩
theorem d0_46 : own_D code 46 (.iconst 1) 1 47 := ⟨at_46, rfl⟩
theorem d0_47 : own_D code 47 (.goto 4) 3 50 := ⟨at_47, rfl⟩
theorem t0_47 : own_T 47 (4) 51 := ⟨by decide, by decide⟩
theorem d0_50 : own_D code 50 (.iconst 0) 1 51 := ⟨at_50, rfl⟩
theorem d0_51 : own_D code 51 (.istore 9) 2 53 := ⟨at_51, rfl⟩
theorem d0_53 : own_D code 53 (.aload 6) 2 55 := ⟨at_53, rfl⟩
theorem d0_55 : own_D code 55 (.invokevirtual 29) 3 58 := ⟨at_55, rfl⟩
theorem d0_58 : own_D code 58 (.invokevirtual 33) 3 61 := ⟨at_58, rfl⟩
theorem d0_61 : own_D code 61 (.ifCond .ne 7) 3 64 := ⟨at_61, rfl⟩
theorem t0_61 : own_T 61 (7) 68 := ⟨by decide, by decide⟩
theorem d0_64 : own_D code 64 (.iconst 1) 1 65 := ⟨at_64, rfl⟩
theorem d0_65 : own_D code 65 (.goto 4) 3 68 := ⟨at_65, rfl⟩
theorem t0_65 : own_T 65 (4) 69 := ⟨by decide, by decide⟩
theorem d0_68 : own_D code 68 (.iconst 0) 1 69 := ⟨at_68, rfl⟩
theorem d0_69 : own_D code 69 (.istore 10) 2 71 := ⟨at_69, rfl⟩
theorem d0_71 : own_D code 71 (.aload 6) 2 73 := ⟨at_71, rfl⟩
theorem d0_73 : own_D code 73 (.aload 7) 2 75 := ⟨at_73, rfl⟩
theorem d0_75 : own_D code 75 (.invokevirtual 38) 3 78 := ⟨at_75, rfl⟩
theorem d0_78 : own_D code 78 (.ifCond .ne 7) 3 81 := ⟨at_78, rfl⟩
theorem t0_78 : own_T 78 (7) 85 := ⟨by decide, by decide⟩
theorem d0_81 : own_D code 81 (.iconst 1) 1 82 := ⟨at_81, rfl⟩
theorem d0_82 : own_D code 82 (.goto 4) 3 85 := ⟨at_82, rfl⟩
theorem t0_82 : own_T 82 (4) 86 := ⟨by decide, by decide⟩
theorem d0_85 : own_D code 85 (.iconst 0) 1 86 := ⟨at_85, rfl⟩
theorem d0_86 : own_D code 86 (.istore 11) 2 88 := ⟨at_86, rfl⟩
theorem d0_88 : own_D code 88 (.iload 8) 2 90 := ⟨at_88, rfl⟩
theorem d0_90 : own_D code 90 (.ifCond .eq 22) 3 93 := ⟨at_90, rfl⟩
theorem t0_90 : own_T 90 (22) 112 := ⟨by decide, by decide⟩
theorem d0_93 : own_D code 93 (.iload 9) 2 95 := ⟨at_93, rfl⟩
theorem d0_95 : own_D code 95 (.ifCond .eq 17) 3 98 := ⟨at_95, rfl⟩
theorem t0_95 : own_T 95 (17) 112 := ⟨by decide, by decide⟩
theorem d0_98 : own_D code 98 (.iload 10) 2 100 := ⟨at_98, rfl⟩
theorem d0_100 : own_D code 100 (.ifCond .eq 12) 3 103 := ⟨at_100, rfl⟩
theorem t0_100 : own_T 100 (12) 112 := ⟨by decide, by decide⟩
theorem d0_103 : own_D code 103 (.iload 11) 2 105 := ⟨at_103, rfl⟩
theorem d0_105 : own_D code 105 (.ifCond .eq 7) 3 108 := ⟨at_105, rfl⟩
theorem t0_105 : own_T 105 (7) 112 := ⟨by decide, by decide⟩
theorem d0_108 : own_D code 108 (.iconst 1) 1 109 := ⟨at_108, rfl⟩
theorem d0_109 : own_D code 109 (.goto 4) 3 112 := ⟨at_109, rfl⟩
theorem t0_109 : own_T 109 (4) 113 := ⟨by decide, by decide⟩
theorem d0_112 : own_D code 112 (.iconst 0) 1 113 := ⟨at_112, rfl⟩
theorem d0_113 : own_D code 113 (.ireturn) 1 114 := ⟨at_113, rfl⟩
theorem pd0 : parseMethodDescriptor "(JJ)Z" = some ⟨[.long, .long], some .boolean⟩ := by decide +kernel
theorem pn0 : plainFor x = true := plainFor_of_name (x := x) (show plainName "com/example/sluicegate/sluicegate/DecisionDeniedForeverPinLaw" = true by first | (simp [plainName, overriddenIn]; done) | decide +kernel)
theorem d1_0 : own_D prog_2_method_4_code 0 (.new 8) 3 3 := ⟨by decide +kernel, rfl⟩
theorem d1_3 : own_D prog_2_method_4_code 3 (.dup) 1 4 := ⟨by decide +kernel, rfl⟩
theorem d1_4 : own_D prog_2_method_4_code 4 (.iconst 0) 1 5 := ⟨by decide +kernel, rfl⟩
theorem d1_5 : own_D prog_2_method_4_code 5 (.lload_n 0) 1 6 := ⟨by decide +kernel, rfl⟩
theorem d1_6 : own_D prog_2_method_4_code 6 (.ldc2_w 23) 3 9 := ⟨by decide +kernel, rfl⟩
theorem d1_9 : own_D prog_2_method_4_code 9 (.invokespecial 20) 3 12 := ⟨by decide +kernel, rfl⟩
theorem d1_12 : own_D prog_2_method_4_code 12 (.areturn) 1 13 := ⟨by decide +kernel, rfl⟩
theorem pd1 : parseMethodDescriptor "(J)Lcom/example/sluicegate/sluicegate/Decision;" = some ⟨[.long], some (.object "com/example/sluicegate/sluicegate/Decision")⟩ := by decide +kernel
theorem pn1 : plainFor (⟨"com/example/sluicegate/sluicegate/Decision", "deniedForever", "(J)Lcom/example/sluicegate/sluicegate/Decision;"⟩ : MethodName) = true := plainFor_of_name (x := (⟨"com/example/sluicegate/sluicegate/Decision", "deniedForever", "(J)Lcom/example/sluicegate/sluicegate/Decision;"⟩ : MethodName)) (show plainName "com/example/sluicegate/sluicegate/Decision" = true by first | (simp [plainName, overriddenIn]; done) | decide +kernel)
theorem d2_0 : own_D prog_2_method_1_code 0 (.aload_n 0) 1 1 := ⟨by decide +kernel, rfl⟩
theorem d2_1 : own_D prog_2_method_1_code 1 (.invokespecial 1) 3 4 := ⟨by decide +kernel, rfl⟩
theorem d2_4 : own_D prog_2_method_1_code 4 (.aload_n 0) 1 5 := ⟨by decide +kernel, rfl⟩
theorem d2_5 : own_D prog_2_method_1_code 5 (.iload_n 1) 1 6 := ⟨by decide +kernel, rfl⟩
theorem d2_6 : own_D prog_2_method_1_code 6 (.putfield 7) 3 9 := ⟨by decide +kernel, rfl⟩
theorem d2_9 : own_D prog_2_method_1_code 9 (.aload_n 0) 1 10 := ⟨by decide +kernel, rfl⟩
theorem d2_10 : own_D prog_2_method_1_code 10 (.lload_n 2) 1 11 := ⟨by decide +kernel, rfl⟩
theorem d2_11 : own_D prog_2_method_1_code 11 (.putfield 13) 3 14 := ⟨by decide +kernel, rfl⟩
theorem d2_14 : own_D prog_2_method_1_code 14 (.aload_n 0) 1 15 := ⟨by decide +kernel, rfl⟩
theorem d2_15 : own_D prog_2_method_1_code 15 (.lload 4) 2 17 := ⟨by decide +kernel, rfl⟩
theorem d2_17 : own_D prog_2_method_1_code 17 (.putfield 17) 3 20 := ⟨by decide +kernel, rfl⟩
theorem d2_20 : own_D prog_2_method_1_code 20 (.return_) 1 21 := ⟨by decide +kernel, rfl⟩
theorem pd2 : parseMethodDescriptor "(ZJJ)V" = some ⟨[.boolean, .long, .long], none⟩ := by decide +kernel
theorem pn2 : plainFor (⟨"com/example/sluicegate/sluicegate/Decision", "<init>", "(ZJJ)V"⟩ : MethodName) = true := plainFor_of_name (x := (⟨"com/example/sluicegate/sluicegate/Decision", "<init>", "(ZJJ)V"⟩ : MethodName)) (show plainName "com/example/sluicegate/sluicegate/Decision" = true by first | (simp [plainName, overriddenIn]; done) | decide +kernel)
theorem d4_0 : own_D prog_2_method_3_code 0 (.new 8) 3 3 := ⟨by decide +kernel, rfl⟩
theorem d4_3 : own_D prog_2_method_3_code 3 (.dup) 1 4 := ⟨by decide +kernel, rfl⟩
theorem d4_4 : own_D prog_2_method_3_code 4 (.iconst 0) 1 5 := ⟨by decide +kernel, rfl⟩
theorem d4_5 : own_D prog_2_method_3_code 5 (.lload_n 0) 1 6 := ⟨by decide +kernel, rfl⟩
theorem d4_6 : own_D prog_2_method_3_code 6 (.lload_n 2) 1 7 := ⟨by decide +kernel, rfl⟩
theorem d4_7 : own_D prog_2_method_3_code 7 (.invokespecial 20) 3 10 := ⟨by decide +kernel, rfl⟩
theorem d4_10 : own_D prog_2_method_3_code 10 (.areturn) 1 11 := ⟨by decide +kernel, rfl⟩
theorem pd4 : parseMethodDescriptor "(JJ)Lcom/example/sluicegate/sluicegate/Decision;" = some ⟨[.long, .long], some (.object "com/example/sluicegate/sluicegate/Decision")⟩ := by decide +kernel
theorem pn4 : plainFor (⟨"com/example/sluicegate/sluicegate/Decision", "denied", "(JJ)Lcom/example/sluicegate/sluicegate/Decision;"⟩ : MethodName) = true := plainFor_of_name (x := (⟨"com/example/sluicegate/sluicegate/Decision", "denied", "(JJ)Lcom/example/sluicegate/sluicegate/Decision;"⟩ : MethodName)) (show plainName "com/example/sluicegate/sluicegate/Decision" = true by first | (simp [plainName, overriddenIn]; done) | decide +kernel)
theorem d5_0 : own_D prog_2_method_5_code 0 (.aload_n 0) 1 1 := ⟨by decide +kernel, rfl⟩
theorem d5_1 : own_D prog_2_method_5_code 1 (.getfield 7) 3 4 := ⟨by decide +kernel, rfl⟩
theorem d5_4 : own_D prog_2_method_5_code 4 (.ireturn) 1 5 := ⟨by decide +kernel, rfl⟩
theorem pd5 : parseMethodDescriptor "()Z" = some ⟨[], some .boolean⟩ := by decide +kernel
theorem pn5 : plainFor (⟨"com/example/sluicegate/sluicegate/Decision", "isAllowed", "()Z"⟩ : MethodName) = true := plainFor_of_name (x := (⟨"com/example/sluicegate/sluicegate/Decision", "isAllowed", "()Z"⟩ : MethodName)) (show plainName "com/example/sluicegate/sluicegate/Decision" = true by first | (simp [plainName, overriddenIn]; done) | decide +kernel)
theorem d6_0 : own_D prog_2_method_6_code 0 (.aload_n 0) 1 1 := ⟨by decide +kernel, rfl⟩
theorem d6_1 : own_D prog_2_method_6_code 1 (.getfield 13) 3 4 := ⟨by decide +kernel, rfl⟩
theorem d6_4 : own_D prog_2_method_6_code 4 (.lreturn) 1 5 := ⟨by decide +kernel, rfl⟩
theorem pd6 : parseMethodDescriptor "()J" = some ⟨[], some .long⟩ := by decide +kernel
theorem pn6 : plainFor (⟨"com/example/sluicegate/sluicegate/Decision", "remaining", "()J"⟩ : MethodName) = true := plainFor_of_name (x := (⟨"com/example/sluicegate/sluicegate/Decision", "remaining", "()J"⟩ : MethodName)) (show plainName "com/example/sluicegate/sluicegate/Decision" = true by first | (simp [plainName, overriddenIn]; done) | decide +kernel)
theorem d7_0 : own_D prog_2_method_7_code 0 (.aload_n 0) 1 1 := ⟨by decide +kernel, rfl⟩
theorem d7_1 : own_D prog_2_method_7_code 1 (.getfield 17) 3 4 := ⟨by decide +kernel, rfl⟩
theorem d7_4 : own_D prog_2_method_7_code 4 (.ldc2_w 23) 3 7 := ⟨by decide +kernel, rfl⟩
theorem d7_7 : own_D prog_2_method_7_code 7 (.lcmp) 1 8 := ⟨by decide +kernel, rfl⟩
theorem d7_8 : own_D prog_2_method_7_code 8 (.ifCond .ne 9) 3 11 := ⟨by decide +kernel, rfl⟩
theorem t7_8 : own_T 8 (9) 17 := ⟨by decide, by decide⟩
theorem d7_11 : own_D prog_2_method_7_code 11 (.invokestatic 25) 3 14 := ⟨by decide +kernel, rfl⟩
theorem d7_14 : own_D prog_2_method_7_code 14 (.goto 10) 3 17 := ⟨by decide +kernel, rfl⟩
theorem t7_14 : own_T 14 (10) 24 := ⟨by decide, by decide⟩
theorem d7_17 : own_D prog_2_method_7_code 17 (.aload_n 0) 1 18 := ⟨by decide +kernel, rfl⟩
theorem d7_18 : own_D prog_2_method_7_code 18 (.getfield 17) 3 21 := ⟨by decide +kernel, rfl⟩
theorem d7_21 : own_D prog_2_method_7_code 21 (.invokestatic 31) 3 24 := ⟨by decide +kernel, rfl⟩
theorem d7_24 : own_D prog_2_method_7_code 24 (.areturn) 1 25 := ⟨by decide +kernel, rfl⟩
theorem pd7 : parseMethodDescriptor "()Ljava/util/OptionalLong;" = some ⟨[], some (.object "java/util/OptionalLong")⟩ := by decide +kernel
theorem pn7 : plainFor (⟨"com/example/sluicegate/sluicegate/Decision", "retryAfterMicros", "()Ljava/util/OptionalLong;"⟩ : MethodName) = true := plainFor_of_name (x := (⟨"com/example/sluicegate/sluicegate/Decision", "retryAfterMicros", "()Ljava/util/OptionalLong;"⟩ : MethodName)) (show plainName "com/example/sluicegate/sluicegate/Decision" = true by first | (simp [plainName, overriddenIn]; done) | decide +kernel)
theorem d8_0 : own_D jdk_2650_method_2_code 0 (.getstatic 17) 3 3 := ⟨by decide +kernel, rfl⟩
theorem d8_3 : own_D jdk_2650_method_2_code 3 (.areturn) 1 4 := ⟨by decide +kernel, rfl⟩
theorem pd8 : parseMethodDescriptor "()Ljava/util/OptionalLong;" = some ⟨[], some (.object "java/util/OptionalLong")⟩ := by decide +kernel
theorem pn8 : plainFor (⟨"java/util/OptionalLong", "empty", "()Ljava/util/OptionalLong;"⟩ : MethodName) = true := plainFor_of_name (x := (⟨"java/util/OptionalLong", "empty", "()Ljava/util/OptionalLong;"⟩ : MethodName)) (show plainName "java/util/OptionalLong" = true by first | (simp [plainName, overriddenIn]; done) | decide +kernel)
theorem d9_0 : own_D jdk_2650_method_6_code 0 (.aload_n 0) 1 1 := ⟨by decide +kernel, rfl⟩
theorem d9_1 : own_D jdk_2650_method_6_code 1 (.getfield 7) 3 4 := ⟨by decide +kernel, rfl⟩
theorem d9_4 : own_D jdk_2650_method_6_code 4 (.ireturn) 1 5 := ⟨by decide +kernel, rfl⟩
theorem pd9 : parseMethodDescriptor "()Z" = some ⟨[], some .boolean⟩ := by decide +kernel
theorem pn9 : plainFor (⟨"java/util/OptionalLong", "isPresent", "()Z"⟩ : MethodName) = true := plainFor_of_name (x := (⟨"java/util/OptionalLong", "isPresent", "()Z"⟩ : MethodName)) (show plainName "java/util/OptionalLong" = true by first | (simp [plainName, overriddenIn]; done) | decide +kernel)
theorem d10_0 : own_D prog_2_method_8_code 0 (.aload_n 1) 1 1 := ⟨by decide +kernel, rfl⟩
theorem d10_1 : own_D prog_2_method_8_code 1 (.instanceof 8) 3 4 := ⟨by decide +kernel, rfl⟩
theorem d10_4 : own_D prog_2_method_8_code 4 (.ifCond .eq 47) 3 7 := ⟨by decide +kernel, rfl⟩
theorem t10_4 : own_T 4 (47) 51 := ⟨by decide, by decide⟩
theorem d10_7 : own_D prog_2_method_8_code 7 (.aload_n 1) 1 8 := ⟨by decide +kernel, rfl⟩
theorem d10_8 : own_D prog_2_method_8_code 8 (.checkcast 8) 3 11 := ⟨by decide +kernel, rfl⟩
theorem d10_11 : own_D prog_2_method_8_code 11 (.astore_n 2) 1 12 := ⟨by decide +kernel, rfl⟩
theorem d10_12 : own_D prog_2_method_8_code 12 (.aload_n 0) 1 13 := ⟨by decide +kernel, rfl⟩
theorem d10_13 : own_D prog_2_method_8_code 13 (.getfield 7) 3 16 := ⟨by decide +kernel, rfl⟩
theorem d10_16 : own_D prog_2_method_8_code 16 (.aload_n 2) 1 17 := ⟨by decide +kernel, rfl⟩
theorem d10_17 : own_D prog_2_method_8_code 17 (.getfield 7) 3 20 := ⟨by decide +kernel, rfl⟩
theorem d10_20 : own_D prog_2_method_8_code 20 (.if_icmp .ne 31) 3 23 := ⟨by decide +kernel, rfl⟩
theorem t10_20 : own_T 20 (31) 51 := ⟨by decide, by decide⟩
theorem d10_23 : own_D prog_2_method_8_code 23 (.aload_n 0) 1 24 := ⟨by decide +kernel, rfl⟩
theorem d10_24 : own_D prog_2_method_8_code 24 (.getfield 13) 3 27 := ⟨by decide +kernel, rfl⟩
theorem d10_27 : own_D prog_2_method_8_code 27 (.aload_n 2) 1 28 := ⟨by decide +kernel, rfl⟩
theorem d10_28 : own_D prog_2_method_8_code 28 (.getfield 13) 3 31 := ⟨by decide +kernel, rfl⟩
theorem d10_31 : own_D prog_2_method_8_code 31 (.lcmp) 1 32 := ⟨by decide +kernel, rfl⟩
theorem d10_32 : own_D prog_2_method_8_code 32 (.ifCond .ne 19) 3 35 := ⟨by decide +kernel, rfl⟩
theorem t10_32 : own_T 32 (19) 51 := ⟨by decide, by decide⟩
theorem d10_35 : own_D prog_2_method_8_code 35 (.aload_n 0) 1 36 := ⟨by decide +kernel, rfl⟩
theorem d10_36 : own_D prog_2_method_8_code 36 (.getfield 17) 3 39 := ⟨by decide +kernel, rfl⟩
theorem d10_39 : own_D prog_2_method_8_code 39 (.aload_n 2) 1 40 := ⟨by decide +kernel, rfl⟩
theorem d10_40 : own_D prog_2_method_8_code 40 (.getfield 17) 3 43 := ⟨by decide +kernel, rfl⟩
theorem d10_43 : own_D prog_2_method_8_code 43 (.lcmp) 1 44 := ⟨by decide +kernel, rfl⟩
theorem d10_44 : own_D prog_2_method_8_code 44 (.ifCond .ne 7) 3 47 := ⟨by decide +kernel, rfl⟩
theorem t10_44 : own_T 44 (7) 51 := ⟨by decide, by decide⟩
theorem d10_47 : own_D prog_2_method_8_code 47 (.iconst 1) 1 48 := ⟨by decide +kernel, rfl⟩
theorem d10_48 : own_D prog_2_method_8_code 48 (.goto 4) 3 51 := ⟨by decide +kernel, rfl⟩
theorem t10_48 : own_T 48 (4) 52 := ⟨by decide, by decide⟩
theorem d10_51 : own_D prog_2_method_8_code 51 (.iconst 0) 1 52 := ⟨by decide +kernel, rfl⟩
theorem d10_52 : own_D prog_2_method_8_code 52 (.ireturn) 1 53 := ⟨by decide +kernel, rfl⟩
theorem pd10 : parseMethodDescriptor "(Ljava/lang/Object;)Z" = some ⟨[(.object "java/lang/Object")], some .boolean⟩ := by decide +kernel
theorem pn10 : plainFor (⟨"com/example/sluicegate/sluicegate/Decision", "equals", "(Ljava/lang/Object;)Z"⟩ : MethodName) = true := plainFor_of_name (x := (⟨"com/example/sluicegate/sluicegate/Decision", "equals", "(Ljava/lang/Object;)Z"⟩ : MethodName)) (show plainName "com/example/sluicegate/sluicegate/Decision" = true by first | (simp [plainName, overriddenIn]; done) | decide +kernel)
theorem own_initO {p : Program} {l : Launch} {e : Env} {R : Room} {s : State} {m : MethodId} {args : Array Value} {below : List Frame} {meth : Method} {c : Code} {Z : State} {a0 : Array Value} {h : Heap} {own nm : String} {bytes : ByteArray} {maxL : Nat} {ret : Option FieldType} {n0 cells slots pc pn : Nat} {Q : Option Value → State → List Loc → Prop} {Ls : List Slot} {st : List Value} (C : own_Cx p l e R s m args below meth c Z own nm bytes maxL ret) {i : Nat} {a : Addr} (d : own_D bytes pc (.invokespecial i) 3 pn) (w1 : (Jvm.Cond.methodLink own i Lib.objectInit).before a0 Z = true) (w2 : (Jvm.Cond.instanceMethod Lib.objectInit).before a0 Z = true) (w3 : (Jvm.Cond.code Lib.objectInit object_method_1_code 1 none).before a0 Z = true) (hLs : Ls.length = maxL) (hfr : 1 ≤ R.frames) (hlo : (st.map fun v => v.category).sum + 12 ≤ R.locals)
    (k : own_Go p l e R s m args below meth c n0 Q cells slots h pn Ls st) : own_Go p l e R s m args below meth c n0 Q cells slots h pc Ls (.ref a :: st) := by
  obtain ⟨hd, rfl⟩ := d
  refine own_warm (fun T locs ce sl X eT => ?_) k
  obtain ⟨T', X', e', st'⟩ := initO X C.1 C.2.1 C.2.2.1 w1 w2 w3 eT (g := mkF m pc Ls.toArray (.ref a :: st)) rfl (by rw [C.2.2.2.2.1]; simpa using hLs) rfl (hb C.2.2.2.1 hd) hfr (W := (st.map fun v => v.category).sum) (by simp) hlo
  exact ⟨T', X', e', st'⟩
set_option maxRecDepth 65536 in
set_option maxHeartbeats 40000000 in
theorem own_init (l : Launch) (Z : State) (a0 : Array Value) (hw : ∀ d ∈ tables_1, d.before a0 Z = true) (n0 : Nat) (h : Heap) (a : Addr) (r t : Int64) (E : Exa Z h a "com/example/sluicegate/sluicegate/Decision") (F0 : Fld Z h a "com/example/sluicegate/sluicegate/Decision" "allowed" "Z" (.int (0 : Int32))) (F1 : Fld Z h a "com/example/sluicegate/sluicegate/Decision" "remaining" "J" (.long (0 : Int64))) (F2 : Fld Z h a "com/example/sluicegate/sluicegate/Decision" "retryAfterMicros" "J" (.long (0 : Int64))) (g : n0 ≤ a) : own_Con l Z (⟨"com/example/sluicegate/sluicegate/Decision", "<init>", "(ZJJ)V"⟩ : MethodName) prog_2_method_1_code 6 none ({ frames := 1, cells := 0, slots := 0, locals := 12 } : Room) n0 [(.ref a), (.int (0 : Int32)), (.long r), (.long t)] h (fun v h' => v = none ∧ Keep h h' [a] ∧ Exa Z h' a "com/example/sluicegate/sluicegate/Decision" ∧ Fld Z h' a "com/example/sluicegate/sluicegate/Decision" "allowed" "Z" (.int (0 : Int32)) ∧ Fld Z h' a "com/example/sluicegate/sluicegate/Decision" "remaining" "J" (.long r) ∧ Fld Z h' a "com/example/sluicegate/sluicegate/Decision" "retryAfterMicros" "J" (.long t)) := by
  refine own_Con.mk (Ls := [.val (.ref a), .val (.int (0 : Int32)), .val (.long r), .second, .val (.long t), .second]) pn2 (fun m => by first | (simp [entryFrame, mkF, argsToLocals, Value.category]; done) | rfl) ?_
  intro p e s m below meth c C
  refine own_aloadN C d2_0 rfl rfl ?_
  refine own_initO C d2_1 (hw _ (List.mem_of_getElem? (i := 11) rfl)) (hw _ (List.mem_of_getElem? (i := 12) rfl)) (hw _ (List.mem_of_getElem? (i := 13) rfl)) rfl (by decide) (by decide) ?_
  refine own_aloadN C d2_4 rfl rfl ?_
  refine own_iloadN C d2_5 rfl ?_
  refine own_putF C d2_6 (hw _ (List.mem_of_getElem? (i := 14) rfl)) Via.refl F0 E (Or.inr ⟨(hw _ (List.mem_of_getElem? (i := 15) rfl)), rfl, rfl⟩) (hw _ (List.mem_of_getElem? (i := 6) rfl)) (ty := .boolean) (by decide) rfl rfl g ?_
  intro h1 W1
  refine own_aloadN C d2_9 rfl rfl ?_
  refine own_lloadN C d2_10 rfl ?_
  refine own_putF C d2_11 (hw _ (List.mem_of_getElem? (i := 16) rfl)) Via.refl (F1.other W1 (Or.inr (slot_ne (Or.inr (hw _ (List.mem_of_getElem? (i := 17) rfl))) (Or.inr (hw _ (List.mem_of_getElem? (i := 15) rfl))) (by decide) (t := .long) (t' := .boolean) (by decide) (by decide)))) (E.wr W1) (Or.inr ⟨(hw _ (List.mem_of_getElem? (i := 17) rfl)), rfl, rfl⟩) (hw _ (List.mem_of_getElem? (i := 6) rfl)) (ty := .long) (by decide) rfl rfl g ?_
  intro h2 W2
  refine own_aloadN C d2_14 rfl rfl ?_
  refine own_lload C d2_15 rfl ?_
  refine own_putF C d2_17 (hw _ (List.mem_of_getElem? (i := 18) rfl)) Via.refl ((F2.other W1 (Or.inr (slot_ne (Or.inr (hw _ (List.mem_of_getElem? (i := 19) rfl))) (Or.inr (hw _ (List.mem_of_getElem? (i := 15) rfl))) (by decide) (t := .long) (t' := .boolean) (by decide) (by decide)))).other W2 (Or.inr (slot_ne (Or.inr (hw _ (List.mem_of_getElem? (i := 19) rfl))) (Or.inr (hw _ (List.mem_of_getElem? (i := 17) rfl))) (by decide) (t := .long) (t' := .long) (by decide) (by decide)))) ((E.wr W1).wr W2) (Or.inr ⟨(hw _ (List.mem_of_getElem? (i := 19) rfl)), rfl, rfl⟩) (hw _ (List.mem_of_getElem? (i := 6) rfl)) (ty := .long) (by decide) rfl rfl g ?_
  intro h3 W3
  have K3 : Keep h h3 [a] := (((Keep.refl h [a]).wr W1 (Or.inl (List.mem_singleton.mpr rfl))).wr W2 (Or.inl (List.mem_singleton.mpr rfl))).wr W3 (Or.inl (List.mem_singleton.mpr rfl))
  exact own_retV C d2_20 (by decide) (by decide) ⟨rfl, K3, (((E.wr W1).wr W2).wr W3), (((F0.same W1).other W2 (Or.inr (slot_ne (Or.inr (hw _ (List.mem_of_getElem? (i := 15) rfl))) (Or.inr (hw _ (List.mem_of_getElem? (i := 17) rfl))) (by decide) (t := .boolean) (t' := .long) (by decide) (by decide)))).other W3 (Or.inr (slot_ne (Or.inr (hw _ (List.mem_of_getElem? (i := 15) rfl))) (Or.inr (hw _ (List.mem_of_getElem? (i := 19) rfl))) (by decide) (t := .boolean) (t' := .long) (by decide) (by decide)))), (((F1.other W1 (Or.inr (slot_ne (Or.inr (hw _ (List.mem_of_getElem? (i := 17) rfl))) (Or.inr (hw _ (List.mem_of_getElem? (i := 15) rfl))) (by decide) (t := .long) (t' := .boolean) (by decide) (by decide)))).same W2).other W3 (Or.inr (slot_ne (Or.inr (hw _ (List.mem_of_getElem? (i := 17) rfl))) (Or.inr (hw _ (List.mem_of_getElem? (i := 19) rfl))) (by decide) (t := .long) (t' := .long) (by decide) (by decide)))), (((F2.other W1 (Or.inr (slot_ne (Or.inr (hw _ (List.mem_of_getElem? (i := 19) rfl))) (Or.inr (hw _ (List.mem_of_getElem? (i := 15) rfl))) (by decide) (t := .long) (t' := .boolean) (by decide) (by decide)))).other W2 (Or.inr (slot_ne (Or.inr (hw _ (List.mem_of_getElem? (i := 19) rfl))) (Or.inr (hw _ (List.mem_of_getElem? (i := 17) rfl))) (by decide) (t := .long) (t' := .long) (by decide) (by decide)))).same W3)⟩
set_option maxRecDepth 65536 in
set_option maxHeartbeats 40000000 in
theorem own_forever (l : Launch) (Z : State) (a0 : Array Value) (hw : ∀ d ∈ tables_1, d.before a0 Z = true) (n0 : Nat) (h : Heap) (Z0 : n0 ≤ h.size) (r : Int64)  : own_Con l Z (⟨"com/example/sluicegate/sluicegate/Decision", "deniedForever", "(J)Lcom/example/sluicegate/sluicegate/Decision;"⟩ : MethodName) prog_2_method_4_code 2 (some (.object "com/example/sluicegate/sluicegate/Decision")) ({ frames := 2, cells := 1, slots := 3, locals := 40 } : Room) n0 [(.long r)] h (fun v h' => ∃ b : Addr, v = some (.ref b) ∧ h.size ≤ b ∧ Ext h h' ∧ Exa Z h' b "com/example/sluicegate/sluicegate/Decision" ∧ Fld Z h' b "com/example/sluicegate/sluicegate/Decision" "allowed" "Z" (.int (0 : Int32)) ∧ Fld Z h' b "com/example/sluicegate/sluicegate/Decision" "remaining" "J" (.long r) ∧ Fld Z h' b "com/example/sluicegate/sluicegate/Decision" "retryAfterMicros" "J" (.long (-1))) := by
  refine own_Con.mk (Ls := [.val (.long r), .second]) pn1 (fun m => by first | (simp [entryFrame, mkF, argsToLocals, Value.category]; done) | rfl) ?_
  intro p e s m below meth c C
  refine own_newO C d1_0 (hw _ (List.mem_of_getElem? (i := 5) rfl)) (hw _ (List.mem_of_getElem? (i := 6) rfl)) (hw _ (List.mem_of_getElem? (i := 3) rfl)) (by decide) (by decide) ?_
  intro h1 b eb E1 X1 D1
  have Zb : n0 ≤ b := by rw [eb]; exact Z0
  refine own_dup C d1_3 rfl ?_
  refine own_iconst C (0 : Int32) d1_4 rfl ?_
  refine own_lloadN C d1_5 rfl ?_
  refine own_ldc2 C d1_6 (hw _ (List.mem_of_getElem? (i := 7) rfl)) ?_
  refine own_callI C (own_init l Z a0 hw n0 h1 b r (-1) X1 (D1 (Or.inr (hw _ (List.mem_of_getElem? (i := 15) rfl))) (ty := .boolean) (by decide)) (D1 (Or.inr (hw _ (List.mem_of_getElem? (i := 17) rfl))) (ty := .long) (by decide)) (D1 (Or.inr (hw _ (List.mem_of_getElem? (i := 19) rfl))) (ty := .long) (by decide)) Zb) d1_9 rfl (hw _ (List.mem_of_getElem? (i := 8) rfl)) (hw _ (List.mem_of_getElem? (i := 9) rfl)) (hw _ (List.mem_of_getElem? (i := 10) rfl)) (hw _ (List.mem_of_getElem? (i := 3) rfl)) (by decide) pd2 rfl rfl rfl (by decide) (Nat.le_of_ble_eq_true rfl) (by decide) (by decide) ?_
  rintro _ h2 ⟨rfl, K2, X2, G0, G1, G2⟩
  exact own_retA C d1_12 rfl rfl (by decide) (by decide) ⟨b, rfl, Nat.le_of_eq eb.symm, own_ext_keep E1 K2 (fun x q => by rw [List.mem_singleton.mp q, eb]; exact Nat.le_refl _), X2, G0, G1, G2⟩
set_option maxRecDepth 65536 in
set_option maxHeartbeats 40000000 in
theorem own_denied (l : Launch) (Z : State) (a0 : Array Value) (hw : ∀ d ∈ tables_1, d.before a0 Z = true) (n0 : Nat) (h : Heap) (Z0 : n0 ≤ h.size) (r t : Int64)  : own_Con l Z (⟨"com/example/sluicegate/sluicegate/Decision", "denied", "(JJ)Lcom/example/sluicegate/sluicegate/Decision;"⟩ : MethodName) prog_2_method_3_code 4 (some (.object "com/example/sluicegate/sluicegate/Decision")) ({ frames := 2, cells := 1, slots := 3, locals := 40 } : Room) n0 [(.long r), (.long t)] h (fun v h' => ∃ b : Addr, v = some (.ref b) ∧ h.size ≤ b ∧ Ext h h' ∧ Exa Z h' b "com/example/sluicegate/sluicegate/Decision" ∧ Fld Z h' b "com/example/sluicegate/sluicegate/Decision" "allowed" "Z" (.int (0 : Int32)) ∧ Fld Z h' b "com/example/sluicegate/sluicegate/Decision" "remaining" "J" (.long r) ∧ Fld Z h' b "com/example/sluicegate/sluicegate/Decision" "retryAfterMicros" "J" (.long t)) := by
  refine own_Con.mk (Ls := [.val (.long r), .second, .val (.long t), .second]) pn4 (fun m => by first | (simp [entryFrame, mkF, argsToLocals, Value.category]; done) | rfl) ?_
  intro p e s m below meth c C
  refine own_newO C d4_0 (hw _ (List.mem_of_getElem? (i := 5) rfl)) (hw _ (List.mem_of_getElem? (i := 6) rfl)) (hw _ (List.mem_of_getElem? (i := 3) rfl)) (by decide) (by decide) ?_
  intro h1 b eb E1 X1 D1
  have Zb : n0 ≤ b := by rw [eb]; exact Z0
  refine own_dup C d4_3 rfl ?_
  refine own_iconst C (0 : Int32) d4_4 rfl ?_
  refine own_lloadN C d4_5 rfl ?_
  refine own_lloadN C d4_6 rfl ?_
  refine own_callI C (own_init l Z a0 hw n0 h1 b r t X1 (D1 (Or.inr (hw _ (List.mem_of_getElem? (i := 15) rfl))) (ty := .boolean) (by decide)) (D1 (Or.inr (hw _ (List.mem_of_getElem? (i := 17) rfl))) (ty := .long) (by decide)) (D1 (Or.inr (hw _ (List.mem_of_getElem? (i := 19) rfl))) (ty := .long) (by decide)) Zb) d4_7 rfl (hw _ (List.mem_of_getElem? (i := 8) rfl)) (hw _ (List.mem_of_getElem? (i := 9) rfl)) (hw _ (List.mem_of_getElem? (i := 10) rfl)) (hw _ (List.mem_of_getElem? (i := 3) rfl)) (by decide) pd2 rfl rfl rfl (by decide) (Nat.le_of_ble_eq_true rfl) (by decide) (by decide) ?_
  rintro _ h2 ⟨rfl, K2, X2, G0, G1, G2⟩
  exact own_retA C d4_10 rfl rfl (by decide) (by decide) ⟨b, rfl, Nat.le_of_eq eb.symm, own_ext_keep E1 K2 (fun x q => by rw [List.mem_singleton.mp q, eb]; exact Nat.le_refl _), X2, G0, G1, G2⟩
set_option maxRecDepth 65536 in
set_option maxHeartbeats 40000000 in
theorem own_allowed (l : Launch) (Z : State) (a0 : Array Value) (hw : ∀ d ∈ tables_1, d.before a0 Z = true) (n0 : Nat) (h : Heap) (a : Addr) (F : Fld Z h a "com/example/sluicegate/sluicegate/Decision" "allowed" "Z" (.int (0 : Int32))) : own_Con l Z (⟨"com/example/sluicegate/sluicegate/Decision", "isAllowed", "()Z"⟩ : MethodName) prog_2_method_5_code 1 (some .boolean) ({ frames := 0, cells := 0, slots := 0, locals := 0 } : Room) n0 [(.ref a)] h (fun v h' => v = some (.int (0 : Int32)) ∧ h = h') := by
  refine own_Con.mk (Ls := [.val (.ref a)]) pn5 (fun m => by first | (simp [entryFrame, mkF, argsToLocals, Value.category]; done) | rfl) ?_
  intro p e s m below meth c C
  refine own_aloadN C d5_0 rfl rfl ?_
  refine own_getF C d5_1 (hw _ (List.mem_of_getElem? (i := 14) rfl)) Via.refl F ?_
  exact own_retZ C d5_4 (Or.inl rfl) (by decide) (by decide) ⟨rfl, rfl⟩
set_option maxRecDepth 65536 in
set_option maxHeartbeats 40000000 in
theorem own_remaining (l : Launch) (Z : State) (a0 : Array Value) (hw : ∀ d ∈ tables_1, d.before a0 Z = true) (n0 : Nat) (h : Heap) (a : Addr) (r : Int64) (F : Fld Z h a "com/example/sluicegate/sluicegate/Decision" "remaining" "J" (.long r)) : own_Con l Z (⟨"com/example/sluicegate/sluicegate/Decision", "remaining", "()J"⟩ : MethodName) prog_2_method_6_code 1 (some .long) ({ frames := 0, cells := 0, slots := 0, locals := 0 } : Room) n0 [(.ref a)] h (fun v h' => v = some (.long r) ∧ h = h') := by
  refine own_Con.mk (Ls := [.val (.ref a)]) pn6 (fun m => by first | (simp [entryFrame, mkF, argsToLocals, Value.category]; done) | rfl) ?_
  intro p e s m below meth c C
  refine own_aloadN C d6_0 rfl rfl ?_
  refine own_getF C d6_1 (hw _ (List.mem_of_getElem? (i := 16) rfl)) Via.refl F ?_
  exact own_retJ C d6_4 (by decide) (by decide) ⟨rfl, rfl⟩
set_option maxRecDepth 65536 in
set_option maxHeartbeats 40000000 in
theorem own_empty (l : Launch) (Z : State) (a0 : Array Value) (hw : ∀ d ∈ tables_1, d.before a0 Z = true) (n0 : Nat) (h : Heap) (e0 : Addr) (S_EMPTY : Sta Z h "java/util/OptionalLong" "EMPTY" "Ljava/util/OptionalLong;" (.ref e0)) : own_Con l Z (⟨"java/util/OptionalLong", "empty", "()Ljava/util/OptionalLong;"⟩ : MethodName) jdk_2650_method_2_code 0 (some (.object "java/util/OptionalLong")) ({ frames := 0, cells := 0, slots := 0, locals := 0 } : Room) n0 [] h (fun v h' => v = some (.ref e0) ∧ h = h') := by
  refine own_Con.mk (Ls := []) pn8 (fun m => by first | (simp [entryFrame, mkF, argsToLocals, Value.category]; done) | rfl) ?_
  intro p e s m below meth c C
  refine own_getS C d8_0 (hw _ (List.mem_of_getElem? (i := 42) rfl)) S_EMPTY ?_
  exact own_retA C d8_3 rfl rfl (by decide) (by decide) ⟨rfl, rfl⟩
set_option maxRecDepth 65536 in
set_option maxHeartbeats 40000000 in
theorem own_retry (l : Launch) (Z : State) (a0 : Array Value) (hw : ∀ d ∈ tables_1, d.before a0 Z = true) (n0 : Nat) (h : Heap) (a e0 : Addr) (S_EMPTY : Sta Z h "java/util/OptionalLong" "EMPTY" "Ljava/util/OptionalLong;" (.ref e0)) (F : Fld Z h a "com/example/sluicegate/sluicegate/Decision" "retryAfterMicros" "J" (.long (-1))) : own_Con l Z (⟨"com/example/sluicegate/sluicegate/Decision", "retryAfterMicros", "()Ljava/util/OptionalLong;"⟩ : MethodName) prog_2_method_7_code 1 (some (.object "java/util/OptionalLong")) ({ frames := 1, cells := 0, slots := 0, locals := 20 } : Room) n0 [(.ref a)] h (fun v h' => v = some (.ref e0) ∧ h = h') := by
  refine own_Con.mk (Ls := [.val (.ref a)]) pn7 (fun m => by first | (simp [entryFrame, mkF, argsToLocals, Value.category]; done) | rfl) ?_
  intro p e s m below meth c C
  refine own_aloadN C d7_0 rfl rfl ?_
  refine own_getF C d7_1 (hw _ (List.mem_of_getElem? (i := 18) rfl)) Via.refl F ?_
  refine own_ldc2 C d7_4 (hw _ (List.mem_of_getElem? (i := 7) rfl)) ?_
  refine own_lcmp C d7_7 ?_
  refine own_ifne C d7_8 t7_8 (fun h' => absurd h' (fun z => z ((lw_eq _ _).mpr rfl))) (fun _ => ?_)
  refine own_callS C (own_empty l Z a0 hw n0 h e0 S_EMPTY) d7_11 (hw _ (List.mem_of_getElem? (i := 38) rfl)) (hw _ (List.mem_of_getElem? (i := 39) rfl)) (hw _ (List.mem_of_getElem? (i := 40) rfl)) (hw _ (List.mem_of_getElem? (i := 41) rfl)) (by decide) pd8 rfl rfl rfl (by decide) (Nat.le_of_ble_eq_true rfl) (by decide) (by decide) ?_
  rintro _ _ ⟨rfl, rfl⟩
  refine own_goto C d7_14 t7_14 ?_
  exact own_retA C d7_24 rfl rfl (by decide) (by decide) ⟨rfl, rfl⟩
set_option maxRecDepth 65536 in
set_option maxHeartbeats 40000000 in
theorem own_present (l : Launch) (Z : State) (a0 : Array Value) (hw : ∀ d ∈ tables_1, d.before a0 Z = true) (n0 : Nat) (h : Heap) (a : Addr) (F : Fld Z h a "java/util/OptionalLong" "isPresent" "Z" (.int (0 : Int32))) : own_Con l Z (⟨"java/util/OptionalLong", "isPresent", "()Z"⟩ : MethodName) jdk_2650_method_6_code 1 (some .boolean) ({ frames := 0, cells := 0, slots := 0, locals := 0 } : Room) n0 [(.ref a)] h (fun v h' => v = some (.int (0 : Int32)) ∧ h = h') := by
  refine own_Con.mk (Ls := [.val (.ref a)]) pn9 (fun m => by first | (simp [entryFrame, mkF, argsToLocals, Value.category]; done) | rfl) ?_
  intro p e s m below meth c C
  refine own_aloadN C d9_0 rfl rfl ?_
  refine own_getF C d9_1 (hw _ (List.mem_of_getElem? (i := 48) rfl)) Via.refl F ?_
  exact own_retZ C d9_4 (Or.inl rfl) (by decide) (by decide) ⟨rfl, rfl⟩
set_option maxRecDepth 65536 in
set_option maxHeartbeats 40000000 in
theorem own_equals (l : Launch) (Z : State) (a0 : Array Value) (hw : ∀ d ∈ tables_1, d.before a0 Z = true) (n0 : Nat) (h : Heap) (a b : Addr) (r t : Int64) (E2 : Exa Z h b "com/example/sluicegate/sluicegate/Decision") (F0 : Fld Z h a "com/example/sluicegate/sluicegate/Decision" "allowed" "Z" (.int (0 : Int32))) (G0 : Fld Z h b "com/example/sluicegate/sluicegate/Decision" "allowed" "Z" (.int (0 : Int32))) (F1 : Fld Z h a "com/example/sluicegate/sluicegate/Decision" "remaining" "J" (.long r)) (G1 : Fld Z h b "com/example/sluicegate/sluicegate/Decision" "remaining" "J" (.long r)) (F2 : Fld Z h a "com/example/sluicegate/sluicegate/Decision" "retryAfterMicros" "J" (.long (-1))) (G2 : Fld Z h b "com/example/sluicegate/sluicegate/Decision" "retryAfterMicros" "J" (.long t)) (q : ¬ (-1 : Int64) = t) : own_Con l Z (⟨"com/example/sluicegate/sluicegate/Decision", "equals", "(Ljava/lang/Object;)Z"⟩ : MethodName) prog_2_method_8_code 3 (some .boolean) ({ frames := 0, cells := 0, slots := 0, locals := 0 } : Room) n0 [(.ref a), (.ref b)] h (fun v h' => v = some (.int (0 : Int32)) ∧ h = h') := by
  refine own_Con.mk (Ls := [.val (.ref a), .val (.ref b), .unset]) pn10 (fun m => by first | (simp [entryFrame, mkF, argsToLocals, Value.category]; done) | rfl) ?_
  intro p e s m below meth c C
  refine own_aloadN C d10_0 rfl rfl ?_
  refine own_instY C d10_1 (hw _ (List.mem_of_getElem? (i := 5) rfl)) (Ins.self E2) ?_
  refine own_ifeq C d10_4 t10_4 (fun h' => absurd h' (by decide)) (fun _ => ?_)
  refine own_aloadN C d10_7 rfl rfl ?_
  refine own_cast C d10_8 (hw _ (List.mem_of_getElem? (i := 5) rfl)) (Ins.self E2) ?_
  refine own_astoreN C 2 d10_11 rfl rfl rfl rfl ?_
  refine own_aloadN C d10_12 rfl rfl ?_
  refine own_getF C d10_13 (hw _ (List.mem_of_getElem? (i := 14) rfl)) Via.refl F0 ?_
  refine own_aloadN C d10_16 rfl rfl ?_
  refine own_getF C d10_17 (hw _ (List.mem_of_getElem? (i := 14) rfl)) Via.refl G0 ?_
  refine own_icmpne C d10_20 t10_20 (fun h' => absurd h' (fun z => z rfl)) (fun _ => ?_)
  refine own_aloadN C d10_23 rfl rfl ?_
  refine own_getF C d10_24 (hw _ (List.mem_of_getElem? (i := 16) rfl)) Via.refl F1 ?_
  refine own_aloadN C d10_27 rfl rfl ?_
  refine own_getF C d10_28 (hw _ (List.mem_of_getElem? (i := 16) rfl)) Via.refl G1 ?_
  refine own_lcmp C d10_31 ?_
  refine own_ifne C d10_32 t10_32 (fun h' => absurd h' (fun z => z ((lw_eq _ _).mpr rfl))) (fun _ => ?_)
  refine own_aloadN C d10_35 rfl rfl ?_
  refine own_getF C d10_36 (hw _ (List.mem_of_getElem? (i := 18) rfl)) Via.refl F2 ?_
  refine own_aloadN C d10_39 rfl rfl ?_
  refine own_getF C d10_40 (hw _ (List.mem_of_getElem? (i := 18) rfl)) Via.refl G2 ?_
  refine own_lcmp C d10_43 ?_
  refine own_ifne C d10_44 t10_44 (fun _ => ?_) (fun h' => absurd h' (fun z => q ((lw_eq _ _).mp z)))
  refine own_iconst C (0 : Int32) d10_51 rfl ?_
  exact own_retZ C d10_52 (Or.inl rfl) (by decide) (by decide) ⟨rfl, rfl⟩
theorem own_wait (t : Int64) : ¬ (-1 : Int64) = t &&& 9223372036854775807 := by
  have h1 := (c_andSL t 9223372036854775807).2.2 (by decide)
  intro e
  rw [← e] at h1
  exact absurd h1 (by decide)
set_option maxRecDepth 65536 in
set_option maxHeartbeats 40000000 in
theorem own_law (l : Launch) (Z : State) (a0 : Array Value) (hw : ∀ d ∈ tables_1, d.before a0 Z = true) (n0 : Nat) (h : Heap) (i0 i1 : Int64) (Z0 : n0 ≤ h.size) (e0 : Addr) (S_EMPTY : Sta Z h "java/util/OptionalLong" "EMPTY" "Ljava/util/OptionalLong;" (.ref e0)) (E_EMPTY : Exa Z h e0 "java/util/OptionalLong") (F_EMPTY : Fld Z h e0 "java/util/OptionalLong" "isPresent" "Z" (.int (0 : Int32))) : own_Con l Z x code maxLocals ret room_1 n0 [(.long i0), (.long i1)] h (fun v h' => v = some (.int (1 : Int32))) := by
  refine own_Con.mk (Ls := [.val (.long i0), .second, .val (.long i1), .second, .unset, .unset, .unset, .unset, .unset, .unset, .unset, .unset]) pn0 (fun m => by first | (simp [entryFrame, mkF, argsToLocals, Value.category, maxLocals]; done) | rfl) ?_
  intro p e s m below meth c C
  refine own_lloadN C d0_0 rfl ?_
  refine own_ldc2 C d0_1 (hw _ (List.mem_of_getElem? (i := 0) rfl)) ?_
  refine own_land C d0_4 ?_
  refine own_lstore C d0_5 (Ls' := [.val (.long i0), .second, .val (.long i1), .second, .val (.long (i1 &&& 9223372036854775807)), .second, .unset, .unset, .unset, .unset, .unset, .unset]) rfl ?_
  refine own_lloadN C d0_7 rfl ?_
  refine own_callS C (own_forever l Z a0 hw n0 h Z0 i0) d0_8 (hw _ (List.mem_of_getElem? (i := 1) rfl)) (hw _ (List.mem_of_getElem? (i := 2) rfl)) (hw _ (List.mem_of_getElem? (i := 3) rfl)) (hw _ (List.mem_of_getElem? (i := 4) rfl)) (by decide) pd1 rfl rfl rfl (by decide) (Nat.le_of_ble_eq_true rfl) (by decide) (by decide) ?_
  rintro _ h1 ⟨b, rfl, lb, X1, Eb, F0, F1, F2⟩
  refine own_astore C 6 d0_11 rfl rfl rfl rfl ?_
  refine own_lloadN C d0_13 rfl ?_
  refine own_lload C d0_14 rfl ?_
  refine own_callS C (own_denied l Z a0 hw n0 h1 (Nat.le_trans Z0 X1.1) i0 (i1 &&& 9223372036854775807)) d0_16 (hw _ (List.mem_of_getElem? (i := 20) rfl)) (hw _ (List.mem_of_getElem? (i := 21) rfl)) (hw _ (List.mem_of_getElem? (i := 3) rfl)) (hw _ (List.mem_of_getElem? (i := 22) rfl)) (by decide) pd4 rfl rfl rfl (by decide) (Nat.le_of_ble_eq_true rfl) (by decide) (by decide) ?_
  rintro _ h2 ⟨b', rfl, lb', X2, Eb', G0, G1, G2⟩
  refine own_astore C 7 d0_19 rfl rfl rfl rfl ?_
  refine own_aload C d0_21 rfl rfl ?_
  refine own_callV C (own_allowed l Z a0 hw n0 h2 b (F0.ext X2)) (Eb.ext X2) d0_23 (hw _ (List.mem_of_getElem? (i := 23) rfl)) (hw _ (List.mem_of_getElem? (i := 24) rfl)) (hw _ (List.mem_of_getElem? (i := 26) rfl)) (own_nf (args := #[]) C.2.1 (hw _ (List.mem_of_getElem? (i := 26) rfl))) (hw _ (List.mem_of_getElem? (i := 25) rfl)) (hw _ (List.mem_of_getElem? (i := 27) rfl)) (hw _ (List.mem_of_getElem? (i := 3) rfl)) (by decide) pd5 rfl rfl rfl (by decide) (Nat.le_of_ble_eq_true rfl) (by decide) (by decide) ?_
  rintro _ _ ⟨rfl, rfl⟩
  refine own_ifne C d0_26 t0_26 (fun h' => absurd h' (by decide)) (fun _ => ?_)
  refine own_iconst C (1 : Int32) d0_29 rfl ?_
  refine own_goto C d0_30 t0_30 ?_
  refine own_istore C 8 d0_34 rfl rfl rfl ?_
  refine own_aload C d0_36 rfl rfl ?_
  refine own_callV C (own_remaining l Z a0 hw n0 _ b i0 (F1.ext X2)) (Eb.ext X2) d0_38 (hw _ (List.mem_of_getElem? (i := 28) rfl)) (hw _ (List.mem_of_getElem? (i := 29) rfl)) (hw _ (List.mem_of_getElem? (i := 31) rfl)) (own_nf (args := #[]) C.2.1 (hw _ (List.mem_of_getElem? (i := 31) rfl))) (hw _ (List.mem_of_getElem? (i := 30) rfl)) (hw _ (List.mem_of_getElem? (i := 32) rfl)) (hw _ (List.mem_of_getElem? (i := 3) rfl)) (by decide) pd6 rfl rfl rfl (by decide) (Nat.le_of_ble_eq_true rfl) (by decide) (by decide) ?_
  rintro _ _ ⟨rfl, rfl⟩
  refine own_lloadN C d0_41 rfl ?_
  refine own_lcmp C d0_42 ?_
  refine own_ifne C d0_43 t0_43 (fun h' => absurd h' (fun z => z ((lw_eq _ _).mpr rfl))) (fun _ => ?_)
  refine own_iconst C (1 : Int32) d0_46 rfl ?_
  refine own_goto C d0_47 t0_47 ?_
  refine own_istore C 9 d0_51 rfl rfl rfl ?_
  refine own_aload C d0_53 rfl rfl ?_
  refine own_callV C (own_retry l Z a0 hw n0 _ b e0 ((S_EMPTY.ext X1).ext X2) (F2.ext X2)) (Eb.ext X2) d0_55 (hw _ (List.mem_of_getElem? (i := 33) rfl)) (hw _ (List.mem_of_getElem? (i := 34) rfl)) (hw _ (List.mem_of_getElem? (i := 36) rfl)) (own_nf (args := #[]) C.2.1 (hw _ (List.mem_of_getElem? (i := 36) rfl))) (hw _ (List.mem_of_getElem? (i := 35) rfl)) (hw _ (List.mem_of_getElem? (i := 37) rfl)) (hw _ (List.mem_of_getElem? (i := 3) rfl)) (by decide) pd7 rfl rfl rfl (by decide) (Nat.le_of_ble_eq_true rfl) (by decide) (by decide) ?_
  rintro _ _ ⟨rfl, rfl⟩
  refine own_callV C (own_present l Z a0 hw n0 _ e0 ((F_EMPTY.ext X1).ext X2)) ((E_EMPTY.ext X1).ext X2) d0_58 (hw _ (List.mem_of_getElem? (i := 43) rfl)) (hw _ (List.mem_of_getElem? (i := 44) rfl)) (hw _ (List.mem_of_getElem? (i := 46) rfl)) (own_nf (args := #[]) C.2.1 (hw _ (List.mem_of_getElem? (i := 46) rfl))) (hw _ (List.mem_of_getElem? (i := 45) rfl)) (hw _ (List.mem_of_getElem? (i := 47) rfl)) (hw _ (List.mem_of_getElem? (i := 40) rfl)) (by decide) pd9 rfl rfl rfl (by decide) (Nat.le_of_ble_eq_true rfl) (by decide) (by decide) ?_
  rintro _ _ ⟨rfl, rfl⟩
  refine own_ifne C d0_61 t0_61 (fun h' => absurd h' (by decide)) (fun _ => ?_)
  refine own_iconst C (1 : Int32) d0_64 rfl ?_
  refine own_goto C d0_65 t0_65 ?_
  refine own_istore C 10 d0_69 rfl rfl rfl ?_
  refine own_aload C d0_71 rfl rfl ?_
  refine own_aload C d0_73 rfl rfl ?_
  refine own_callV C (own_equals l Z a0 hw n0 _ b b' i0 _ Eb' (F0.ext X2) G0 (F1.ext X2) G1 (F2.ext X2) G2 (own_wait i1)) (Eb.ext X2) d0_75 (hw _ (List.mem_of_getElem? (i := 50) rfl)) (hw _ (List.mem_of_getElem? (i := 51) rfl)) (hw _ (List.mem_of_getElem? (i := 53) rfl)) (own_nf (args := #[]) C.2.1 (hw _ (List.mem_of_getElem? (i := 53) rfl))) (hw _ (List.mem_of_getElem? (i := 52) rfl)) (hw _ (List.mem_of_getElem? (i := 54) rfl)) (hw _ (List.mem_of_getElem? (i := 3) rfl)) (by decide) pd10 rfl rfl rfl (by decide) (Nat.le_of_ble_eq_true rfl) (by decide) (by decide) ?_
  rintro _ _ ⟨rfl, rfl⟩
  refine own_ifne C d0_78 t0_78 (fun h' => absurd h' (by decide)) (fun _ => ?_)
  refine own_iconst C (1 : Int32) d0_81 rfl ?_
  refine own_goto C d0_82 t0_82 ?_
  refine own_istore C 11 d0_86 rfl rfl rfl ?_
  refine own_iload C d0_88 rfl ?_
  refine own_ifeq C d0_90 t0_90 (fun h' => absurd h' (by decide)) (fun _ => ?_)
  refine own_iload C d0_93 rfl ?_
  refine own_ifeq C d0_95 t0_95 (fun h' => absurd h' (by decide)) (fun _ => ?_)
  refine own_iload C d0_98 rfl ?_
  refine own_ifeq C d0_100 t0_100 (fun h' => absurd h' (by decide)) (fun _ => ?_)
  refine own_iload C d0_103 rfl ?_
  refine own_ifeq C d0_105 t0_105 (fun h' => absurd h' (by decide)) (fun _ => ?_)
  refine own_iconst C (1 : Int32) d0_108 rfl ?_
  refine own_goto C d0_109 t0_109 ?_
  exact own_retZ C d0_113 (Or.inr rfl) (by decide) (by decide) rfl
set_option maxRecDepth 65536 in
set_option maxHeartbeats 40000000 in
theorem comes_1 {Post : Tables → Env → Array Value → State → Outcome → State → Prop} (hpost : ∀ tb e args s v u, (limb_1_1.after args s (.returned v) u = true ∧ limb_1_2.after args s (.returned v) u = true ∧ True) → FrameEnd s (.returned v) u (Jvm.fieldLocs frame_1_writes args s ++ Jvm.arrayLocs frame_1_arrays args s ++ Jvm.staticLocs frame_1_statics s) 16 128 → Post tb e args s (.returned v) u) :
    ArmFor flags0 classFile x code maxLocals ret World_1 tables_1 room_1 Calls_1 rest_1 Pre_1 Post := by
  intro l hfl _ _ p e ha hc hk s m args below hf hA hF happ hP
  obtain ⟨hcalls, hrest, hpre⟩ := hP
  obtain ⟨-, -, -, hnamed, -, -, -, hat⟩ := (Spec.applies_iff hf).mp happ
  obtain ⟨hg, hn⟩ := and_e (Cond.before_iff.mp (show (Jvm.Cond.and given_1 narrow_1).before args s = true from hpre))
  obtain ⟨hg0, hg1⟩ := and_e hg
  obtain ⟨hgv0, hg2⟩ := and_e hg1
  obtain ⟨w0, w1, rfl⟩ : ∃ w0 w1 : Value, args = #[w0, w1] := by
    have hs : args.size = 2 := by simpa [Cond.value, given_1] using hg0
    obtain ⟨L⟩ := args
    match L, hs with
    | [w0, w1], _ => exact ⟨w0, w1, rfl⟩
  have hw := fun d (hd : d ∈ tables_1) => atoms_spec (ws := Jvm.Cond.code x code maxLocals ret :: tables_1) hat d (List.mem_cons_of_mem _ hd)
  obtain ⟨hsets, hown0⟩ := atoms_of _ (rest_1_c_eq ▸ (show rest_1_c.before _ s = true from hrest))
  have hfit : Fit s := fun {y c} hc i hi => by
    obtain ⟨ha, rfl⟩ := Array.getElem?_eq_some_iff.mp hc
    have q := List.all_eq_true.mp ((Array.all_eq_true_iff_forall_mem.mp hF) _ (Array.getElem_mem ha)) i (List.mem_range.mpr hi)
    simpa [Array.getElem?_eq_getElem hi] using q
  obtain ⟨i0, ea0⟩ := isL_v hgv0
  obtain rfl : w0 = (.long i0) := Option.some.inj ea0
  obtain ⟨i1, ea1⟩ := isL_v hg2
  obtain rfl : w1 = (.long i1) := Option.some.inj ea1
  obtain ⟨e0, ev0⟩ := exa_v (Cond.before_iff.mp (hsets _ (List.mem_of_getElem? (i := 2) rfl)))
  have E_EMPTY : Exa s s.heap e0 "java/util/OptionalLong" := Exa.start ev0 (Cond.before_iff.mp (hsets _ (List.mem_of_getElem? (i := 2) rfl)))
  have S_EMPTY : Sta s s.heap "java/util/OptionalLong" "EMPTY" "Ljava/util/OptionalLong;" (.ref e0) := Sta.start ev0 (Or.inl (hsets _ (List.mem_of_getElem? (i := 1) rfl)))
  have F_EMPTY : Fld s s.heap e0 "java/util/OptionalLong" "isPresent" "Z" (.int (0 : Int32)) := own_fld (Cond.before_iff.mp (hsets _ (List.mem_of_getElem? (i := 3) rfl))) ev0 rfl
  obtain ⟨n, o, h1, h2, h3, _, L, rfl, ⟨rfl, N⟩, hq⟩ := own_main (ws := tables_1) (own_law l s _ hw s.heap.size s.heap i0 i1 (Nat.le_refl _) e0 S_EMPTY E_EMPTY F_EMPTY) p e ha hc hk s m _ below hf ((Spec.applies_iff_loose hf).mp happ).1 ⟨rfl, State.Warmed39.refl s, rfl⟩ trivial
  refine ⟨n, _, h1, h2, h3, hpost _ _ _ _ _ _ ⟨Cond.after_iff.mpr rfl, Cond.after_iff.mpr (eq_i res_at (Term.int_eval (1)) rfl), trivial⟩ ⟨hq.1, hq.2.1, (hq.2.2.sift fun y hy => Or.inr (N y hy)).mono (by decide) (by decide)⟩⟩
theorem main_1_1 : Claimed_1_1 := comes_1 fun _ _ _ _ _ _ h hF => ⟨h.1, hF⟩
theorem main_1_2 : Claimed_1_2 := comes_1 fun _ _ _ _ _ _ h hF => ⟨h.2.1, hF⟩
end Jvm.Pilot.@@N@@
namespace Jvm.Pilot.@@N@@
open Jvm Jvm.ClassFile Sem Op Lib Jvm.Free Jvm.Stand Jvm.Pilot.@@N@@.Jvm.D
/-! MADE BY PROGRAM (witnessworld.py) out of the Statement's table words and the real class files: 10 classes; the members and pool entries that the words name. The judged class is class 1, her method 1. -/
namespace start1
open Jvm.ClassFile
def u (s : String) : CpInfo := .utf8 (stringToUtf16 s)
/-- a pool by its gaps: so many unusable entries, then the entry; so many at the end -/
def gap : Nat → List CpInfo → List CpInfo
  | 0, r => r
  | n + 1, r => .unusable :: gap n r
def poolList (es : List (Nat × CpInfo)) (last : Nat) : List CpInfo := es.foldr (fun e r => gap e.1 (e.2 :: r)) (gap last [])
def pool (es : List (Nat × CpInfo)) (last : Nat) : Array CpInfo := ⟨poolList es last⟩
def fileOf (pool : Array CpInfo) (this : Nat) (attrs : Array Attribute := #[]) (ms : Array MethodInfo := #[]) (fl : Nat := 33) (sup : Nat := 0) (ifs : Array Nat := #[]) (fds : Array FieldInfo := #[]) : ClassFile where
  minorVersion := 0
  majorVersion := 65
  constantPool := pool
  accessFlags := fl
  thisClass := this
  superClass := sup
  interfaces := ifs
  fields := fds
  methods := ms
  attributes := attrs
def plain (name : String) (sup : Option ClassId) : Class where
  name := name
  kind := .ordinary
  loader := none
  accessFlags := 33
  super := sup
  interfaces := #[]
  cf := none
  fields := #[]
  methods := #[]
  instanceTypes := #[]
  staticTypes := #[]
  resolved := #[]
  callSites := []
  init := .initialized
  statics := none
  mirror := none

def pool0 : Array CpInfo := pool [(5, u "<init>"), (0, u "()V"), (1, .class_ 10), (1, u "java/lang/Object")] 113

def k0c0 : Code := { maxStack := 0, maxLocals := 1, code := object_method_1_code, exceptionTable := #[], attributes := #[] }
def k0m0 : Method := { name := "<init>", desc := "()V", sig := { parameters := [], returnType := none }, accessFlags := 1, code := some k0c0 }
/-- java/lang/Object -/
def k0 : Class := { plain "java/lang/Object" none with
  accessFlags := 33
  interfaces := #[]
  cf := some (fileOf pool0 8 #[] #[{ accessFlags := 1, nameIndex := 5, descriptorIndex := 6, attributes := #[] }] 33 0 #[] #[])
  fields := #[]
  methods := #[k0m0]
  instanceTypes := #[]
  staticTypes := #[]
  resolved := Array.replicate 124 none
  statics := none }

def pool1 : Array CpInfo := pool [(2, .class_ 4), (1, u "java/lang/Object"), (0, u "<init>"), (0, u "()V"), (2, .long 9223372036854775807), (1, .methodref 12 13), (0, .class_ 14), (0, .nameAndType 15 16), (0, u "com/example/sluicegate/sluicegate/Decision"), (0, u "deniedForever"), (0, u "(J)Lcom/example/sluicegate/sluicegate/Decision;"), (0, .methodref 12 18), (0, .nameAndType 19 20), (0, u "denied"), (0, u "(JJ)Lcom/example/sluicegate/sluicegate/Decision;"), (0, .methodref 12 22), (0, .nameAndType 23 24), (0, u "isAllowed"), (0, u "()Z"), (0, .methodref 12 26), (0, .nameAndType 27 28), (0, u "remaining"), (0, u "()J"), (0, .methodref 12 30), (0, .nameAndType 31 32), (0, u "retryAfterMicros"), (0, u "()Ljava/util/OptionalLong;"), (0, .methodref 34 35), (0, .class_ 36), (0, .nameAndType 37 24), (0, u "java/util/OptionalLong"), (0, u "isPresent"), (0, .methodref 12 39), (0, .nameAndType 40 41), (0, u "equals"), (0, u "(Ljava/lang/Object;)Z"), (0, .class_ 43), (0, u "com/example/sluicegate/sluicegate/DecisionDeniedForeverPinLaw"), (2, u "law"), (0, u "(JJ)Z")] 3

def k1m0 : Method := { name := "<init>", desc := "()V", sig := { parameters := [], returnType := none }, accessFlags := 1, code := none }
def k1c1 : Code := { maxStack := 4, maxLocals := 12, code := code, exceptionTable := #[], attributes := #[] }
def k1m1 : Method := { name := "law", desc := "(JJ)Z", sig := { parameters := [.long, .long], returnType := some .boolean }, accessFlags := 9, code := some k1c1 }
/-- com/example/sluicegate/sluicegate/DecisionDeniedForeverPinLaw -/
def k1 : Class := { plain "com/example/sluicegate/sluicegate/DecisionDeniedForeverPinLaw" (some 0) with
  accessFlags := 49
  interfaces := #[]
  cf := some (fileOf pool1 42 #[] #[{ accessFlags := 1, nameIndex := 5, descriptorIndex := 6, attributes := #[] }, { accessFlags := 9, nameIndex := 46, descriptorIndex := 47, attributes := #[] }] 49 2 #[] #[])
  fields := #[]
  methods := #[k1m0, k1m1]
  instanceTypes := #[]
  staticTypes := #[]
  resolved := Array.replicate 51 none
  statics := none }

def pool2 : Array CpInfo := pool [(1, .methodref 2 3), (0, .class_ 4), (0, .nameAndType 5 6), (0, u "java/lang/Object"), (0, u "<init>"), (0, u "()V"), (0, .fieldref 8 9), (0, .class_ 10), (0, .nameAndType 11 12), (0, u "com/example/sluicegate/sluicegate/Decision"), (0, u "allowed"), (0, u "Z"), (0, .fieldref 8 14), (0, .nameAndType 15 16), (0, u "remaining"), (0, u "J"), (0, .fieldref 8 18), (0, .nameAndType 19 16), (0, u "retryAfterMicros"), (0, .methodref 8 21), (0, .nameAndType 5 22), (0, u "(ZJJ)V"), (0, .long 18446744073709551615), (1, .methodref 26 27), (0, .class_ 28), (0, .nameAndType 29 30), (0, u "java/util/OptionalLong"), (0, u "empty"), (0, u "()Ljava/util/OptionalLong;"), (29, u "denied"), (3, u "NEVER"), (3, u "(J)Lcom/example/sluicegate/sluicegate/Decision;"), (0, u "(JJ)Lcom/example/sluicegate/sluicegate/Decision;"), (0, u "deniedForever"), (0, u "isAllowed"), (0, u "()Z"), (0, u "()J"), (1, u "equals"), (0, u "(Ljava/lang/Object;)Z")] 25

def k2c0 : Code := { maxStack := 3, maxLocals := 6, code := prog_2_method_1_code, exceptionTable := #[], attributes := #[] }
def k2m0 : Method := { name := "<init>", desc := "(ZJJ)V", sig := { parameters := [.boolean, .long, .long], returnType := none }, accessFlags := 2, code := some k2c0 }
def k2c1 : Code := { maxStack := 7, maxLocals := 4, code := prog_2_method_3_code, exceptionTable := #[], attributes := #[] }
def k2m1 : Method := { name := "denied", desc := "(JJ)Lcom/example/sluicegate/sluicegate/Decision;", sig := { parameters := [.long, .long], returnType := some (.object "com/example/sluicegate/sluicegate/Decision") }, accessFlags := 8, code := some k2c1 }
def k2c2 : Code := { maxStack := 7, maxLocals := 2, code := prog_2_method_4_code, exceptionTable := #[], attributes := #[] }
def k2m2 : Method := { name := "deniedForever", desc := "(J)Lcom/example/sluicegate/sluicegate/Decision;", sig := { parameters := [.long], returnType := some (.object "com/example/sluicegate/sluicegate/Decision") }, accessFlags := 8, code := some k2c2 }
def k2c3 : Code := { maxStack := 1, maxLocals := 1, code := prog_2_method_5_code, exceptionTable := #[], attributes := #[] }
def k2m3 : Method := { name := "isAllowed", desc := "()Z", sig := { parameters := [], returnType := some .boolean }, accessFlags := 1, code := some k2c3 }
def k2c4 : Code := { maxStack := 2, maxLocals := 1, code := prog_2_method_6_code, exceptionTable := #[], attributes := #[] }
def k2m4 : Method := { name := "remaining", desc := "()J", sig := { parameters := [], returnType := some .long }, accessFlags := 1, code := some k2c4 }
def k2c5 : Code := { maxStack := 4, maxLocals := 1, code := prog_2_method_7_code, exceptionTable := #[], attributes := #[] }
def k2m5 : Method := { name := "retryAfterMicros", desc := "()Ljava/util/OptionalLong;", sig := { parameters := [], returnType := some (.object "java/util/OptionalLong") }, accessFlags := 1, code := some k2c5 }
def k2c6 : Code := { maxStack := 4, maxLocals := 3, code := prog_2_method_8_code, exceptionTable := #[], attributes := #[] }
def k2m6 : Method := { name := "equals", desc := "(Ljava/lang/Object;)Z", sig := { parameters := [(.object "java/lang/Object")], returnType := some .boolean }, accessFlags := 1, code := some k2c6 }
/-- com/example/sluicegate/sluicegate/Decision -/
def k2 : Class := { plain "com/example/sluicegate/sluicegate/Decision" (some 0) with
  accessFlags := 49
  interfaces := #[]
  cf := some (fileOf pool2 8 #[] #[{ accessFlags := 2, nameIndex := 5, descriptorIndex := 22, attributes := #[] }, { accessFlags := 8, nameIndex := 60, descriptorIndex := 69, attributes := #[] }, { accessFlags := 8, nameIndex := 70, descriptorIndex := 68, attributes := #[] }, { accessFlags := 1, nameIndex := 71, descriptorIndex := 72, attributes := #[] }, { accessFlags := 1, nameIndex := 15, descriptorIndex := 73, attributes := #[] }, { accessFlags := 1, nameIndex := 19, descriptorIndex := 30, attributes := #[] }, { accessFlags := 1, nameIndex := 75, descriptorIndex := 76, attributes := #[] }] 49 2 #[] #[{ accessFlags := 26, nameIndex := 64, descriptorIndex := 16, attributes := #[] }, { accessFlags := 18, nameIndex := 11, descriptorIndex := 12, attributes := #[] }, { accessFlags := 18, nameIndex := 15, descriptorIndex := 16, attributes := #[] }, { accessFlags := 18, nameIndex := 19, descriptorIndex := 16, attributes := #[] }])
  fields := #[{ name := "NEVER", type := .long, accessFlags := 26, slot := 0, constantValue := 0 }, { name := "allowed", type := .boolean, accessFlags := 18, slot := 0, constantValue := 0 }, { name := "remaining", type := .long, accessFlags := 18, slot := 1, constantValue := 0 }, { name := "retryAfterMicros", type := .long, accessFlags := 18, slot := 2, constantValue := 0 }]
  methods := #[k2m0, k2m1, k2m2, k2m3, k2m4, k2m5, k2m6]
  instanceTypes := #[.boolean, .long, .long]
  staticTypes := #[.long]
  resolved := Array.replicate 102 none
  statics := none }

def pool3 : Array CpInfo := pool [(2, .class_ 4), (1, u "java/lang/Object"), (0, u "<init>"), (0, u "()V"), (0, .fieldref 8 9), (0, .class_ 10), (0, .nameAndType 11 12), (0, u "java/util/OptionalLong"), (0, u "isPresent"), (0, u "Z"), (2, u "value"), (0, u "J"), (0, .fieldref 8 18), (0, .nameAndType 19 20), (0, u "EMPTY"), (0, u "Ljava/util/OptionalLong;"), (28, u "empty"), (46, u "()Ljava/util/OptionalLong;"), (2, u "()Z")] 38

def k3m0 : Method := { name := "<init>", desc := "()V", sig := { parameters := [], returnType := none }, accessFlags := 2, code := none }
def k3c1 : Code := { maxStack := 1, maxLocals := 0, code := jdk_2650_method_2_code, exceptionTable := #[], attributes := #[] }
def k3m1 : Method := { name := "empty", desc := "()Ljava/util/OptionalLong;", sig := { parameters := [], returnType := some (.object "java/util/OptionalLong") }, accessFlags := 9, code := some k3c1 }
def k3c2 : Code := { maxStack := 1, maxLocals := 1, code := jdk_2650_method_6_code, exceptionTable := #[], attributes := #[] }
def k3m2 : Method := { name := "isPresent", desc := "()Z", sig := { parameters := [], returnType := some .boolean }, accessFlags := 1, code := some k3c2 }
/-- java/util/OptionalLong -/
def k3 : Class := { plain "java/util/OptionalLong" (some 0) with
  accessFlags := 49
  interfaces := #[]
  cf := some (fileOf pool3 8 #[] #[{ accessFlags := 2, nameIndex := 5, descriptorIndex := 6, attributes := #[] }, { accessFlags := 9, nameIndex := 49, descriptorIndex := 96, attributes := #[] }, { accessFlags := 1, nameIndex := 11, descriptorIndex := 99, attributes := #[] }] 49 2 #[] #[{ accessFlags := 26, nameIndex := 19, descriptorIndex := 20, attributes := #[] }, { accessFlags := 18, nameIndex := 11, descriptorIndex := 12, attributes := #[] }, { accessFlags := 18, nameIndex := 15, descriptorIndex := 16, attributes := #[] }])
  fields := #[{ name := "EMPTY", type := (.object "java/util/OptionalLong"), accessFlags := 26, slot := 0, constantValue := 0 }, { name := "isPresent", type := .boolean, accessFlags := 18, slot := 0, constantValue := 0 }, { name := "value", type := .long, accessFlags := 18, slot := 1, constantValue := 0 }]
  methods := #[k3m0, k3m1, k3m2]
  instanceTypes := #[.boolean, .long]
  staticTypes := #[(.object "java/util/OptionalLong")]
  resolved := Array.replicate 138 none
  statics := some 0 }

def pool4 : Array CpInfo := pool [(1, u "java/lang/Cloneable"), (0, .class_ 1), (0, u "java/lang/Object"), (0, .class_ 3)] 3

/-- java/lang/Cloneable -/
def k4 : Class := { plain "java/lang/Cloneable" (some 0) with
  accessFlags := 1537
  interfaces := #[]
  cf := some (fileOf pool4 2 #[] #[] 1537 4 #[] #[])
  fields := #[]
  methods := #[]
  instanceTypes := #[]
  staticTypes := #[]
  resolved := Array.replicate 8 none
  statics := none }

def pool5 : Array CpInfo := pool [(1, u "java/io/Serializable"), (0, .class_ 1), (0, u "java/lang/Object"), (0, .class_ 3)] 3

/-- java/io/Serializable -/
def k5 : Class := { plain "java/io/Serializable" (some 0) with
  accessFlags := 1537
  interfaces := #[]
  cf := some (fileOf pool5 2 #[] #[] 1537 4 #[] #[])
  fields := #[]
  methods := #[]
  instanceTypes := #[]
  staticTypes := #[]
  resolved := Array.replicate 8 none
  statics := none }

/-- the primitive byte -/
def k6 : Class := { plain "byte" none with kind := .primitive 'B', accessFlags := 0x411 }
/-- [B -/
def k7 : Class := { plain "[B" (some 0) with kind := .array 6 .byte, interfaces := #[4, 5], accessFlags := 1041 }

/-- the primitive int -/
def k8 : Class := { plain "int" none with kind := .primitive 'I', accessFlags := 0x411 }
/-- [I -/
def k9 : Class := { plain "[I" (some 0) with kind := .array 8 .int, interfaces := #[4, 5], accessFlags := 1041 }

def heap : Heap := #[{ cls := 3, slots := #[.ref 1], vm := .statics 3 },
  { cls := 3, slots := #[.int 0, .long 0], vm := .none }]
def classes : Array Class := #[k0, k1, k2, k3, k4, k5, k6, k7, k8, k9]
def interned : List (Array UInt16 × Addr) := []
def slotsUsed : Nat := 3
def theMethod : MethodId := ⟨1, 1⟩
def args0 : Array Value := #[.long 5, .long 6]
def aboutOver (below : List Frame) : State where
  vm := { classes := classes, interned := interned.toArray }
  heap := heap
  slotsUsed := slotsUsed
  threads := #[{ frames := .invoking theMethod args0 :: below }]
def below0 : List Frame := [.native { method := ⟨0, 0⟩, args := #[] }]
def about1 : State := aboutOver below0
def p0 : Program := .bare "" "" ""
def e0 : Env := launch0.env 0 0 0
theorem w_frames : about1.frames = Frame.invoking theMethod args0 :: below0 := rfl
set_option maxRecDepth 65536 in
theorem w_args : argsFit about1.vm theMethod args0 = true := by decide +kernel
set_option maxRecDepth 65536 in
theorem w_heap : heapFits about1 = true := by decide +kernel
set_option maxRecDepth 65536 in
theorem w_runnable : about1.curStatus? = some .runnable := by decide +kernel
set_option maxRecDepth 65536 in
theorem w_alone : about1.alone = true := by decide +kernel
set_option maxRecDepth 65536 in
theorem w_named : about1.methodNamed? x = some theMethod := by decide +kernel
set_option maxRecDepth 65536 in
theorem w_hears : about1.hears theMethod below0 = true := by decide +kernel
set_option maxRecDepth 65536 in
theorem w_ripe : about1.ripe theMethod args0 below0 = true := by decide +kernel
theorem w_running : about1.status = .running := rfl
set_option maxRecDepth 65536 in
theorem w_room : about1.hasRoom e0.platform room_1 = true :=
  launch0.hasRoom_least _ room_1 (by decide +kernel) (by decide +kernel) (by decide +kernel) (by decide +kernel) (by decide +kernel) (by decide +kernel)
theorem allAtoms_all (ts : List Jvm.Cond) (a : Array Jvm.Value) (st : Jvm.State) : (allAtoms ts).before a st = ts.all (fun c => c.before a st) := by
  induction ts with
  | nil => rfl
  | cons c t ih =>
    show (Jvm.Cond.and c (allAtoms t)).before a st = _
    rw [Jvm.Cond.before_and, ih, List.all_cons]
def words1 : List Jvm.Cond := Jvm.Cond.code x code maxLocals ret :: tables_1
/-- a 'code' word, met by the world's own term for the bytes: nothing is compared byte by byte -/
theorem code_word {y : MethodName} {bytes : ByteArray} {mx : Nat} {rt : Option FieldType} {a : Array Value} {s : State} {m : MethodId} {meth : Method} {c : Code} (h1 : s.methodNamed? y = some m) (h2 : s.vm.method? m = some meth) (h3 : meth.code = some c) (h4 : c.code = bytes)
    (h5 : (c.maxLocals == mx && c.exceptionTable.isEmpty && decide (c.maxStack ≤ mostOperands) && decide (meth.sig.returnType = rt) && !meth.locks && decide (parseMethodDescriptor y.desc = some meth.sig)) = true) : (Jvm.Cond.code y bytes mx rt).before a s = true := by
  simp only [Bool.and_eq_true, beq_iff_eq, Bool.not_eq_true', decide_eq_true_eq] at h5
  obtain ⟨⟨⟨⟨⟨g1, g2⟩, g3⟩, g4⟩, g5⟩, g6⟩ := h5
  simp [Cond.before, Cond.holds, Cond.value, h1, h2, h3, h4, g1, g2, g3, g4, g5, g6]
def isCode : Jvm.Cond → Bool
  | .code _ _ _ _ => true
  | _ => false
theorem all_split {L : List Jvm.Cond} {P : Jvm.Cond → Bool} (h1 : L.all (fun c => isCode c || P c) = true) (h2 : ∀ c ∈ L.filter isCode, P c = true) : L.all P = true := by
  refine List.all_eq_true.mpr fun c hc => ?_
  have h := List.all_eq_true.mp h1 c hc
  rcases Bool.eq_false_or_eq_true (isCode c) with hi | hi
  · exact h2 c (List.mem_filter.mpr ⟨hc, hi⟩)
  · simpa [hi] using h
set_option maxRecDepth 65536 in
theorem w_c0 : (Jvm.Cond.code x code maxLocals ret).before args0 about1 = true := code_word (m := ⟨1, 1⟩) (meth := k1m1) (c := k1c1) (by decide +kernel) rfl rfl rfl (by decide +kernel)
set_option maxRecDepth 65536 in
theorem w_c1 : (Jvm.Cond.code ({ cls := "com/example/sluicegate/sluicegate/Decision", name := "deniedForever", desc := "(J)Lcom/example/sluicegate/sluicegate/Decision;" } : Jvm.MethodName) prog_2_method_4_code (2 : Nat) (Option.some (Jvm.ClassFile.FieldType.object "com/example/sluicegate/sluicegate/Decision"))).before args0 about1 = true := code_word (m := ⟨2, 2⟩) (meth := k2m2) (c := k2c2) (by decide +kernel) rfl rfl rfl (by decide +kernel)
set_option maxRecDepth 65536 in
theorem w_c2 : (Jvm.Cond.code ({ cls := "com/example/sluicegate/sluicegate/Decision", name := "<init>", desc := "(ZJJ)V" } : Jvm.MethodName) prog_2_method_1_code (6 : Nat) (Option.none : Option Jvm.ClassFile.FieldType)).before args0 about1 = true := code_word (m := ⟨2, 0⟩) (meth := k2m0) (c := k2c0) (by decide +kernel) rfl rfl rfl (by decide +kernel)
set_option maxRecDepth 65536 in
theorem w_c3 : (Jvm.Cond.code ({ cls := "java/lang/Object", name := "<init>", desc := "()V" } : Jvm.MethodName) object_method_1_code (1 : Nat) (Option.none : Option Jvm.ClassFile.FieldType)).before args0 about1 = true := code_word (m := ⟨0, 0⟩) (meth := k0m0) (c := k0c0) (by decide +kernel) rfl rfl rfl (by decide +kernel)
set_option maxRecDepth 65536 in
theorem w_c4 : (Jvm.Cond.code ({ cls := "com/example/sluicegate/sluicegate/Decision", name := "denied", desc := "(JJ)Lcom/example/sluicegate/sluicegate/Decision;" } : Jvm.MethodName) prog_2_method_3_code (4 : Nat) (Option.some (Jvm.ClassFile.FieldType.object "com/example/sluicegate/sluicegate/Decision"))).before args0 about1 = true := code_word (m := ⟨2, 1⟩) (meth := k2m1) (c := k2c1) (by decide +kernel) rfl rfl rfl (by decide +kernel)
set_option maxRecDepth 65536 in
theorem w_c5 : (Jvm.Cond.code ({ cls := "com/example/sluicegate/sluicegate/Decision", name := "isAllowed", desc := "()Z" } : Jvm.MethodName) prog_2_method_5_code (1 : Nat) (Option.some Jvm.ClassFile.FieldType.boolean)).before args0 about1 = true := code_word (m := ⟨2, 3⟩) (meth := k2m3) (c := k2c3) (by decide +kernel) rfl rfl rfl (by decide +kernel)
set_option maxRecDepth 65536 in
theorem w_c6 : (Jvm.Cond.code ({ cls := "com/example/sluicegate/sluicegate/Decision", name := "remaining", desc := "()J" } : Jvm.MethodName) prog_2_method_6_code (1 : Nat) (Option.some Jvm.ClassFile.FieldType.long)).before args0 about1 = true := code_word (m := ⟨2, 4⟩) (meth := k2m4) (c := k2c4) (by decide +kernel) rfl rfl rfl (by decide +kernel)
set_option maxRecDepth 65536 in
theorem w_c7 : (Jvm.Cond.code ({ cls := "com/example/sluicegate/sluicegate/Decision", name := "retryAfterMicros", desc := "()Ljava/util/OptionalLong;" } : Jvm.MethodName) prog_2_method_7_code (1 : Nat) (Option.some (Jvm.ClassFile.FieldType.object "java/util/OptionalLong"))).before args0 about1 = true := code_word (m := ⟨2, 5⟩) (meth := k2m5) (c := k2c5) (by decide +kernel) rfl rfl rfl (by decide +kernel)
set_option maxRecDepth 65536 in
theorem w_c8 : (Jvm.Cond.code ({ cls := "java/util/OptionalLong", name := "empty", desc := "()Ljava/util/OptionalLong;" } : Jvm.MethodName) jdk_2650_method_2_code (0 : Nat) (Option.some (Jvm.ClassFile.FieldType.object "java/util/OptionalLong"))).before args0 about1 = true := code_word (m := ⟨3, 1⟩) (meth := k3m1) (c := k3c1) (by decide +kernel) rfl rfl rfl (by decide +kernel)
set_option maxRecDepth 65536 in
theorem w_c9 : (Jvm.Cond.code ({ cls := "java/util/OptionalLong", name := "isPresent", desc := "()Z" } : Jvm.MethodName) jdk_2650_method_6_code (1 : Nat) (Option.some Jvm.ClassFile.FieldType.boolean)).before args0 about1 = true := code_word (m := ⟨3, 2⟩) (meth := k3m2) (c := k3c2) (by decide +kernel) rfl rfl rfl (by decide +kernel)
set_option maxRecDepth 65536 in
theorem w_c10 : (Jvm.Cond.code ({ cls := "com/example/sluicegate/sluicegate/Decision", name := "equals", desc := "(Ljava/lang/Object;)Z" } : Jvm.MethodName) prog_2_method_8_code (3 : Nat) (Option.some Jvm.ClassFile.FieldType.boolean)).before args0 about1 = true := code_word (m := ⟨2, 6⟩) (meth := k2m6) (c := k2c6) (by decide +kernel) rfl rfl rfl (by decide +kernel)
def codes1 : List Jvm.Cond := [Jvm.Cond.code x code maxLocals ret, Jvm.Cond.code ({ cls := "com/example/sluicegate/sluicegate/Decision", name := "deniedForever", desc := "(J)Lcom/example/sluicegate/sluicegate/Decision;" } : Jvm.MethodName) prog_2_method_4_code (2 : Nat) (Option.some (Jvm.ClassFile.FieldType.object "com/example/sluicegate/sluicegate/Decision")), Jvm.Cond.code ({ cls := "com/example/sluicegate/sluicegate/Decision", name := "<init>", desc := "(ZJJ)V" } : Jvm.MethodName) prog_2_method_1_code (6 : Nat) (Option.none : Option Jvm.ClassFile.FieldType), Jvm.Cond.code ({ cls := "java/lang/Object", name := "<init>", desc := "()V" } : Jvm.MethodName) object_method_1_code (1 : Nat) (Option.none : Option Jvm.ClassFile.FieldType), Jvm.Cond.code ({ cls := "com/example/sluicegate/sluicegate/Decision", name := "denied", desc := "(JJ)Lcom/example/sluicegate/sluicegate/Decision;" } : Jvm.MethodName) prog_2_method_3_code (4 : Nat) (Option.some (Jvm.ClassFile.FieldType.object "com/example/sluicegate/sluicegate/Decision")), Jvm.Cond.code ({ cls := "com/example/sluicegate/sluicegate/Decision", name := "isAllowed", desc := "()Z" } : Jvm.MethodName) prog_2_method_5_code (1 : Nat) (Option.some Jvm.ClassFile.FieldType.boolean), Jvm.Cond.code ({ cls := "com/example/sluicegate/sluicegate/Decision", name := "remaining", desc := "()J" } : Jvm.MethodName) prog_2_method_6_code (1 : Nat) (Option.some Jvm.ClassFile.FieldType.long), Jvm.Cond.code ({ cls := "com/example/sluicegate/sluicegate/Decision", name := "retryAfterMicros", desc := "()Ljava/util/OptionalLong;" } : Jvm.MethodName) prog_2_method_7_code (1 : Nat) (Option.some (Jvm.ClassFile.FieldType.object "java/util/OptionalLong")), Jvm.Cond.code ({ cls := "java/util/OptionalLong", name := "empty", desc := "()Ljava/util/OptionalLong;" } : Jvm.MethodName) jdk_2650_method_2_code (0 : Nat) (Option.some (Jvm.ClassFile.FieldType.object "java/util/OptionalLong")), Jvm.Cond.code ({ cls := "java/util/OptionalLong", name := "isPresent", desc := "()Z" } : Jvm.MethodName) jdk_2650_method_6_code (1 : Nat) (Option.some Jvm.ClassFile.FieldType.boolean), Jvm.Cond.code ({ cls := "com/example/sluicegate/sluicegate/Decision", name := "equals", desc := "(Ljava/lang/Object;)Z" } : Jvm.MethodName) prog_2_method_8_code (3 : Nat) (Option.some Jvm.ClassFile.FieldType.boolean)]
set_option maxRecDepth 65536 in
theorem codes_eq : words1.filter isCode = codes1 := rfl
theorem w_codes : ∀ c ∈ words1.filter isCode, c.before args0 about1 = true := by
  rw [codes_eq]
  intro c hc
  simp only [codes1, List.mem_cons, List.not_mem_nil, or_false] at hc
  rcases hc with rfl | rfl | rfl | rfl | rfl | rfl | rfl | rfl | rfl | rfl | rfl
  · exact w_c0
  · exact w_c1
  · exact w_c2
  · exact w_c3
  · exact w_c4
  · exact w_c5
  · exact w_c6
  · exact w_c7
  · exact w_c8
  · exact w_c9
  · exact w_c10
set_option maxRecDepth 65536 in
theorem w_t1 : (words1.take 24).all (fun c => isCode c || c.before args0 about1) = true := by decide +kernel
set_option maxRecDepth 65536 in
theorem w_t2 : ((words1.drop 24).take 24).all (fun c => isCode c || c.before args0 about1) = true := by decide +kernel
set_option maxRecDepth 65536 in
theorem w_t3 : ((words1.drop 24).drop 24).all (fun c => isCode c || c.before args0 about1) = true := by decide +kernel
theorem w_tables : (allAtoms (Jvm.Cond.code x code maxLocals ret :: tables_1)).before args0 about1 = true := by
  rw [allAtoms_all]
  show words1.all (fun c => c.before args0 about1) = true
  refine all_split ?_ w_codes
  rw [← List.take_append_drop 24 words1, List.all_append, w_t1, ← List.take_append_drop 24 (words1.drop 24), List.all_append, w_t2, w_t3]
  rfl
set_option maxRecDepth 65536 in
theorem w_rest : rest_1_c.before args0 about1 = true := by decide +kernel
set_option maxRecDepth 65536 in
theorem w_case : (Jvm.Cond.and given_1 narrow_1).before args0 about1 = true := by decide +kernel
theorem w_applies : (headSpec (Jvm.Cond.code x code maxLocals ret :: tables_1) room_1).applies x e0.platform about1 = true :=
  (Spec.applies_iff w_frames).mpr ⟨w_running, w_runnable, w_alone, w_named, w_hears, w_ripe, w_room, w_tables⟩
theorem atStart : AtStart classFile x code maxLocals ret World_1 tables_1 room_1 Calls_1 rest_1 Pre_1 launch0 p0 e0 about1 theMethod args0 below0 :=
  ⟨lists_1, trivial, launch0.admits_env _ _ _, launch0.least_env, fairChoices_fair.cas, fairChoices_fair.clock, w_frames, w_args, w_heap, w_applies, trivial, w_rest, w_case⟩
end start1
theorem witness_1 : WitnessClaimed_1 := ⟨start1.p0, start1.e0, start1.about1, start1.theMethod, start1.args0, start1.below0, start1.atStart⟩
end Jvm.Pilot.@@N@@
