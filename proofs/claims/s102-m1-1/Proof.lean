import JvmDerived
import JvmDerived.Pilot.@@N@@Statement
import JvmDerived.Pilot.@@N@@Code
set_option linter.unusedVariables false
set_option linter.unusedSimpArgs false
namespace Jvm.OwnW
open Jvm Jvm.ClassFile Sem Op Lib Jvm.Free Jvm.Stand Jvm.LawKit Jvm.RoadKit Bundle
/-- the walk stands at pc, over the heap h; k cells and n slots have come; nothing that stood at the start is written -/
def At0 (p : Program) (l : Launch) (e : Env) (R : Room) (s : State) (m : MethodId) (args : Array Value) (below : List Frame) (meth : Method) (c : Code) (n0 : Nat) (S0 : State) (h : Heap) (k n pc : Nat) (Ls : Array Slot) (st : List Value) : Prop :=
  ∃ (T : State) (locs : List Loc), Stand p l e R s m args below meth c T locs k n ∧ T.heap = h ∧ Fr n0 locs ∧ ∀ t, Steps p.tables e below (T.setTop (mkF m pc Ls st)) t → Steps p.tables e below S0 t
/-- the walk has returned v, over the heap h -/
def End0 (p : Program) (e : Env) (R : Room) (s : State) (below : List Frame) (n0 : Nat) (S0 : State) (v : Option Value) (h : Heap) : Prop :=
  ∃ (s₂ : State) (L : List Loc), Steps p.tables e below S0 s₂ ∧ s₂.status = .running ∧ Ended s₂ below (.returned v) ∧ s₂.heap = h ∧ Fr n0 L ∧ FrameEnd s (.returned v) s₂ L R.cells R.slots
abbrev WT := Heap → Nat → Nat → Nat → Array Slot → List Value → Prop
abbrev VT := Option Value → Heap → Prop
/-- W and V are of one walk of the body of y -/
def Wk (l : Launch) (Z : State) (y : MethodName) (code : ByteArray) (mx : Nat) (ret : Option FieldType) (R : Room) (n0 : Nat) (W : WT) (V : VT) : Prop :=
  ∃ (p : Program) (e : Env) (s : State) (m : MethodId) (args : Array Value) (below : List Frame) (meth : Method) (c : Code) (S0 : State),
    p.tables.exec = Jvm.exec ∧ c.code = code ∧ c.maxLocals = mx ∧ s.vm.findClass y.cls = some m.cls ∧ Z.Warmed39 s.vm ∧ meth.name = y.name ∧ meth.sig.returnType = ret ∧ meth.locks = false ∧
    W = At0 p l e R s m args below meth c n0 S0 ∧ V = End0 p e R s below n0 S0
/-- a contract: called with 'as' over the heap h the method returns v and leaves h' with Q v h' -/
def Ct (l : Launch) (Z : State) (y : MethodName) (bytes : ByteArray) (mx : Nat) (ret : Option FieldType) (rm : Room) (n0 : Nat) (as : Array Value) (h : Heap) (Q : Option Value → Heap → Prop) : Prop :=
  ∀ ws : List Jvm.Cond, MetFree l y (head1 (Jvm.Cond.code y bytes mx ret :: ws) rm) (fun a U => a = as ∧ Z.Warmed39 U.vm ∧ U.heap = h) (fun _ _ _ _ _ => True) (fun _ U o U' => ∃ v L, o = .returned v ∧ (Q v U'.heap ∧ Fr n0 L) ∧ FrameEnd U o U' L rm.cells rm.slots)
theorem Ct.of {l : Launch} {Z : State} {y : MethodName} {bytes : ByteArray} {mx : Nat} {ret : Option FieldType} {rm : Room} {n0 : Nat} {as : Array Value} {h : Heap} {Q : Option Value → Heap → Prop} {Ls : Array Slot} (hpn : plainFor y = true) (hef : ∀ m, entryFrame m as mx = mkF m 0 Ls [])
    (body : ∀ W V, Wk l Z y bytes mx ret rm n0 W V → W h 0 0 0 Ls [] → ∃ v h', V v h' ∧ Q v h') : Ct l Z y bytes mx ret rm n0 as h Q := by
  intro ws
  refine MetFree.of_bodySF hpn hisR ?_
  intro p e s m args below meth c s₁ Bd hml0 hP hK
  obtain ⟨rfl, hZ, hh⟩ := hP
  have X0 : Stand p l e rm s m args below meth c s₁ [] 0 0 := Stand.of_body Bd
  have e0 : s₁.heap = h := by rw [← hh, Bd.state]; rfl
  obtain ⟨v, h', ⟨s₂, L, g1, g2, g3, g4, g5, g6⟩, hQ⟩ := body _ _ ⟨p, e, s, m, args, below, meth, c, s₁.setTop (entryFrame m args mx), Bd.exec, Bd.bytes, hml0, findClass_of_methodNamed Bd.named, hZ, (name_of_methodNamed Bd.named Bd.method).1, Bd.returns, Bd.notSynchronized, rfl, rfl⟩
    ⟨s₁, [], X0, e0, Fr.nil n0, fun t k => castTop (hef m) k⟩
  exact ⟨s₂, _, g1, g2, g3, v, L, rfl, ⟨by rw [g4]; exact hQ, g5⟩, g6⟩
theorem Ct.imp {l : Launch} {Z : State} {y : MethodName} {bytes : ByteArray} {mx : Nat} {ret : Option FieldType} {rm : Room} {n0 : Nat} {as : Array Value} {h : Heap} {Q Q' : Option Value → Heap → Prop} (hM : Ct l Z y bytes mx ret rm n0 as h Q) (hi : ∀ v h', Q v h' → Q' v h') : Ct l Z y bytes mx ret rm n0 as h Q' := by
  intro ws p e ha hc hk s m args below hf happ hP hK
  obtain ⟨n, o, h1, h2, h3, v, L, g1, ⟨g2, g3⟩, g4⟩ := hM ws p e ha hc hk s m args below hf happ hP hK
  exact ⟨n, o, h1, h2, h3, v, L, g1, ⟨hi _ _ g2, g3⟩, g4⟩
/-- the class that declares z is no interface, by a word of the sheet -/
def NF (Z : State) (a0 : Array Value) (z : MethodName) : Prop := (∃ C z2, (Jvm.Cond.selects C z2 z2).before a0 Z = true ∧ z2.cls = z.cls) ∨ (∃ S, (Jvm.Cond.superclass z.cls S).before a0 Z = true) ∨ (Jvm.Cond.noSuperclass z.cls).before a0 Z = true
theorem NF.at {Z s : State} {a0 : Array Value} {z : MethodName} (hZ : Z.Warmed39 s.vm) (f : NF Z a0 z) : NotFace s z := by
  rcases f with ⟨C, z2, w, e⟩ | ⟨S, w⟩ | w
  · intro r0 h0
    obtain ⟨c2, r2, m2, q1, q2, q3, q4, kP, hkP, hkPi⟩ := Cond.selects_spec (mvT (args := #[]) hZ w)
    have a := findClass_of_methodNamed h0
    have b := findClass_of_methodNamed q3
    rw [e] at b
    have d : r0.cls = m2.cls := Option.some.inj (a.symm.trans b)
    exact ⟨kP, by rw [d]; exact hkP, hkPi⟩
  · exact nf_super (args := #[]) (mvT hZ w)
  · exact nf_top (args := #[]) (mvT hZ w)
section Steps
variable {l : Launch} {Z : State} {y : MethodName} {code : ByteArray} {mx : Nat} {ret : Option FieldType} {R : Room} {n0 : Nat} {W : WT} {V : VT} {h : Heap} {k n pc pc' : Nat} {Ls Ls' : Array Slot} {st st' : List Value} {a0 : Array Value}
/-- a plain step, by the library's law for it -/
theorem Wk.step (H : Wk l Z y code mx ret R n0 W V) (r : W h k n pc Ls st)
    (f : ∀ {tb : Tables} [Ours tb] {e : Env} {below : List Frame} {T t : State} {m : MethodId} {c : Code}, At T m c below → tb.exec = Jvm.exec → c.code = code → Steps tb e below (T.setTop (mkF m pc' Ls' st')) t → Steps tb e below (T.setTop (mkF m pc Ls st)) t) : W h k n pc' Ls' st' := by
  obtain ⟨p, e, s, m, args, below, meth, c, S0, hx, hby, hml, hown, hZ, hnm, hret, hlk, rfl, rfl⟩ := H
  obtain ⟨T, locs, X, eh, N, sp⟩ := r
  exact ⟨T, locs, X, eh, N, fun t q => sp t (f X.here hx hby q)⟩
/-- the account of cells and slots may be widened -/
theorem Wk.more (H : Wk l Z y code mx ret R n0 W V) {k' n' : Nat} (hk : k ≤ k') (hn : n ≤ n') (r : W h k n pc Ls st) : W h k' n' pc Ls st := by
  obtain ⟨p, e, s, m, args, below, meth, c, S0, hx, hby, hml, hown, hZ, hnm, hret, hlk, rfl, rfl⟩ := H
  obtain ⟨T, locs, X, eh, N, sp⟩ := r
  exact ⟨T, locs, X.mono hk hn, eh, N, sp⟩
/-- a step that reads the tables or the heap -/
theorem Wk.stepX (H : Wk l Z y code mx ret R n0 W V) (r : W h k n pc Ls st)
    (f : ∀ {p : Program} {e : Env} {s : State} {m : MethodId} {args : Array Value} {below : List Frame} {meth : Method} {c : Code} {T : State} {locs : List Loc}, Stand p l e R s m args below meth c T locs k n → p.tables.exec = Jvm.exec → c.code = code → c.maxLocals = mx → s.vm.findClass y.cls = some m.cls → Z.Warmed39 s.vm → T.heap = h → ∃ T', Stand p l e R s m args below meth c T' locs k n ∧ T'.heap = h ∧ ∀ t, Steps p.tables e below (T'.setTop (mkF m pc' Ls' st')) t → Steps p.tables e below (T.setTop (mkF m pc Ls st)) t) : W h k n pc' Ls' st' := by
  obtain ⟨p, e, s, m, args, below, meth, c, S0, hx, hby, hml, hown, hZ, hnm, hret, hlk, rfl, rfl⟩ := H
  obtain ⟨T, locs, X, eh, N, sp⟩ := r
  obtain ⟨T', X', e', q⟩ := f X hx hby hml hown hZ eh
  exact ⟨T', locs, X', e', N, fun t u => sp t (q t u)⟩
theorem Wk.aloadN (H : Wk l Z y code mx ret R n0 W V) {i : Fin 4} {v : Value} (hd : decode code pc = .ok (.aload_n i, 1)) (r : W h k n pc Ls (st)) (hl : Ls[i.val]? = some (.val v)) (hv : v.isRef = true) : W h k n (pc + 1) Ls (v :: st) :=
  H.step r fun A hx hby q => XS.aloadN A hx rfl (hb hby hd) hl hv q
theorem Wk.aload (H : Wk l Z y code mx ret R n0 W V) {i : Nat} {v : Value} (hd : decode code pc = .ok (.aload i, 2)) (r : W h k n pc Ls (st)) (hl : Ls[i]? = some (.val v)) (hv : v.isRef = true) : W h k n (pc + 2) Ls (v :: st) :=
  H.step r fun A hx hby q => XS.aload A hx rfl (hb hby hd) hl hv q
theorem Wk.iloadN (H : Wk l Z y code mx ret R n0 W V) {i : Fin 4} {v : Int32} (hd : decode code pc = .ok (.iload_n i, 1)) (r : W h k n pc Ls (st)) (hl : Ls[i.val]? = some (.val (.int v))) : W h k n (pc + 1) Ls (.int v :: st) :=
  H.step r fun A hx hby q => XS.iloadN A hx rfl (hb hby hd) hl q
theorem Wk.iload (H : Wk l Z y code mx ret R n0 W V) {i : Nat} {v : Int32} (hd : decode code pc = .ok (.iload i, 2)) (r : W h k n pc Ls (st)) (hl : Ls[i]? = some (.val (.int v))) : W h k n (pc + 2) Ls (.int v :: st) :=
  H.step r fun A hx hby q => XS.iload A hx rfl (hb hby hd) hl q
theorem Wk.lloadN (H : Wk l Z y code mx ret R n0 W V) {i : Fin 4} {v : Int64} (hd : decode code pc = .ok (.lload_n i, 1)) (r : W h k n pc Ls (st)) (hl : Ls[i.val]? = some (.val (.long v))) : W h k n (pc + 1) Ls (.long v :: st) :=
  H.step r fun A hx hby q => XS.lloadN A hx rfl (hb hby hd) hl q
theorem Wk.lload (H : Wk l Z y code mx ret R n0 W V) {i : Nat} {v : Int64} (hd : decode code pc = .ok (.lload i, 2)) (r : W h k n pc Ls (st)) (hl : Ls[i]? = some (.val (.long v))) : W h k n (pc + 2) Ls (.long v :: st) :=
  H.step r fun A hx hby q => XS.lload A hx rfl (hb hby hd) hl q
theorem Wk.floadN (H : Wk l Z y code mx ret R n0 W V) {i : Fin 4} {v : UInt32} (hd : decode code pc = .ok (.fload_n i, 1)) (r : W h k n pc Ls (st)) (hl : Ls[i.val]? = some (.val (.float v))) : W h k n (pc + 1) Ls (.float v :: st) :=
  H.step r fun A hx hby q => XS.floadN A hx rfl (hb hby hd) hl q
theorem Wk.iconst (H : Wk l Z y code mx ret R n0 W V) {i : Int} {z : Int32} (hd : decode code pc = .ok (.iconst i, 1)) (r : W h k n pc Ls st) (hz : Int32.ofInt i = z) : W h k n (pc + 1) Ls (.int z :: st) := by
  subst hz
  exact H.step r fun A hx hby q => XS.iconst A hx rfl (hb hby hd) q
theorem Wk.bipush (H : Wk l Z y code mx ret R n0 W V) {i : Int} {z : Int32} (hd : decode code pc = .ok (.bipush i, 2)) (r : W h k n pc Ls st) (hz : (Int8.ofInt i).toInt32 = z) : W h k n (pc + 2) Ls (.int z :: st) := by
  subst hz
  exact H.step r fun A hx hby q => XS.bipush A hx rfl (hb hby hd) q
theorem Wk.sipush (H : Wk l Z y code mx ret R n0 W V) {i : Int} {z : Int32} (hd : decode code pc = .ok (.sipush i, 3)) (r : W h k n pc Ls st) (hz : (Int16.ofInt i).toInt32 = z) : W h k n (pc + 3) Ls (.int z :: st) := by
  subst hz
  exact H.step r fun A hx hby q => XS.sipush A hx rfl (hb hby hd) q
theorem Wk.lconst (H : Wk l Z y code mx ret R n0 W V) {i : Fin 2} {z : Int64} (hd : decode code pc = .ok (.lconst i, 1)) (r : W h k n pc Ls st) (hz : Int64.ofNat i = z) : W h k n (pc + 1) Ls (.long z :: st) := by
  subst hz
  exact H.step r fun A hx hby q => XS.lconst A hx rfl (hb hby hd) q
theorem Wk.fconst0 (H : Wk l Z y code mx ret R n0 W V) {v : UInt32} (hd : decode code pc = .ok (.fconst 0, 1)) (r : W h k n pc Ls st) (hv : FP.fconst0 = v) : W h k n (pc + 1) Ls (.float v :: st) :=
  H.step r fun A hx hby q => XS.fconst0 A hx rfl (hb hby hd) hv q
theorem Wk.fcmp (H : Wk l Z y code mx ret R n0 W V) {o : CmpOp} {x z : UInt32} {v : Int32} (hd : decode code pc = .ok (.fcmp o, 1)) (r : W h k n pc Ls (.float z :: .float x :: st)) (hv : cmpValue (FP.fcmp x z) o = v) : W h k n (pc + 1) Ls (.int v :: st) :=
  H.step r fun A hx hby q => XS.fcmpS A hx rfl (hb hby hd) rfl hv q
theorem Wk.aconstNull (H : Wk l Z y code mx ret R n0 W V) (hd : decode code pc = .ok (.aconst_null, 1)) (r : W h k n pc Ls (st)) : W h k n (pc + 1) Ls (.null :: st) :=
  H.step r fun A hx hby q => XS.aconstNull A hx rfl (hb hby hd)  q
theorem Wk.iadd (H : Wk l Z y code mx ret R n0 W V) {a b : Int32} (hd : decode code pc = .ok (.iadd, 1)) (r : W h k n pc Ls (.int b :: .int a :: st)) : W h k n (pc + 1) Ls (.int (a + b) :: st) :=
  H.step r fun A hx hby q => XS.iadd A hx rfl (hb hby hd) rfl q
theorem Wk.isub (H : Wk l Z y code mx ret R n0 W V) {a b : Int32} (hd : decode code pc = .ok (.isub, 1)) (r : W h k n pc Ls (.int b :: .int a :: st)) : W h k n (pc + 1) Ls (.int (a - b) :: st) :=
  H.step r fun A hx hby q => XS.isub A hx rfl (hb hby hd) rfl q
theorem Wk.iand (H : Wk l Z y code mx ret R n0 W V) {a b : Int32} (hd : decode code pc = .ok (.iand, 1)) (r : W h k n pc Ls (.int b :: .int a :: st)) : W h k n (pc + 1) Ls (.int (a &&& b) :: st) :=
  H.step r fun A hx hby q => XS.iand A hx rfl (hb hby hd) rfl q
theorem Wk.imul (H : Wk l Z y code mx ret R n0 W V) {a b : Int32} (hd : decode code pc = .ok (.imul, 1)) (r : W h k n pc Ls (.int b :: .int a :: st)) : W h k n (pc + 1) Ls (.int (a * b) :: st) :=
  H.step r fun A hx hby q => XS.imul A hx rfl (hb hby hd) rfl q
theorem Wk.ior (H : Wk l Z y code mx ret R n0 W V) {a b : Int32} (hd : decode code pc = .ok (.ior, 1)) (r : W h k n pc Ls (.int b :: .int a :: st)) : W h k n (pc + 1) Ls (.int (a ||| b) :: st) :=
  H.step r fun A hx hby q => XS.ior A hx rfl (hb hby hd) rfl q
theorem Wk.ixor (H : Wk l Z y code mx ret R n0 W V) {a b : Int32} (hd : decode code pc = .ok (.ixor, 1)) (r : W h k n pc Ls (.int b :: .int a :: st)) : W h k n (pc + 1) Ls (.int (a ^^^ b) :: st) :=
  H.step r fun A hx hby q => XS.ixor A hx rfl (hb hby hd) rfl q
theorem Wk.ishl (H : Wk l Z y code mx ret R n0 W V) {a b : Int32} (hd : decode code pc = .ok (.ishl, 1)) (r : W h k n pc Ls (.int b :: .int a :: st)) : W h k n (pc + 1) Ls (.int (a <<< (b &&& 31)) :: st) :=
  H.step r fun A hx hby q => XS.ishl A hx rfl (hb hby hd) rfl q
theorem Wk.ishr (H : Wk l Z y code mx ret R n0 W V) {a b : Int32} (hd : decode code pc = .ok (.ishr, 1)) (r : W h k n pc Ls (.int b :: .int a :: st)) : W h k n (pc + 1) Ls (.int (a >>> (b &&& 31)) :: st) :=
  H.step r fun A hx hby q => XS.ishr A hx rfl (hb hby hd) rfl q
theorem Wk.iushr (H : Wk l Z y code mx ret R n0 W V) {a b : Int32} (hd : decode code pc = .ok (.iushr, 1)) (r : W h k n pc Ls (.int b :: .int a :: st)) : W h k n (pc + 1) Ls (.int ((a.toUInt32 >>> (b &&& 31).toUInt32).toInt32) :: st) :=
  H.step r fun A hx hby q => XS.iushr A hx rfl (hb hby hd) rfl q
theorem Wk.ladd (H : Wk l Z y code mx ret R n0 W V) {a b : Int64} (hd : decode code pc = .ok (.ladd, 1)) (r : W h k n pc Ls (.long b :: .long a :: st)) : W h k n (pc + 1) Ls (.long (a + b) :: st) :=
  H.step r fun A hx hby q => XS.ladd A hx rfl (hb hby hd) rfl q
theorem Wk.lsub (H : Wk l Z y code mx ret R n0 W V) {a b : Int64} (hd : decode code pc = .ok (.lsub, 1)) (r : W h k n pc Ls (.long b :: .long a :: st)) : W h k n (pc + 1) Ls (.long (a - b) :: st) :=
  H.step r fun A hx hby q => XS.lsub A hx rfl (hb hby hd) rfl q
theorem Wk.lmul (H : Wk l Z y code mx ret R n0 W V) {a b : Int64} (hd : decode code pc = .ok (.lmul, 1)) (r : W h k n pc Ls (.long b :: .long a :: st)) : W h k n (pc + 1) Ls (.long (a * b) :: st) :=
  H.step r fun A hx hby q => XS.lmul A hx rfl (hb hby hd) rfl q
theorem Wk.land (H : Wk l Z y code mx ret R n0 W V) {a b : Int64} (hd : decode code pc = .ok (.land, 1)) (r : W h k n pc Ls (.long b :: .long a :: st)) : W h k n (pc + 1) Ls (.long (a &&& b) :: st) :=
  H.step r fun A hx hby q => XS.land A hx rfl (hb hby hd) rfl q
theorem Wk.lor (H : Wk l Z y code mx ret R n0 W V) {a b : Int64} (hd : decode code pc = .ok (.lor, 1)) (r : W h k n pc Ls (.long b :: .long a :: st)) : W h k n (pc + 1) Ls (.long (a ||| b) :: st) :=
  H.step r fun A hx hby q => XS.lor A hx rfl (hb hby hd) rfl q
theorem Wk.lxor (H : Wk l Z y code mx ret R n0 W V) {a b : Int64} (hd : decode code pc = .ok (.lxor, 1)) (r : W h k n pc Ls (.long b :: .long a :: st)) : W h k n (pc + 1) Ls (.long (a ^^^ b) :: st) :=
  H.step r fun A hx hby q => XS.lxor A hx rfl (hb hby hd) rfl q
theorem Wk.lshl (H : Wk l Z y code mx ret R n0 W V) {a : Int64} {b : Int32} (hd : decode code pc = .ok (.lshl, 1)) (r : W h k n pc Ls (.int b :: .long a :: st)) : W h k n (pc + 1) Ls (.long (a <<< (b &&& 0x3f).toInt64) :: st) :=
  H.step r fun A hx hby q => XS.lshl A hx rfl (hb hby hd) rfl q
theorem Wk.lshr (H : Wk l Z y code mx ret R n0 W V) {a : Int64} {b : Int32} (hd : decode code pc = .ok (.lshr, 1)) (r : W h k n pc Ls (.int b :: .long a :: st)) : W h k n (pc + 1) Ls (.long (a >>> (b &&& 0x3f).toInt64) :: st) :=
  H.step r fun A hx hby q => XS.lshr A hx rfl (hb hby hd) rfl q
theorem Wk.lushr (H : Wk l Z y code mx ret R n0 W V) {a : Int64} {b : Int32} (hd : decode code pc = .ok (.lushr, 1)) (r : W h k n pc Ls (.int b :: .long a :: st)) : W h k n (pc + 1) Ls (.long ((a.toUInt64 >>> (b &&& 0x3f).toInt64.toUInt64).toInt64) :: st) :=
  H.step r fun A hx hby q => XS.lushr A hx rfl (hb hby hd) rfl q
theorem Wk.ldiv (H : Wk l Z y code mx ret R n0 W V) {a b : Int64} (hd : decode code pc = .ok (.ldiv, 1)) (r : W h k n pc Ls (.long b :: .long a :: st)) (hy : b ≠ 0) : W h k n (pc + 1) Ls (.long (a / b) :: st) :=
  H.step r fun A hx hby q => XS.ldiv A hx rfl (hb hby hd) rfl hy q
theorem Wk.idiv (H : Wk l Z y code mx ret R n0 W V) {a b : Int32} (hd : decode code pc = .ok (.idiv, 1)) (r : W h k n pc Ls (.int b :: .int a :: st)) (hy : b ≠ 0) : W h k n (pc + 1) Ls (.int (a / b) :: st) :=
  H.step r fun A hx hby q => XS.idiv A hx rfl (hb hby hd) rfl hy q
theorem Wk.lrem (H : Wk l Z y code mx ret R n0 W V) {a b : Int64} (hd : decode code pc = .ok (.lrem, 1)) (r : W h k n pc Ls (.long b :: .long a :: st)) (hy : b ≠ 0) : W h k n (pc + 1) Ls (.long (a % b) :: st) := by
  rw [← lrem_mod a b]
  exact H.step r fun A hx hby q => XS.lrem A hx rfl (hb hby hd) rfl hy q
theorem Wk.irem (H : Wk l Z y code mx ret R n0 W V) {a b : Int32} (hd : decode code pc = .ok (.irem, 1)) (r : W h k n pc Ls (.int b :: .int a :: st)) (hy : b ≠ 0) : W h k n (pc + 1) Ls (.int (a % b) :: st) :=
  H.stepX r fun X hx hby hml hown hZ eT => ⟨_, X, eT, fun t q => iremM X hx rfl (hb hby hd) rfl hy q⟩
theorem Wk.i2b (H : Wk l Z y code mx ret R n0 W V) {a : Int32} (hd : decode code pc = .ok (.i2b, 1)) (r : W h k n pc Ls (.int a :: st)) : W h k n (pc + 1) Ls (.int (a.toInt8.toInt32) :: st) :=
  H.step r fun A hx hby q => XS.i2b A hx rfl (hb hby hd) rfl q
theorem Wk.i2c (H : Wk l Z y code mx ret R n0 W V) {a : Int32} (hd : decode code pc = .ok (.i2c, 1)) (r : W h k n pc Ls (.int a :: st)) : W h k n (pc + 1) Ls (.int (a.toUInt32.toUInt16.toUInt32.toInt32) :: st) :=
  H.step r fun A hx hby q => XS.i2c A hx rfl (hb hby hd) rfl q
theorem Wk.i2s (H : Wk l Z y code mx ret R n0 W V) {a : Int32} (hd : decode code pc = .ok (.i2s, 1)) (r : W h k n pc Ls (.int a :: st)) : W h k n (pc + 1) Ls (.int (a.toInt16.toInt32) :: st) :=
  H.step r fun A hx hby q => XS.i2s A hx rfl (hb hby hd) rfl q
theorem Wk.i2l (H : Wk l Z y code mx ret R n0 W V) {a : Int32} (hd : decode code pc = .ok (.i2l, 1)) (r : W h k n pc Ls (.int a :: st)) : W h k n (pc + 1) Ls (.long (a.toInt64) :: st) :=
  H.step r fun A hx hby q => XS.i2l A hx rfl (hb hby hd) rfl q
theorem Wk.l2i (H : Wk l Z y code mx ret R n0 W V) {a : Int64} (hd : decode code pc = .ok (.l2i, 1)) (r : W h k n pc Ls (.long a :: st)) : W h k n (pc + 1) Ls (.int (a.toInt32) :: st) :=
  H.step r fun A hx hby q => XS.l2i A hx rfl (hb hby hd) rfl q
theorem Wk.ineg (H : Wk l Z y code mx ret R n0 W V) {a : Int32} (hd : decode code pc = .ok (.ineg, 1)) (r : W h k n pc Ls (.int a :: st)) : W h k n (pc + 1) Ls (.int (-a) :: st) :=
  H.step r fun A hx hby q => XS.ineg A hx rfl (hb hby hd) rfl q
theorem Wk.lcmp (H : Wk l Z y code mx ret R n0 W V) {a b : Int64} (hd : decode code pc = .ok (.lcmp, 1)) (r : W h k n pc Ls (.long b :: .long a :: st)) : W h k n (pc + 1) Ls (.int (lcmpW a b) :: st) :=
  H.step r fun A hx hby q => XS.lcmp A hx rfl (hb hby hd) rfl q
theorem Wk.dup (H : Wk l Z y code mx ret R n0 W V) {v : Value} (hd : decode code pc = .ok (.dup, 1)) (r : W h k n pc Ls (v :: st)) (hc : v.category = 1) : W h k n (pc + 1) Ls (v :: v :: st) :=
  H.step r fun A hx hby q => XS.dup A hx rfl (hb hby hd) rfl hc q
theorem Wk.pop (H : Wk l Z y code mx ret R n0 W V) {v : Value} (hd : decode code pc = .ok (.pop, 1)) (r : W h k n pc Ls (v :: st)) (hc : v.category = 1) : W h k n (pc + 1) Ls (st) :=
  H.step r fun A hx hby q => XS.pop A hx rfl (hb hby hd) rfl hc q
theorem Wk.dupX1 (H : Wk l Z y code mx ret R n0 W V) {v w : Value} (hd : decode code pc = .ok (.dup_x1, 1)) (r : W h k n pc Ls (v :: w :: st)) (hc : v.category = 1) (hc2 : w.category = 1) : W h k n (pc + 1) Ls (v :: w :: v :: st) :=
  H.step r fun A hx hby q => XS.dupX1 A hx rfl (hb hby hd) rfl hc hc2 q
theorem Wk.istoreN (H : Wk l Z y code mx ret R n0 W V) {i : Fin 4} {v : Int32} (hd : decode code pc = .ok (.istore_n i, 1)) (r : W h k n pc Ls (.int v :: st)) (hl : storeLocals Ls i.val (.int v) = some Ls') : W h k n (pc + 1) Ls' (st) :=
  H.step r fun A hx hby q => XS.istoreN A hx rfl (hb hby hd) rfl hl q
theorem Wk.istore (H : Wk l Z y code mx ret R n0 W V) {i : Nat} {v : Int32} (hd : decode code pc = .ok (.istore i, 2)) (r : W h k n pc Ls (.int v :: st)) (hl : storeLocals Ls i (.int v) = some Ls') : W h k n (pc + 2) Ls' (st) :=
  H.step r fun A hx hby q => XS.istore A hx rfl (hb hby hd) rfl hl q
theorem Wk.lstoreN (H : Wk l Z y code mx ret R n0 W V) {i : Fin 4} {v : Int64} (hd : decode code pc = .ok (.lstore_n i, 1)) (r : W h k n pc Ls (.long v :: st)) (hl : storeLocals Ls i.val (.long v) = some Ls') : W h k n (pc + 1) Ls' (st) :=
  H.step r fun A hx hby q => XS.lstoreN A hx rfl (hb hby hd) rfl hl q
theorem Wk.lstore (H : Wk l Z y code mx ret R n0 W V) {i : Nat} {v : Int64} (hd : decode code pc = .ok (.lstore i, 2)) (r : W h k n pc Ls (.long v :: st)) (hl : storeLocals Ls i (.long v) = some Ls') : W h k n (pc + 2) Ls' (st) :=
  H.step r fun A hx hby q => XS.lstore A hx rfl (hb hby hd) rfl hl q
theorem Wk.astoreN (H : Wk l Z y code mx ret R n0 W V) {i : Fin 4} {v : Value} (hd : decode code pc = .ok (.astore_n i, 1)) (r : W h k n pc Ls (v :: st)) (hv : v.isRef = true) (hl : storeLocals Ls i.val v = some Ls') : W h k n (pc + 1) Ls' (st) :=
  H.step r fun A hx hby q => XS.astoreN A hx rfl (hb hby hd) rfl hv hl q
theorem Wk.astore (H : Wk l Z y code mx ret R n0 W V) {i : Nat} {v : Value} (hd : decode code pc = .ok (.astore i, 2)) (r : W h k n pc Ls (v :: st)) (hv : v.isRef = true) (hl : storeLocals Ls i v = some Ls') : W h k n (pc + 2) Ls' (st) :=
  H.step r fun A hx hby q => XS.astore A hx rfl (hb hby hd) rfl hv hl q
theorem Wk.istoreNS (H : Wk l Z y code mx ret R n0 W V) {i : Fin 4} {v : Int32} {o : Slot} (hd : decode code pc = .ok (.istore_n i, 1)) (r : W h k n pc Ls (.int v :: st)) (hold : Ls[i.val]? = some o) (ho : One o) : W h k n (pc + 1) (Ls.setIfInBounds i.val (.val (.int v))) st :=
  H.step r fun A hx hby q => XS.istoreNS A hx rfl (hb hby hd) rfl hold ho q
theorem Wk.istoreS (H : Wk l Z y code mx ret R n0 W V) {i : Nat} {v : Int32} {o : Slot} (hd : decode code pc = .ok (.istore i, 2)) (r : W h k n pc Ls (.int v :: st)) (hold : Ls[i]? = some o) (ho : One o) : W h k n (pc + 2) (Ls.setIfInBounds i (.val (.int v))) st :=
  H.step r fun A hx hby q => XS.istoreS A hx rfl (hb hby hd) rfl hold ho q
theorem Wk.iinc (H : Wk l Z y code mx ret R n0 W V) {i : Nat} {cst : Int} {v z : Int32} (hd : decode code pc = .ok (.iinc i cst, 3)) (r : W h k n pc Ls (st)) (hz : v + Int32.ofInt cst = z) (hl : Ls[i]? = some (.val (.int v))) (hl' : storeLocals Ls i (.int z) = some Ls') : W h k n (pc + 3) Ls' (st) :=
  H.step r fun A hx hby q => XS.iinc A hx rfl (hb hby hd) hl (hz ▸ hl') q
theorem Wk.goto (H : Wk l Z y code mx ret R n0 W V) {o : Int} (hd : decode code pc = .ok (.goto o, 3)) (r : W h k n pc Ls st) (ho : 0 ≤ (pc : Int) + o) (hp : ((pc : Int) + o).toNat = pc') : W h k n pc' Ls st :=
  H.step r fun A hx hby q => XS.goto A hx rfl rfl (hb hby hd) ho hp q
theorem Wk.ifYes (H : Wk l Z y code mx ret R n0 W V) {cd : ClassFile.Cond} {a : Int32} {o : Int} (hd : decode code pc = .ok (.ifCond cd o, 3)) (r : W h k n pc Ls (.int a :: st)) (ho : 0 ≤ (pc : Int) + o) (hp : ((pc : Int) + o).toNat = pc') (hc : if_icmp.holds cd a 0 = true) : W h k n pc' Ls st :=
  H.step r fun A hx hby q => XS.ifYes A hx rfl rfl (hb hby hd) rfl ((if0 cd a).trans hc) ho hp q
theorem Wk.ifNo (H : Wk l Z y code mx ret R n0 W V) {cd : ClassFile.Cond} {a : Int32} {o : Int} (hd : decode code pc = .ok (.ifCond cd o, 3)) (r : W h k n pc Ls (.int a :: st)) (hc : if_icmp.holds cd a 0 = false) : W h k n (pc + 3) Ls st :=
  H.step r fun A hx hby q => XS.ifNo A hx rfl (hb hby hd) rfl ((if0 cd a).trans hc) q
theorem Wk.icmpYes (H : Wk l Z y code mx ret R n0 W V) {cd : ClassFile.Cond} {a b : Int32} {o : Int} (hd : decode code pc = .ok (.if_icmp cd o, 3)) (r : W h k n pc Ls (.int b :: .int a :: st)) (ho : 0 ≤ (pc : Int) + o) (hp : ((pc : Int) + o).toNat = pc') (hc : if_icmp.holds cd a b = true) : W h k n pc' Ls st :=
  H.step r fun A hx hby q => XS.icmpYes A hx rfl rfl (hb hby hd) rfl hc ho hp q
theorem Wk.icmpNo (H : Wk l Z y code mx ret R n0 W V) {cd : ClassFile.Cond} {a b : Int32} {o : Int} (hd : decode code pc = .ok (.if_icmp cd o, 3)) (r : W h k n pc Ls (.int b :: .int a :: st)) (hc : if_icmp.holds cd a b = false) : W h k n (pc + 3) Ls st :=
  H.step r fun A hx hby q => XS.icmpNo A hx rfl (hb hby hd) rfl hc q
theorem Wk.ifnullYes (H : Wk l Z y code mx ret R n0 W V) {o : Int} (hd : decode code pc = .ok (.ifnull o, 3)) (r : W h k n pc Ls (.null :: st)) (ho : 0 ≤ (pc : Int) + o) (hp : ((pc : Int) + o).toNat = pc') : W h k n pc' Ls st :=
  H.step r fun A hx hby q => XS.ifnullYes A hx rfl rfl (hb hby hd) rfl ho hp q
theorem Wk.ifnullNo (H : Wk l Z y code mx ret R n0 W V) {a : Addr} {o : Int} (hd : decode code pc = .ok (.ifnull o, 3)) (r : W h k n pc Ls (.ref a :: st)) : W h k n (pc + 3) Ls st :=
  H.step r fun A hx hby q => XS.ifnullNo A hx rfl (hb hby hd) rfl q
theorem Wk.ifnonnullYes (H : Wk l Z y code mx ret R n0 W V) {a : Addr} {o : Int} (hd : decode code pc = .ok (.ifnonnull o, 3)) (r : W h k n pc Ls (.ref a :: st)) (ho : 0 ≤ (pc : Int) + o) (hp : ((pc : Int) + o).toNat = pc') : W h k n pc' Ls st :=
  H.step r fun A hx hby q => XS.ifnonnullYes A hx rfl rfl (hb hby hd) rfl ho hp q
theorem Wk.ifnonnullNo (H : Wk l Z y code mx ret R n0 W V) {o : Int} (hd : decode code pc = .ok (.ifnonnull o, 3)) (r : W h k n pc Ls (.null :: st)) : W h k n (pc + 3) Ls st :=
  H.step r fun A hx hby q => XS.ifnonnullNo A hx rfl (hb hby hd) rfl q
theorem Wk.acmpYes (H : Wk l Z y code mx ret R n0 W V) {cd : ClassFile.ACond} {a b : Value} {o : Int} (hd : decode code pc = .ok (.if_acmp cd o, 3)) (r : W h k n pc Ls (b :: a :: st)) (ho : 0 ≤ (pc : Int) + o) (hp : ((pc : Int) + o).toNat = pc') (ha : a.isRef = true) (hb' : b.isRef = true) (hc : XT.acmp cd a b = true) : W h k n pc' Ls st :=
  H.step r fun A hx hby q => XT.acmpYes A hx rfl rfl (hb hby hd) rfl ha hb' hc ho hp q
theorem Wk.acmpNo (H : Wk l Z y code mx ret R n0 W V) {cd : ClassFile.ACond} {a b : Value} {o : Int} (hd : decode code pc = .ok (.if_acmp cd o, 3)) (r : W h k n pc Ls (b :: a :: st)) (ha : a.isRef = true) (hb' : b.isRef = true) (hc : XT.acmp cd a b = false) : W h k n (pc + 3) Ls st :=
  H.step r fun A hx hby q => XT.acmpNo A hx rfl (hb hby hd) rfl ha hb' hc q
theorem Wk.lookHit (H : Wk l Z y code mx ret R n0 W V) {z : Int32} {dflt : Int} {pairs : Array (Int × Int)} {len : Nat} {a off : Int} (hsorted : (pairs.toList.zip (pairs.toList.drop 1)).all (fun (a, next) => a.1 < next.1) = true) (hfind : pairs.find? (·.1 == z.toInt) = some (a, off)) (ho : 0 ≤ (pc : Int) + off) (hp : ((pc : Int) + off).toNat = pc') (hd : decode code pc = .ok (.lookupswitch dflt pairs, len)) (r : W h k n pc Ls (.int z :: st)) : W h k n pc' Ls st := by
  subst hp
  exact H.stepX r fun X hx hby hml hown hZ eT => ⟨_, X, eT, fun t q => X.lookupswitchHit hx (g := mkF _ pc Ls (.int z :: st)) rfl rfl (hb hby hd) hsorted hfind ho t q⟩
theorem Wk.lookMiss (H : Wk l Z y code mx ret R n0 W V) {z : Int32} {dflt : Int} {pairs : Array (Int × Int)} {len : Nat} (hsorted : (pairs.toList.zip (pairs.toList.drop 1)).all (fun (a, next) => a.1 < next.1) = true) (hfind : pairs.find? (·.1 == z.toInt) = none) (ho : 0 ≤ (pc : Int) + dflt) (hp : ((pc : Int) + dflt).toNat = pc') (hd : decode code pc = .ok (.lookupswitch dflt pairs, len)) (r : W h k n pc Ls (.int z :: st)) : W h k n pc' Ls st := by
  subst hp
  exact H.stepX r fun X hx hby hml hown hZ eT => ⟨_, X, eT, fun t q => X.lookupswitchMiss hx (g := mkF _ pc Ls (.int z :: st)) rfl rfl (hb hby hd) hsorted hfind ho t q⟩
theorem Wk.getS (H : Wk l Z y code mx ret R n0 W V) {i : Nat} {O nm d : String} {v : Value} (w : (Jvm.Cond.fieldLink y.cls i O nm d).before a0 Z = true) (F : Sta Z h O nm d v) (hd : decode code pc = .ok (.getstatic i, 3)) (r : W h k n pc Ls st) : W h k n (pc + 3) Ls (v :: st) :=
  H.stepX r fun X hx hby hml hown hZ eT => RoadKit.getS X hx hZ (host := "") hown w Via.refl eT F (g := mkF _ pc Ls st) rfl (hb hby hd)
theorem Wk.instY (H : Wk l Z y code mx ret R n0 W V) {i : Nat} {K : String} {a : Addr} (w : (Jvm.Cond.classLink y.cls i K).before a0 Z = true) (F : Ins Z h a K true) (hd : decode code pc = .ok (.instanceof i, 3)) (r : W h k n pc Ls (.ref a :: st)) : W h k n (pc + 3) Ls (.int 1 :: st) :=
  H.stepX r fun X hx hby hml hown hZ eT => RoadKit.instY X hx hZ hown w eT F (g := mkF _ pc Ls (.ref a :: st)) rfl rfl (hb hby hd)
theorem Wk.instNo (H : Wk l Z y code mx ret R n0 W V) {i : Nat} {K C : String} {a : Addr} (w : (Jvm.Cond.classLink y.cls i K).before a0 Z = true) (E : Exa Z h a C) (F : ∃ c t, Z.vm.findClass C = some c ∧ Z.vm.findClass K = some t ∧ Z.vm.assignable c t = false) (hd : decode code pc = .ok (.instanceof i, 3)) (r : W h k n pc Ls (.ref a :: st)) : W h k n (pc + 3) Ls (.int 0 :: st) :=
  H.stepX r fun X hx hby hml hown hZ eT => RoadKit.instNo X hx hZ hown w eT E F (g := mkF _ pc Ls (.ref a :: st)) rfl rfl (hb hby hd)
theorem Wk.instNull (H : Wk l Z y code mx ret R n0 W V) {i : Nat} (hd : decode code pc = .ok (.instanceof i, 3)) (r : W h k n pc Ls (.null :: st)) : W h k n (pc + 3) Ls (.int 0 :: st) :=
  H.stepX r fun X hx hby hml hown hZ eT => ⟨_, X, eT, X.instanceofNull hx (g := mkF _ pc Ls (.null :: st)) rfl rfl (hb hby hd)⟩
theorem Wk.castY (H : Wk l Z y code mx ret R n0 W V) {i : Nat} {K : String} {a : Addr} (w : (Jvm.Cond.classLink y.cls i K).before a0 Z = true) (F : Ins Z h a K true) (hd : decode code pc = .ok (.checkcast i, 3)) (r : W h k n pc Ls (.ref a :: st)) : W h k n (pc + 3) Ls (.ref a :: st) :=
  H.stepX r fun X hx hby hml hown hZ eT => RoadKit.castY X hx hZ hown w eT F (g := mkF _ pc Ls (.ref a :: st)) rfl rfl (hb hby hd)
theorem Wk.castNull (H : Wk l Z y code mx ret R n0 W V) {i : Nat} (hd : decode code pc = .ok (.checkcast i, 3)) (r : W h k n pc Ls (.null :: st)) : W h k n (pc + 3) Ls (.null :: st) :=
  H.stepX r fun X hx hby hml hown hZ eT => ⟨_, X, eT, X.checkcastNull hx (g := mkF _ pc Ls (.null :: st)) rfl rfl (hb hby hd)⟩
theorem Wk.ldcInt (H : Wk l Z y code mx ret R n0 W V) {i : Nat} {v : Int32} (hd : decode code pc = .ok (.ldc i, 2)) (r : W h k n pc Ls st) (w : (Jvm.Cond.constant y.cls i v).before a0 Z = true) : W h k n (pc + 2) Ls (.int v :: st) :=
  H.stepX r fun X hx hby hml hown hZ eT => ⟨_, X, eT, X.ldcInt hx hown (mvT hZ w) (g := mkF _ pc Ls st) rfl (hb hby hd)⟩
theorem Wk.ldcWInt (H : Wk l Z y code mx ret R n0 W V) {i : Nat} {v : Int32} (hd : decode code pc = .ok (.ldc_w i, 3)) (r : W h k n pc Ls st) (w : (Jvm.Cond.constant y.cls i v).before a0 Z = true) : W h k n (pc + 3) Ls (.int v :: st) :=
  H.stepX r fun {p e s m args below meth c T locs} X hx hby hml hown hZ eT => ⟨T, X, eT, fun t q => by
    obtain ⟨kc, cf, bytes, hk, hcf, hcp, hb'⟩ := Cond.constant_spec hown (mvT (args := args) hZ w)
    obtain ⟨k', hk', he⟩ := X.warmed.alike.2.2 _ _ hk
    have hdg := hb hby hd
    show Steps p.tables e below (T.setTop (mkF m pc Ls st)) t
    jvm_step X.here [hx, hdg, ldc_w.wp_int (s := T) (f := mkF m pc Ls st) X.here.top hk' (by rw [he]; exact hcf) hcp, hb']
    exact q⟩
theorem Wk.ldcFloat (H : Wk l Z y code mx ret R n0 W V) {i : Nat} {v : UInt32} (w : (Jvm.Cond.constantFloat y.cls i v).before a0 Z = true) (hd : decode code pc = .ok (.ldc i, 2)) (r : W h k n pc Ls st) : W h k n (pc + 2) Ls (.float v :: st) :=
  H.stepX r fun X hx hby hml hown hZ eT => ⟨_, X, eT, X.ldcFloatC hx hown (mvT hZ w) (g := mkF _ pc Ls st) rfl (hb hby hd)⟩
theorem Wk.ldcLong (H : Wk l Z y code mx ret R n0 W V) {i : Nat} {v : Int64} (hd : decode code pc = .ok (.ldc2_w i, 3)) (r : W h k n pc Ls st) (w : (Jvm.Cond.constantLong y.cls i v).before a0 Z = true) : W h k n (pc + 3) Ls (.long v :: st) :=
  H.stepX r fun X hx hby hml hown hZ eT => ⟨_, X, eT, X.ldc2Long hx hown (mvT hZ w) (g := mkF _ pc Ls st) rfl (hb hby hd)⟩
theorem Wk.getF (H : Wk l Z y code mx ret R n0 W V) {i : Nat} {R0 O nm d host : String} {a : Addr} {v : Value} (w : (Jvm.Cond.fieldLink y.cls i R0 nm d).before a0 Z = true ∨ (Jvm.Cond.fieldLinkNest y.cls i R0 nm d host).before a0 Z = true) (via : Via Z R0 O nm d) (F : Fld Z h a O nm d v) (hd : decode code pc = .ok (.getfield i, 3)) (r : W h k n pc Ls (.ref a :: st)) : W h k n (pc + 3) Ls (v :: st) :=
  H.stepX r fun X hx hby hml hown hZ eT => RoadKit.getF X hx hZ hown w via eT F (g := mkF _ pc Ls (.ref a :: st)) rfl rfl (hb hby hd)
theorem Wk.getF' (H : Wk l Z y code mx ret R n0 W V) {i : Nat} {O nm d : String} {a : Addr} {v : Value} (w : (Jvm.Cond.fieldLink y.cls i O nm d).before a0 Z = true) (F : Fld Z h a O nm d v) (hd : decode code pc = .ok (.getfield i, 3)) (r : W h k n pc Ls (.ref a :: st)) : W h k n (pc + 3) Ls (v :: st) :=
  H.getF (host := "") (Or.inl w) Via.refl F hd r
theorem Wk.putF (H : Wk l Z y code mx ret R n0 W V) {i kk : Nat} {R0 O nm d host C : String} {ty : FieldType} {a : Addr} {v old : Value} (w : (Jvm.Cond.fieldLink y.cls i R0 nm d).before a0 Z = true ∨ (Jvm.Cond.fieldLinkNest y.cls i R0 nm d host).before a0 Z = true) (via : Via Z R0 O nm d) (F : Fld Z h a O nm d old) (E : Exa Z h a C) (L : (Jvm.Cond.lays C O nm d).before a0 Z = true ∨ ((Jvm.Cond.laysFinal C O nm d).before a0 Z = true ∧ y.cls = O ∧ y.name = "<init>")) (wi : (Jvm.Cond.instantiable C kk).before a0 Z = true)
    (hty : parseFieldDescriptor d = some ty) (hn : narrow ty v = v) (hf : fits ty v = true) (hn0 : n0 ≤ a) (hd : decode code pc = .ok (.putfield i, 3)) (r : W h k n pc Ls (v :: .ref a :: st)) : ∃ h', Wr h h' a (Jvm.RoadKit.slotOf Z O nm d) v ∧ W h' k n (pc + 3) Ls st := by
  obtain ⟨p, e, s, m, args, below, meth, c, S0, hx, hby, hml, hown, hZ, hnm, hret, hlk, rfl, rfl⟩ := H
  obtain ⟨T, locs, X, eh, N, sp⟩ := r
  obtain ⟨T', h', X', e', W', q⟩ := RoadKit.putF X hx hZ hown w via eh F E (L.imp id fun u => ⟨u.1, u.2.1, by rw [hnm]; exact u.2.2⟩) wi hty hn hf (g := mkF m pc Ls (v :: .ref a :: st)) rfl rfl (hb hby hd)
  exact ⟨h', W', T', _, X', e', Fr.snoc X' N hn0, fun t u => sp t (q t u)⟩
theorem Wk.newO (H : Wk l Z y code mx ret R n0 W V) {i q : Nat} {C : String} (w : (Jvm.Cond.classLink y.cls i C).before a0 Z = true) (wi : (Jvm.Cond.instantiable C q).before a0 Z = true) (wz : (Jvm.Cond.initialized C).before a0 Z = true) (hc : k + 1 ≤ R.cells) (hl : n + q ≤ R.slots) (hd : decode code pc = .ok (.new i, 3)) (r : W h k n pc Ls st) :
    ∃ h' a, a = h.size ∧ Ext h h' ∧ Exa Z h' a C ∧ (∀ {O nm d : String} {ty : FieldType}, Laid Z a0 C O nm d → parseFieldDescriptor d = some ty → Fld Z h' a O nm d (defaultValue ty)) ∧ (∃ cell : Cell, h'[a]? = some cell ∧ cell.vm = .none ∧ cell.monitor = {}) ∧ W h' (k + 1) (n + q) (pc + 3) Ls (.ref a :: st) := by
  obtain ⟨p, e, s, m, args, below, meth, c, S0, hx, hby, hml, hown, hZ, hnm, hret, hlk, rfl, rfl⟩ := H
  obtain ⟨T, locs, X, eh, N, sp⟩ := r
  obtain ⟨T', h', X', e', E', A', D', U', q'⟩ := RoadKit.newO X hx hZ hown w wi wz eh (g := mkF m pc Ls st) rfl (hb hby hd) hc hl
  exact ⟨h', _, rfl, E', A', D', U', T', _, X', e', N, fun t u => sp t (q' t u)⟩
theorem Wk.newP (H : Wk l Z y code mx ret R n0 W V) {aty : ArrayType} {ty : FieldType} {z : Int32} {cap : Nat} (hty : newarray.typeOf aty = ty) (w : (Jvm.Cond.arrayClass ty).before a0 Z = true) (hn : ¬ z < 0) (hcap : z.toNatClampNeg ≤ cap) (hb8 : cap * 8 ≤ 536870912) (hc : k + 1 ≤ R.cells) (hl : n + cap ≤ R.slots) (hd : decode code pc = .ok (.newarray aty, 2)) (r : W h k n pc Ls (.int z :: st)) :
    ∃ h' a cA, a = h.size ∧ Ext h h' ∧ Arr Z h' a (newA cA ty z) ty ∧ W h' (k + 1) (n + cap) (pc + 2) Ls (.ref a :: st) := by
  subst hty
  obtain ⟨p, e, s, m, args, below, meth, c, S0, hx, hby, hml, hown, hZ, hnm, hret, hlk, rfl, rfl⟩ := H
  obtain ⟨T, locs, X, eh, N, sp⟩ := r
  obtain ⟨T', h', cA, X', e', E', A', q'⟩ := RoadKit.newP X hx hZ w eh (g := mkF m pc Ls (.int z :: st)) rfl (hb hby hd) rfl hn hcap hb8 hc hl
  exact ⟨h', _, cA, rfl, E', A', T', _, X', e', N, fun t u => sp t (q' t u)⟩
theorem Wk.arrLen (H : Wk l Z y code mx ret R n0 W V) {a : Addr} {cl : Cell} {ty : FieldType} {z : Int32} (A : Arr Z h a cl ty) (hz : cl.slots.size.toInt32 = z) (hd : decode code pc = .ok (.arraylength, 1)) (r : W h k n pc Ls (.ref a :: st)) : W h k n (pc + 1) Ls (.int z :: st) := by
  subst hz
  exact H.stepX r fun X hx hby hml hown hZ eT => ⟨_, X, eT, X.arraylength hx (by rw [eT]; exact A.1) (State.isArrayOf_alike hZ.alike A.2.1) (g := mkF _ pc Ls (.ref a :: st)) rfl rfl (hb hby hd)⟩
theorem Wk.iaload (H : Wk l Z y code mx ret R n0 W V) {a : Addr} {cl : Cell} {j : Int32} {v : Value} (A : Arr Z h a cl .int) (hin : ¬ (j < 0 ∨ cl.slots.size ≤ j.toNatClampNeg)) (hv : cl.slots[j.toNatClampNeg]? = some v) (hd : decode code pc = .ok (.iaload, 1)) (r : W h k n pc Ls (.int j :: .ref a :: st)) : W h k n (pc + 1) Ls (v :: st) :=
  H.stepX r fun X hx hby hml hown hZ eT => ⟨_, X, eT, X.iaload hx (by rw [eT]; exact A.1) (State.isArrayOf_alike hZ.alike A.2.1) A.2.2 hin hv (g := mkF _ pc Ls (.int j :: .ref a :: st)) rfl rfl (hb hby hd)⟩
theorem Wk.laload (H : Wk l Z y code mx ret R n0 W V) {a : Addr} {cl : Cell} {j : Int32} {v : Value} (A : Arr Z h a cl .long) (hin : ¬ (j < 0 ∨ cl.slots.size ≤ j.toNatClampNeg)) (hv : cl.slots[j.toNatClampNeg]? = some v) (hd : decode code pc = .ok (.laload, 1)) (r : W h k n pc Ls (.int j :: .ref a :: st)) : W h k n (pc + 1) Ls (v :: st) :=
  H.stepX r fun X hx hby hml hown hZ eT => ⟨_, X, eT, X.laload hx (by rw [eT]; exact A.1) (State.isArrayOf_alike hZ.alike A.2.1) A.2.2 hin hv (g := mkF _ pc Ls (.int j :: .ref a :: st)) rfl rfl (hb hby hd)⟩
theorem Wk.caload (H : Wk l Z y code mx ret R n0 W V) {a : Addr} {cl : Cell} {j : Int32} {v : Value} (A : Arr Z h a cl .char) (hin : ¬ (j < 0 ∨ cl.slots.size ≤ j.toNatClampNeg)) (hv : cl.slots[j.toNatClampNeg]? = some v) (hd : decode code pc = .ok (.caload, 1)) (r : W h k n pc Ls (.int j :: .ref a :: st)) : W h k n (pc + 1) Ls (v :: st) :=
  H.stepX r fun X hx hby hml hown hZ eT => ⟨_, X, eT, X.caload hx (by rw [eT]; exact A.1) (State.isArrayOf_alike hZ.alike A.2.1) A.2.2 hin hv (g := mkF _ pc Ls (.int j :: .ref a :: st)) rfl rfl (hb hby hd)⟩
theorem Wk.baload (H : Wk l Z y code mx ret R n0 W V) {a : Addr} {cl : Cell} {j : Int32} {v : Value} (A : Arr Z h a cl .byte) (hin : ¬ (j < 0 ∨ cl.slots.size ≤ j.toNatClampNeg)) (hv : cl.slots[j.toNatClampNeg]? = some v) (hd : decode code pc = .ok (.baload, 1)) (r : W h k n pc Ls (.int j :: .ref a :: st)) : W h k n (pc + 1) Ls (v :: st) :=
  H.stepX r fun X hx hby hml hown hZ eT => ⟨_, X, eT, X.baloadBytes hx (by rw [eT]; exact A.1) (State.isArrayOf_alike hZ.alike A.2.1) A.2.2 hin hv (g := mkF _ pc Ls (.int j :: .ref a :: st)) rfl rfl (hb hby hd)⟩
theorem Wk.aaload (H : Wk l Z y code mx ret R n0 W V) {a : Addr} {cl : Cell} {ty : FieldType} {j : Int32} {v : Value} (A : Arr Z h a cl ty) (hty : ty.isReference = true) (hin : ¬ (j < 0 ∨ cl.slots.size ≤ j.toNatClampNeg)) (hv : cl.slots[j.toNatClampNeg]? = some v) (hd : decode code pc = .ok (.aaload, 1)) (r : W h k n pc Ls (.int j :: .ref a :: st)) : W h k n (pc + 1) Ls (v :: st) :=
  H.stepX r fun X hx hby hml hown hZ eT => ⟨_, X, eT, X.aaload hx (by rw [eT]; exact A.1) (State.isArrayOf_alike hZ.alike A.2.1) hty A.2.2 hin hv (g := mkF _ pc Ls (.int j :: .ref a :: st)) rfl rfl (hb hby hd)⟩
theorem Wk.stI (H : Wk l Z y code mx ret R n0 W V) {a : Addr} {cl : Cell} {j : Int32} {x : Int32} (A : Arr Z h a cl .int) (hin : ¬ (j < 0 ∨ cl.slots.size ≤ j.toNatClampNeg)) (hn0 : n0 ≤ a) (hd : decode code pc = .ok (.iastore, 1)) (r : W h k n pc Ls (.int x :: .int j :: .ref a :: st)) : ∃ h', Wr h h' a j.toNatClampNeg (.int x) ∧ W h' k n (pc + 1) Ls st := by
  obtain ⟨p, e, s, m, args, below, meth, c, S0, hx, hby, hml, hown, hZ, hnm, hret, hlk, rfl, rfl⟩ := H
  obtain ⟨T, locs, X, eh, N, sp⟩ := r
  obtain ⟨T', h', X', e', W', q⟩ := RoadKit.stI X hx hZ eh A hin (g := mkF m pc Ls (.int x :: .int j :: .ref a :: st)) rfl rfl (hb hby hd)
  exact ⟨h', W', T', _, X', e', Fr.snoc X' N hn0, fun t u => sp t (q t u)⟩
theorem Wk.stJ (H : Wk l Z y code mx ret R n0 W V) {a : Addr} {cl : Cell} {j : Int32} {x : Int64} (A : Arr Z h a cl .long) (hin : ¬ (j < 0 ∨ cl.slots.size ≤ j.toNatClampNeg)) (hn0 : n0 ≤ a) (hd : decode code pc = .ok (.lastore, 1)) (r : W h k n pc Ls (.long x :: .int j :: .ref a :: st)) : ∃ h', Wr h h' a j.toNatClampNeg (.long x) ∧ W h' k n (pc + 1) Ls st := by
  obtain ⟨p, e, s, m, args, below, meth, c, S0, hx, hby, hml, hown, hZ, hnm, hret, hlk, rfl, rfl⟩ := H
  obtain ⟨T, locs, X, eh, N, sp⟩ := r
  obtain ⟨T', h', X', e', W', q⟩ := RoadKit.stJ X hx hZ eh A hin (g := mkF m pc Ls (.long x :: .int j :: .ref a :: st)) rfl rfl (hb hby hd)
  exact ⟨h', W', T', _, X', e', Fr.snoc X' N hn0, fun t u => sp t (q t u)⟩
theorem Wk.stC (H : Wk l Z y code mx ret R n0 W V) {a : Addr} {cl : Cell} {j : Int32} {x : Int32} (A : Arr Z h a cl .char) (hin : ¬ (j < 0 ∨ cl.slots.size ≤ j.toNatClampNeg)) (hn0 : n0 ≤ a) (hd : decode code pc = .ok (.castore, 1)) (r : W h k n pc Ls (.int x :: .int j :: .ref a :: st)) : ∃ h', Wr h h' a j.toNatClampNeg (.int (nar .char x)) ∧ W h' k n (pc + 1) Ls st := by
  obtain ⟨p, e, s, m, args, below, meth, c, S0, hx, hby, hml, hown, hZ, hnm, hret, hlk, rfl, rfl⟩ := H
  obtain ⟨T, locs, X, eh, N, sp⟩ := r
  obtain ⟨T', h', X', e', W', q⟩ := RoadKit.stC X hx hZ eh A hin (g := mkF m pc Ls (.int x :: .int j :: .ref a :: st)) rfl rfl (hb hby hd)
  exact ⟨h', W', T', _, X', e', Fr.snoc X' N hn0, fun t u => sp t (q t u)⟩
theorem Wk.stB (H : Wk l Z y code mx ret R n0 W V) {a : Addr} {cl : Cell} {j : Int32} {x : Int32} (A : Arr Z h a cl .byte) (hin : ¬ (j < 0 ∨ cl.slots.size ≤ j.toNatClampNeg)) (hn0 : n0 ≤ a) (hd : decode code pc = .ok (.bastore, 1)) (r : W h k n pc Ls (.int x :: .int j :: .ref a :: st)) : ∃ h', Wr h h' a j.toNatClampNeg (.int (nar .byte x)) ∧ W h' k n (pc + 1) Ls st := by
  obtain ⟨p, e, s, m, args, below, meth, c, S0, hx, hby, hml, hown, hZ, hnm, hret, hlk, rfl, rfl⟩ := H
  obtain ⟨T, locs, X, eh, N, sp⟩ := r
  obtain ⟨T', h', X', e', W', q⟩ := RoadKit.stB X hx hZ eh A hin (g := mkF m pc Ls (.int x :: .int j :: .ref a :: st)) rfl rfl (hb hby hd)
  exact ⟨h', W', T', _, X', e', Fr.snoc X' N hn0, fun t u => sp t (q t u)⟩
theorem Wk.initO (H : Wk l Z y code mx ret R n0 W V) {i w : Nat} {a : Addr} (w1 : (Jvm.Cond.methodLink y.cls i Lib.objectInit).before a0 Z = true) (w2 : (Jvm.Cond.instanceMethod Lib.objectInit).before a0 Z = true) (w3 : (Jvm.Cond.code Lib.objectInit ⟨#[0xb1]⟩ 1 none).before a0 Z = true) (hsz : Ls.size = mx) (hf : 1 ≤ R.frames) (hw : (st.map fun v => v.category).sum ≤ w) (hl : w + 12 ≤ R.locals) (hd : decode code pc = .ok (.invokespecial i, 3)) (r : W h k n pc Ls (.ref a :: st)) : W h k n (pc + 3) Ls st :=
  H.stepX r fun X hx hby hml hown hZ eT => RoadKit.initO X hx hZ hown w1 w2 w3 eT (g := mkF _ pc Ls (.ref a :: st)) rfl (by rw [hml]; exact hsz) rfl (hb hby hd) hf (by show 2 * 0 + _ ≤ _; omega) hl
variable {y' : MethodName} {bytes' : ByteArray} {mx' : Nat} {ret' : Option FieldType} {rm' : Room} {as' : Array Value} {Q : Option Value → Heap → Prop} {i w : Nat} {ps : List FieldType} {rt : Option FieldType} {argsL rest : List Value}
theorem Wk.callS (H : Wk l Z y code mx ret R n0 W V) (w1 : (Jvm.Cond.methodLink y.cls i y').before a0 Z = true) (w2 : (Jvm.Cond.static y').before a0 Z = true) (w3 : (Jvm.Cond.initialized y'.cls).before a0 Z = true) (w4 : (Jvm.Cond.code y' bytes' mx' ret').before a0 Z = true) (hy : y'.cls ≠ "java/lang/invoke/MethodHandle" ∧ y'.cls ≠ "java/lang/invoke/VarHandle")
    (hpd : parseMethodDescriptor y'.desc = some ⟨ps, rt⟩) (hf : rm'.frames + 1 ≤ R.frames) (hl : w + (mx' + 11) + rm'.locals ≤ R.locals) (hc : k + rm'.cells ≤ R.cells) (hn : n + rm'.slots ≤ R.slots) (hM : Ct l Z y' bytes' mx' ret' rm' n0 argsL.toArray h Q) (hlen : argsL.length = ps.length) (hsz : Ls.size = mx) (hw : (rest.map fun v => v.category).sum ≤ w) (hst : st = argsL.reverse ++ rest) (hd : decode code pc = .ok (.invokestatic i, 3)) (r : W h k n pc Ls st) :
    ∃ v h', Q v h' ∧ W h' (k + rm'.cells) (n + rm'.slots) (pc + 3) Ls (v.toList ++ rest) := by
  subst hst
  obtain ⟨p, e, s, m, args, below, meth, c, S0, hx, hby, hml, hown, hZ, hnm, hret, hlk, rfl, rfl⟩ := H
  obtain ⟨T, locs, X, eh, N, sp⟩ := r
  obtain ⟨v, _, ⟨T1, L1, k1, n1⟩, -, X1, ⟨Lc, hQ, g1, g2, g3⟩, st1⟩ := Jvm.LawKit.callS X hx (y := y') hown (mvT hZ w1) (mvT hZ w2) (mvT hZ w3) (mvT hZ w4) hy (backOf (W := w) (Q := fun v hh L => Q v hh ∧ Fr n0 L) (hM []) hZ w4 w3 hf hl) (g := mkF m pc Ls (argsL.reverse ++ rest)) rfl (by rw [hml]; exact hsz) (argsL := argsL) (rest := rest) (lenOf hpd hlen) rfl (by show 2 * 0 + _ ≤ _; omega) (hb hby hd) (fun _ _ => ⟨rfl, eh, hc, hn⟩)
  dsimp only [Pt.U, Pt.locs, Pt.cells, Pt.slots] at X1 g1 g2 g3 st1 hQ
  subst g1 g2 g3
  exact ⟨v, T1.heap, hQ.1, T1, _, X1, rfl, Fr.app N hQ.2, fun t u => sp t (st1 t u)⟩
theorem Wk.callI (H : Wk l Z y code mx ret R n0 W V) {a : Addr} (hi : y'.name = "<init>") (w1 : (Jvm.Cond.methodLink y.cls i y').before a0 Z = true) (w2 : (Jvm.Cond.instanceMethod y').before a0 Z = true) (w3 : (Jvm.Cond.initialized y'.cls).before a0 Z = true) (w4 : (Jvm.Cond.code y' bytes' mx' none).before a0 Z = true) (hy : y'.cls ≠ "java/lang/invoke/MethodHandle" ∧ y'.cls ≠ "java/lang/invoke/VarHandle")
    (hpd : parseMethodDescriptor y'.desc = some ⟨ps, rt⟩) (hf : rm'.frames + 1 ≤ R.frames) (hl : w + (mx' + 11) + rm'.locals ≤ R.locals) (hc : k + rm'.cells ≤ R.cells) (hn : n + rm'.slots ≤ R.slots) (hM : Ct l Z y' bytes' mx' none rm' n0 (.ref a :: argsL).toArray h Q) (hlen : argsL.length = ps.length) (hsz : Ls.size = mx) (hw : (rest.map fun v => v.category).sum ≤ w) (hst : st = argsL.reverse ++ .ref a :: rest) (hd : decode code pc = .ok (.invokespecial i, 3)) (r : W h k n pc Ls st) :
    ∃ v h', Q v h' ∧ W h' (k + rm'.cells) (n + rm'.slots) (pc + 3) Ls (v.toList ++ rest) := by
  subst hst
  obtain ⟨p, e, s, m, args, below, meth, c, S0, hx, hby, hml, hown, hZ, hnm, hret, hlk, rfl, rfl⟩ := H
  obtain ⟨T, locs, X, eh, N, sp⟩ := r
  obtain ⟨v, _, ⟨T1, L1, k1, n1⟩, -, X1, ⟨Lc, hQ, g1, g2, g3⟩, st1⟩ := X.specialBack hx (y := y') hi hown (mvT hZ w1) (mvT hZ w2) (mvT hZ w4) hy (backOf (W := w) (Q := fun v hh L => Q v hh ∧ Fr n0 L) (hM []) hZ w4 w3 hf hl) (g := mkF m pc Ls (argsL.reverse ++ .ref a :: rest)) rfl (by rw [hml]; exact hsz) (Steps.refl _) (a := a) (argsL := argsL) (rest := rest) (lenOf hpd hlen) rfl (by show 2 * 0 + _ ≤ _; omega) (hb hby hd) (fun _ _ => ⟨rfl, eh, hc, hn⟩)
  dsimp only [Pt.U, Pt.locs, Pt.cells, Pt.slots] at X1 g1 g2 g3 st1 hQ
  subst g1 g2 g3
  exact ⟨v, T1.heap, hQ.1, T1, _, X1, rfl, Fr.app N hQ.2, fun t u => sp t (st1.trans u)⟩
theorem Wk.callV (H : Wk l Z y code mx ret R n0 W V) {a : Addr} {C : String} {z' : MethodName} (w1 : (Jvm.Cond.methodLink y.cls i z').before a0 Z = true) (w2 : (Jvm.Cond.declares z').before a0 Z = true) (nf : NF Z a0 z') (w5 : (Jvm.Cond.selects C z' y').before a0 Z = true) (w6 : (Jvm.Cond.instanceMethod y').before a0 Z = true) (w3 : (Jvm.Cond.initialized y'.cls).before a0 Z = true) (w4 : (Jvm.Cond.code y' bytes' mx' ret').before a0 Z = true) (hy : z'.cls ≠ "java/lang/invoke/MethodHandle" ∧ z'.cls ≠ "java/lang/invoke/VarHandle")
    (hpd : parseMethodDescriptor z'.desc = some ⟨ps, rt⟩) (hf : rm'.frames + 1 ≤ R.frames) (hl : w + (mx' + 11) + rm'.locals ≤ R.locals) (hc : k + rm'.cells ≤ R.cells) (hn : n + rm'.slots ≤ R.slots) (E : Exa Z h a C) (hM : Ct l Z y' bytes' mx' ret' rm' n0 (.ref a :: argsL).toArray h Q) (hlen : argsL.length = ps.length) (hsz : Ls.size = mx) (hw : (rest.map fun v => v.category).sum ≤ w) (hst : st = argsL.reverse ++ .ref a :: rest) (hd : decode code pc = .ok (.invokevirtual i, 3)) (r : W h k n pc Ls st) :
    ∃ v h', Q v h' ∧ W h' (k + rm'.cells) (n + rm'.slots) (pc + 3) Ls (v.toList ++ rest) := by
  subst hst
  obtain ⟨p, e, s, m, args, below, meth, c, S0, hx, hby, hml, hown, hZ, hnm, hret, hlk, rfl, rfl⟩ := H
  obtain ⟨T, locs, X, eh, N, sp⟩ := r
  obtain ⟨cq, kq, qa, qb, qc⟩ := isOf (s := s) (T := T) hZ eh E
  obtain ⟨v, _, ⟨T1, L1, k1, n1⟩, -, X1, ⟨Lc, hQ, g1, g2, g3⟩, st1⟩ := X.virtualBack hx (y := z') (z := y') hown (mvT hZ w1) (mvT hZ w2) (nf.at hZ) (mvT hZ w5) (mvT hZ w6) hy (backOf (W := w) (Q := fun v hh L => Q v hh ∧ Fr n0 L) (hM []) hZ w4 w3 hf hl) qa qc (g := mkF m pc Ls (argsL.reverse ++ .ref a :: rest)) rfl (by rw [hml]; exact hsz) (Steps.refl _) (argsL := argsL) (rest := rest) (lenOf hpd hlen) rfl (by show 2 * 0 + _ ≤ _; omega) (hb hby hd) (fun _ _ => ⟨rfl, eh, hc, hn⟩)
  dsimp only [Pt.U, Pt.locs, Pt.cells, Pt.slots] at X1 g1 g2 g3 st1 hQ
  subst g1 g2 g3
  exact ⟨v, T1.heap, hQ.1, T1, _, X1, rfl, Fr.app N hQ.2, fun t u => sp t (st1.trans u)⟩
theorem Wk.callSP (H : Wk l Z y code mx ret R n0 W V) {v0 : Option Value} (w1 : (Jvm.Cond.methodLink y.cls i y').before a0 Z = true) (w2 : (Jvm.Cond.static y').before a0 Z = true) (w3 : (Jvm.Cond.initialized y'.cls).before a0 Z = true) (w4 : (Jvm.Cond.code y' bytes' mx' ret').before a0 Z = true) (hy : y'.cls ≠ "java/lang/invoke/MethodHandle" ∧ y'.cls ≠ "java/lang/invoke/VarHandle")
    (hpd : parseMethodDescriptor y'.desc = some ⟨ps, rt⟩) (hf : rm'.frames + 1 ≤ R.frames) (hl : w + (mx' + 11) + rm'.locals ≤ R.locals) (hc : k + rm'.cells ≤ R.cells) (hn : n + rm'.slots ≤ R.slots) (hM : Ct l Z y' bytes' mx' ret' rm' n0 argsL.toArray h (fun v h' => v = v0 ∧ h' = h)) (hlen : argsL.length = ps.length) (hsz : Ls.size = mx) (hw : (rest.map fun v => v.category).sum ≤ w) (hst : st = argsL.reverse ++ rest) (hd : decode code pc = .ok (.invokestatic i, 3)) (r : W h k n pc Ls st) :
    W h (k + rm'.cells) (n + rm'.slots) (pc + 3) Ls (v0.toList ++ rest) := by
  obtain ⟨v, h', ⟨e1, e2⟩, r'⟩ := H.callS w1 w2 w3 w4 hy hpd hf hl hc hn hM hlen hsz hw hst hd r
  rw [← e1, ← e2]
  rw [e2] at r' ⊢
  exact r'
theorem Wk.callVP (H : Wk l Z y code mx ret R n0 W V) {v0 : Option Value} {a : Addr} {C : String} {z' : MethodName} (w1 : (Jvm.Cond.methodLink y.cls i z').before a0 Z = true) (w2 : (Jvm.Cond.declares z').before a0 Z = true) (nf : NF Z a0 z') (w5 : (Jvm.Cond.selects C z' y').before a0 Z = true) (w6 : (Jvm.Cond.instanceMethod y').before a0 Z = true) (w3 : (Jvm.Cond.initialized y'.cls).before a0 Z = true) (w4 : (Jvm.Cond.code y' bytes' mx' ret').before a0 Z = true) (hy : z'.cls ≠ "java/lang/invoke/MethodHandle" ∧ z'.cls ≠ "java/lang/invoke/VarHandle")
    (hpd : parseMethodDescriptor z'.desc = some ⟨ps, rt⟩) (hf : rm'.frames + 1 ≤ R.frames) (hl : w + (mx' + 11) + rm'.locals ≤ R.locals) (hc : k + rm'.cells ≤ R.cells) (hn : n + rm'.slots ≤ R.slots) (E : Exa Z h a C) (hM : Ct l Z y' bytes' mx' ret' rm' n0 (.ref a :: argsL).toArray h (fun v h' => v = v0 ∧ h' = h)) (hlen : argsL.length = ps.length) (hsz : Ls.size = mx) (hw : (rest.map fun v => v.category).sum ≤ w) (hst : st = argsL.reverse ++ .ref a :: rest) (hd : decode code pc = .ok (.invokevirtual i, 3)) (r : W h k n pc Ls st) :
    W h (k + rm'.cells) (n + rm'.slots) (pc + 3) Ls (v0.toList ++ rest) := by
  obtain ⟨v, h', ⟨e1, e2⟩, r'⟩ := H.callV w1 w2 nf w5 w6 w3 w4 hy hpd hf hl hc hn E hM hlen hsz hw hst hd r
  rw [← e1, ← e2]
  rw [e2] at r' ⊢
  exact r'
theorem Wk.retV (H : Wk l Z y code mx ret R n0 W V) {v : Value} {t : FieldType} {ins : Instr} (ht : ret = some t) (hn' : narrow t v = v) (hi : (ins = .ireturn ∧ (t = .int ∨ t = .boolean ∨ t = .byte ∨ t = .char ∨ t = .short) ∧ ∃ z, v = .int z) ∨ (ins = .lreturn ∧ t = .long ∧ ∃ z, v = .long z) ∨ (ins = .dreturn ∧ t = .double ∧ ∃ z, v = .double z) ∨ (ins = .freturn ∧ t = .float ∧ ∃ z, v = .float z) ∨ (ins = .areturn ∧ t.isReference = true ∧ v.isRef = true))
    (hk : k ≤ R.cells) (hn : n ≤ R.slots) (hd : decode code pc = .ok (ins, 1)) (r : W h k n pc Ls (v :: st)) : V (some v) h := by
  obtain ⟨p, e, s, m, args, below, meth, c, S0, hx, hby, hml, hown, hZ, hnm, hret, hlk, rfl, rfl⟩ := H
  obtain ⟨T, locs, X, eh, N, sp⟩ := r
  have hrt : meth.sig.returnType = some t := hret.trans ht
  obtain ⟨fs, hr, hrun, hended, hW, hsame⟩ := X.leave (v := some v) (fun q => by rw [hrt] at q; cases q) hlk
  exact ⟨_, locs, sp _ (retOut X hx hrt hn' hi (hb hby hd) hr), hrun, hended, eh, N, ⟨_, rfl⟩, hW, hsame.mono hk hn⟩
theorem Wk.retI (H : Wk l Z y code mx ret R n0 W V) {z : Int32} (ht : ret = some .int) (hk : k ≤ R.cells) (hn : n ≤ R.slots) (hd : decode code pc = .ok (.ireturn, 1)) (r : W h k n pc Ls (.int z :: st)) : V (some (.int z)) h :=
  H.retV ht rfl (Or.inl ⟨rfl, Or.inl rfl, z, rfl⟩) hk hn hd r
theorem Wk.retJ (H : Wk l Z y code mx ret R n0 W V) {z : Int64} (ht : ret = some .long) (hk : k ≤ R.cells) (hn : n ≤ R.slots) (hd : decode code pc = .ok (.lreturn, 1)) (r : W h k n pc Ls (.long z :: st)) : V (some (.long z)) h :=
  H.retV ht rfl (Or.inr (Or.inl ⟨rfl, rfl, z, rfl⟩)) hk hn hd r
theorem Wk.retZ (H : Wk l Z y code mx ret R n0 W V) {z z' : Int32} (hz : z &&& 1 = z') (ht : ret = some .boolean) (hk : k ≤ R.cells) (hn : n ≤ R.slots) (hd : decode code pc = .ok (.ireturn, 1)) (r : W h k n pc Ls (.int z :: st)) : V (some (.int z')) h := by
  subst hz
  obtain ⟨p, e, s, m, args, below, meth, c, S0, hx, hby, hml, hown, hZ, hnm, hret, hlk, rfl, rfl⟩ := H
  obtain ⟨T, locs, X, eh, N, sp⟩ := r
  have hrt : meth.sig.returnType = some .boolean := hret.trans ht
  obtain ⟨fs, hr, hrun, hended, hW, hsame⟩ := X.leave (v := some (.int (nar .boolean z))) (fun q => by rw [hrt] at q; cases q) hlk
  exact ⟨_, locs, sp _ (retN X hx hrt (by simp) (hb hby hd) hr), hrun, hended, eh, N, ⟨_, rfl⟩, hW, hsame.mono hk hn⟩
theorem Wk.retB (H : Wk l Z y code mx ret R n0 W V) {z z' : Int32} (hz : z.toInt8.toInt32 = z') (ht : ret = some .byte) (hk : k ≤ R.cells) (hn : n ≤ R.slots) (hd : decode code pc = .ok (.ireturn, 1)) (r : W h k n pc Ls (.int z :: st)) : V (some (.int z')) h := by
  subst hz
  obtain ⟨p, e, s, m, args, below, meth, c, S0, hx, hby, hml, hown, hZ, hnm, hret, hlk, rfl, rfl⟩ := H
  obtain ⟨T, locs, X, eh, N, sp⟩ := r
  have hrt : meth.sig.returnType = some .byte := hret.trans ht
  obtain ⟨fs, hr, hrun, hended, hW, hsame⟩ := X.leave (v := some (.int (nar .byte z))) (fun q => by rw [hrt] at q; cases q) hlk
  exact ⟨_, locs, sp _ (retN X hx hrt (by simp) (hb hby hd) hr), hrun, hended, eh, N, ⟨_, rfl⟩, hW, hsame.mono hk hn⟩
theorem Wk.retC (H : Wk l Z y code mx ret R n0 W V) {z z' : Int32} (hz : z.toUInt32.toUInt16.toUInt32.toInt32 = z') (ht : ret = some .char) (hk : k ≤ R.cells) (hn : n ≤ R.slots) (hd : decode code pc = .ok (.ireturn, 1)) (r : W h k n pc Ls (.int z :: st)) : V (some (.int z')) h := by
  subst hz
  obtain ⟨p, e, s, m, args, below, meth, c, S0, hx, hby, hml, hown, hZ, hnm, hret, hlk, rfl, rfl⟩ := H
  obtain ⟨T, locs, X, eh, N, sp⟩ := r
  have hrt : meth.sig.returnType = some .char := hret.trans ht
  obtain ⟨fs, hr, hrun, hended, hW, hsame⟩ := X.leave (v := some (.int (nar .char z))) (fun q => by rw [hrt] at q; cases q) hlk
  exact ⟨_, locs, sp _ (retN X hx hrt (by simp) (hb hby hd) hr), hrun, hended, eh, N, ⟨_, rfl⟩, hW, hsame.mono hk hn⟩
theorem Wk.retR (H : Wk l Z y code mx ret R n0 W V) {v : Value} {t : FieldType} (ht : ret = some t) (htr : t.isReference = true) (hv : v.isRef = true) (hk : k ≤ R.cells) (hn : n ≤ R.slots) (hd : decode code pc = .ok (.areturn, 1)) (r : W h k n pc Ls (v :: st)) : V (some v) h :=
  H.retV ht (by cases v <;> simp [Value.isRef] at hv <;> cases t <;> simp [FieldType.isReference] at htr <;> rfl) (Or.inr (Or.inr (Or.inr (Or.inr ⟨rfl, htr, hv⟩)))) hk hn hd r
theorem Wk.retN (H : Wk l Z y code mx ret R n0 W V) (ht : ret = none) (hk : k ≤ R.cells) (hn : n ≤ R.slots) (hd : decode code pc = .ok (.return_, 1)) (r : W h k n pc Ls []) : V none h := by
  obtain ⟨p, e, s, m, args, below, meth, c, S0, hx, hby, hml, hown, hZ, hnm, hret, hlk, rfl, rfl⟩ := H
  obtain ⟨T, locs, X, eh, N, sp⟩ := r
  have hrt : meth.sig.returnType = none := hret.trans ht
  obtain ⟨fs, hr, hrun, hended, hW, hsame⟩ := X.leave (v := none) (fun _ => rfl) hlk
  exact ⟨_, locs, sp _ (X.returnOut hx hrt (hb hby hd) hr), hrun, hended, eh, N, ⟨_, rfl⟩, hW, hsame.mono hk hn⟩
end Steps
end Jvm.OwnW
namespace Jvm.OwnW
open Jvm Jvm.ClassFile Sem Op Lib Jvm.Free Jvm.Stand Jvm.LawKit Jvm.RoadKit Bundle
/-- an array at a, of components ty, that holds just vs -/
def Ary (Z : State) (h : Heap) (a : Addr) (ty : FieldType) (vs : List Value) : Prop := ∃ c : Cell, Arr Z h a c ty ∧ c.slots = vs.toArray
section Arrays
variable {l : Launch} {Z : State} {y : MethodName} {code : ByteArray} {mx : Nat} {ret : Option FieldType} {R : Room} {n0 : Nat} {W : WT} {V : VT} {h h' : Heap} {k n pc : Nat} {Ls : Array Slot} {st : List Value} {a0 : Array Value} {a b : Addr} {ty : FieldType} {vs : List Value} {ws : List Addr} {sl : Nat} {v : Value}
theorem Ary.lt (A : Ary Z h a ty vs) : a < h.size := by obtain ⟨c, A, -⟩ := A; exact A.lt
theorem Ary.ext (A : Ary Z h a ty vs) (E : Ext h h') : Ary Z h' a ty vs := by obtain ⟨c, A, q⟩ := A; exact ⟨c, A.ext E, q⟩
theorem Ary.other (A : Ary Z h b ty vs) (w : Wr h h' a sl v) (ne : b ≠ a) : Ary Z h' b ty vs := by obtain ⟨c, A, q⟩ := A; exact ⟨c, A.other w ne, q⟩
theorem Ary.keep (A : Ary Z h a ty vs) (K : Keep h h' ws) (q : a ∉ ws) : Ary Z h' a ty vs := by obtain ⟨c, A, r⟩ := A; exact ⟨c, ⟨K.2.1 a c A.1 q, A.2⟩, r⟩
theorem Ary.same (A : Ary Z h a ty vs) (w : Wr h h' a sl v) : Ary Z h' a ty (vs.set sl v) := by
  obtain ⟨c, A, q⟩ := A
  refine ⟨_, A.same w, ?_⟩
  show c.slots.setIfInBounds sl v = _
  rw [q, List.setIfInBounds_toArray]
theorem idx_ok {j : Int32} {i : Nat} (hj : j.toInt = i) : j.toNatClampNeg = i ∧ ¬ j < 0 := by
  refine ⟨?_, ?_⟩
  · show j.toInt.toNat = i
    rw [hj]; rfl
  · rw [Int32.lt_iff_toInt_lt, hj, Int32.toInt_zero]
    omega
theorem idx_in' {j : Int32} {i : Nat} (hj : j.toInt = i) {c : Cell} (q : c.slots = vs.toArray) (hi : i < vs.length) : ¬ (j < 0 ∨ c.slots.size ≤ j.toNatClampNeg) := by
  obtain ⟨h1, h2⟩ := idx_ok hj
  rw [h1, q, List.size_toArray]
  exact fun u => u.elim h2 (fun u => by omega)
theorem Wk.newA (H : Wk l Z y code mx ret R n0 W V) {aty : ArrayType} {z : Int32} {cap i : Nat} {d : Value} (hty : newarray.typeOf aty = ty) (hdv : defaultValue ty = d) (w : (Jvm.Cond.arrayClass ty).before a0 Z = true) (hz : z.toInt = i) (hcap : i ≤ cap) (hb8 : cap * 8 ≤ 536870912) (hc : k + 1 ≤ R.cells) (hl : n + cap ≤ R.slots) (hd : decode code pc = .ok (.newarray aty, 2)) (r : W h k n pc Ls (.int z :: st)) :
    ∃ h' a, a = h.size ∧ Ext h h' ∧ Ary Z h' a ty (List.replicate i d) ∧ W h' (k + 1) (n + cap) (pc + 2) Ls (.ref a :: st) := by
  obtain ⟨h1, h2⟩ := idx_ok hz
  obtain ⟨h', a, cA, e, E, A, r'⟩ := H.newP hty w h2 (by rw [h1]; exact hcap) hb8 hc hl hd r
  refine ⟨h', a, e, E, ⟨_, A, ?_⟩, r'⟩
  show Array.replicate z.toNatClampNeg (defaultValue ty) = _
  rw [h1, hdv, List.toArray_replicate]
theorem Wk.newAE (H : Wk l Z y code mx ret R n0 W V) {aty : ArrayType} {z : Int32} {cap i : Nat} {d : Value} {ad : String} (hty : newarray.typeOf aty = ty) (hdv : defaultValue ty = d) (had : "[" ++ ty.toString = ad) (w : (Jvm.Cond.arrayClass ty).before a0 Z = true) (hz : z.toInt = i) (hcap : i ≤ cap) (hb8 : cap * 8 ≤ 536870912) (hc : k + 1 ≤ R.cells) (hl : n + cap ≤ R.slots) (hd : decode code pc = .ok (.newarray aty, 2)) (r : W h k n pc Ls (.int z :: st)) :
    ∃ h' a, a = h.size ∧ Ext h h' ∧ Ary Z h' a ty (List.replicate i d) ∧ Exa Z h' a ad ∧ W h' (k + 1) (n + cap) (pc + 2) Ls (.ref a :: st) := by
  obtain ⟨h1, h2⟩ := idx_ok hz
  subst hty
  obtain ⟨p, e, s, m, args, below, meth, c, S0, hx, hby, hml, hown, hZ, hnm, hret, hlk, rfl, rfl⟩ := H
  obtain ⟨T, locs, X, eh, N, sp⟩ := r
  obtain ⟨T', h', cA, X', e', E', A', EX, q'⟩ := RoadKit.newPE X hx hZ w eh (g := mkF m pc Ls (.int z :: st)) rfl (hb hby hd) rfl h2 (by rw [h1]; exact hcap) hb8 hc hl had
  refine ⟨h', _, rfl, E', ⟨_, A', ?_⟩, EX, T', _, X', e', N, fun t u => sp t (q' t u)⟩
  show Array.replicate z.toNatClampNeg (defaultValue (newarray.typeOf aty)) = _
  rw [h1, hdv, List.toArray_replicate]
theorem Wk.cloneA (H : Wk l Z y code mx ret R n0 W V) {i w cap : Nat} {ad : String} (w1 : (Jvm.Cond.methodLink y.cls i ⟨ad, "clone", "()Ljava/lang/Object;"⟩).before a0 Z = true) (w2 : (Jvm.Cond.sameMethod ad "java/lang/Object" "clone" "()Ljava/lang/Object;").before a0 Z = true) (w3 : (Jvm.Cond.native ⟨"java/lang/Object", "clone", "()Ljava/lang/Object;"⟩).before a0 Z = true)
    (w4 : (Jvm.Cond.instanceMethod ⟨"java/lang/Object", "clone", "()Ljava/lang/Object;"⟩).before a0 Z = true) (w5 : (Jvm.Cond.selects ad ⟨ad, "clone", "()Ljava/lang/Object;"⟩ ⟨"java/lang/Object", "clone", "()Ljava/lang/Object;"⟩).before a0 Z = true) (w6 : (Jvm.Cond.castable ad "java/lang/Cloneable").before a0 Z = true)
    (A : Ary Z h a ty vs) (E : Exa Z h a ad) (hfit : ∀ v ∈ vs, fits ty v = true) (hsz : Ls.size = mx) (hf : 1 ≤ R.frames) (hw : (st.map fun v => v.category).sum ≤ w) (hl : w + 14 ≤ R.locals) (hcap : vs.length ≤ cap) (hc : k + 1 ≤ R.cells) (hsl : n + cap ≤ R.slots) (hd : decode code pc = .ok (.invokevirtual i, 3)) (r : W h k n pc Ls (.ref a :: st)) :
    ∃ h' b, b = h.size ∧ Ext h h' ∧ Ary Z h' b ty vs ∧ Exa Z h' b ad ∧ W h' (k + 1) (n + cap) (pc + 3) Ls (.ref b :: st) := by
  obtain ⟨p, e, s, m, args, below, meth, c, S0, hx, hby, hml, hown, hZ, hnm, hret, hlk, rfl, rfl⟩ := H
  obtain ⟨T, locs, X, eh, N, sp⟩ := r
  obtain ⟨cl, Ar, q⟩ := A
  have hF : FitC Z cl := fitC_of Ar (fun j hj v hv => hfit v (by rw [q, List.getElem?_toArray] at hv; exact List.mem_of_getElem? hv))
  obtain ⟨T', h', X', e', E', A', EX, q'⟩ := RoadKit.cloneA X hx hZ hown w1 w2 w3 w4 w5 w6 eh Ar E hF (g := mkF m pc Ls (.ref a :: st)) rfl (by rw [hml]; exact hsz) rfl (hb hby hd) hf (by show 2 * 0 + _ ≤ _; omega) hl (by rw [q, List.size_toArray]; exact hcap) hc hsl
  exact ⟨h', _, rfl, E', ⟨_, A', q⟩, EX, T', _, X', e', N, fun t u => sp t (q' t u)⟩
theorem Wk.lenA (H : Wk l Z y code mx ret R n0 W V) {z : Int32} (A : Ary Z h a ty vs) (hz : vs.length.toInt32 = z) (hd : decode code pc = .ok (.arraylength, 1)) (r : W h k n pc Ls (.ref a :: st)) : W h k n (pc + 1) Ls (.int z :: st) := by
  obtain ⟨c, A, q⟩ := A
  exact H.arrLen A (by rw [q, List.size_toArray]; exact hz) hd r
theorem Wk.ldI (H : Wk l Z y code mx ret R n0 W V) {j : Int32} {i : Nat} (A : Ary Z h a .int vs) (hj : j.toInt = i) (hv : vs[i]? = some v) (hd : decode code pc = .ok (.iaload, 1)) (r : W h k n pc Ls (.int j :: .ref a :: st)) : W h k n (pc + 1) Ls (v :: st) := by
  obtain ⟨c, A, q⟩ := A
  obtain ⟨h1, h2⟩ := idx_ok hj
  exact H.iaload A (idx_in' hj q (List.getElem?_eq_some_iff.mp hv).1) (by rw [h1, q, List.getElem?_toArray]; exact hv) hd r
theorem Wk.ldJ (H : Wk l Z y code mx ret R n0 W V) {j : Int32} {i : Nat} (A : Ary Z h a .long vs) (hj : j.toInt = i) (hv : vs[i]? = some v) (hd : decode code pc = .ok (.laload, 1)) (r : W h k n pc Ls (.int j :: .ref a :: st)) : W h k n (pc + 1) Ls (v :: st) := by
  obtain ⟨c, A, q⟩ := A
  obtain ⟨h1, h2⟩ := idx_ok hj
  exact H.laload A (idx_in' hj q (List.getElem?_eq_some_iff.mp hv).1) (by rw [h1, q, List.getElem?_toArray]; exact hv) hd r
theorem Wk.ldC (H : Wk l Z y code mx ret R n0 W V) {j : Int32} {i : Nat} (A : Ary Z h a .char vs) (hj : j.toInt = i) (hv : vs[i]? = some v) (hd : decode code pc = .ok (.caload, 1)) (r : W h k n pc Ls (.int j :: .ref a :: st)) : W h k n (pc + 1) Ls (v :: st) := by
  obtain ⟨c, A, q⟩ := A
  obtain ⟨h1, h2⟩ := idx_ok hj
  exact H.caload A (idx_in' hj q (List.getElem?_eq_some_iff.mp hv).1) (by rw [h1, q, List.getElem?_toArray]; exact hv) hd r
theorem Wk.ldB (H : Wk l Z y code mx ret R n0 W V) {j : Int32} {i : Nat} (A : Ary Z h a .byte vs) (hj : j.toInt = i) (hv : vs[i]? = some v) (hd : decode code pc = .ok (.baload, 1)) (r : W h k n pc Ls (.int j :: .ref a :: st)) : W h k n (pc + 1) Ls (v :: st) := by
  obtain ⟨c, A, q⟩ := A
  obtain ⟨h1, h2⟩ := idx_ok hj
  exact H.baload A (idx_in' hj q (List.getElem?_eq_some_iff.mp hv).1) (by rw [h1, q, List.getElem?_toArray]; exact hv) hd r
theorem Wk.putI (H : Wk l Z y code mx ret R n0 W V) {j : Int32} {i : Nat} {x : Int32} (A : Ary Z h a .int vs) (hj : j.toInt = i) (hi : i < vs.length) (hn0 : n0 ≤ a) (hd : decode code pc = .ok (.iastore, 1)) (r : W h k n pc Ls (.int x :: .int j :: .ref a :: st)) : ∃ h', Wr h h' a i (.int x) ∧ Ary Z h' a .int (vs.set i (.int x)) ∧ W h' k n (pc + 1) Ls st := by
  obtain ⟨h1, h2⟩ := idx_ok hj
  obtain ⟨c, A', q⟩ := id A
  obtain ⟨h', w, r'⟩ := H.stI A' (idx_in' hj q hi) hn0 hd r
  rw [h1] at w
  exact ⟨h', w, A.same w, r'⟩
theorem Wk.putJ (H : Wk l Z y code mx ret R n0 W V) {j : Int32} {i : Nat} {x : Int64} (A : Ary Z h a .long vs) (hj : j.toInt = i) (hi : i < vs.length) (hn0 : n0 ≤ a) (hd : decode code pc = .ok (.lastore, 1)) (r : W h k n pc Ls (.long x :: .int j :: .ref a :: st)) : ∃ h', Wr h h' a i (.long x) ∧ Ary Z h' a .long (vs.set i (.long x)) ∧ W h' k n (pc + 1) Ls st := by
  obtain ⟨h1, h2⟩ := idx_ok hj
  obtain ⟨c, A', q⟩ := id A
  obtain ⟨h', w, r'⟩ := H.stJ A' (idx_in' hj q hi) hn0 hd r
  rw [h1] at w
  exact ⟨h', w, A.same w, r'⟩
theorem Wk.putC (H : Wk l Z y code mx ret R n0 W V) {j : Int32} {i : Nat} {x : Int32} {z : Int32} (hz : x.toUInt32.toUInt16.toUInt32.toInt32 = z) (A : Ary Z h a .char vs) (hj : j.toInt = i) (hi : i < vs.length) (hn0 : n0 ≤ a) (hd : decode code pc = .ok (.castore, 1)) (r : W h k n pc Ls (.int x :: .int j :: .ref a :: st)) : ∃ h', Wr h h' a i (.int z) ∧ Ary Z h' a .char (vs.set i (.int z)) ∧ W h' k n (pc + 1) Ls st := by
  subst hz
  obtain ⟨h1, h2⟩ := idx_ok hj
  obtain ⟨c, A', q⟩ := id A
  obtain ⟨h', w, r'⟩ := H.stC A' (idx_in' hj q hi) hn0 hd r
  rw [h1] at w
  exact ⟨h', w, A.same w, r'⟩
theorem Wk.putB (H : Wk l Z y code mx ret R n0 W V) {j : Int32} {i : Nat} {x : Int32} {z : Int32} (hz : x.toInt8.toInt32 = z) (A : Ary Z h a .byte vs) (hj : j.toInt = i) (hi : i < vs.length) (hn0 : n0 ≤ a) (hd : decode code pc = .ok (.bastore, 1)) (r : W h k n pc Ls (.int x :: .int j :: .ref a :: st)) : ∃ h', Wr h h' a i (.int z) ∧ Ary Z h' a .byte (vs.set i (.int z)) ∧ W h' k n (pc + 1) Ls st := by
  subst hz
  obtain ⟨h1, h2⟩ := idx_ok hj
  obtain ⟨c, A', q⟩ := id A
  obtain ⟨h', w, r'⟩ := H.stB A' (idx_in' hj q hi) hn0 hd r
  rw [h1] at w
  exact ⟨h', w, A.same w, r'⟩
end Arrays
theorem ns_root {Z : State} {a0 : Array Value} {O K : String} {q : Nat} (w : (Jvm.Cond.noSuperclass O).before a0 Z = true) (wk : (Jvm.Cond.instantiable K q).before a0 Z = true) (hn : O ≠ K) : NS Z O K := by
  obtain ⟨c, k, h1, h2, h3, -, -⟩ := Cond.noSuperclass_spec w
  obtain ⟨t, k', g1, g2, -⟩ := Cond.instantiable_spec wk
  have ne := ids_ne h1 g1 hn
  refine ⟨c, t, h1, g1, fun fuel => ?_⟩
  cases fuel with
  | zero => rfl
  | succ f => simp [Vm.isSubclassAux, ne, h2, h3]
theorem ns_no {Z : State} {a0 : Array Value} {C S K : String} {q : Nat} (w : (Jvm.Cond.superclass C S).before a0 Z = true) (wk : (Jvm.Cond.instantiable K q).before a0 Z = true) (n : NS Z C K) (hn : C ≠ K) : ∃ c t, Z.vm.findClass C = some c ∧ Z.vm.findClass K = some t ∧ Z.vm.assignable c t = false := by
  obtain ⟨c, t, h0, g0, n3⟩ := n
  obtain ⟨p, k, kp, h1, h2, h3, h4, h5, -, h7⟩ := Cond.superclass_spec h0 w
  obtain ⟨t', k', g1, g2, g5, g7, -⟩ := Cond.instantiable_spec wk
  cases g0.symm.trans g1
  have ne := ids_ne h0 g0 hn
  have g8 : k'.isInterface = false := by cases hh : k'.isInterface <;> simp [hh] at g7 ⊢
  refine ⟨c, t, h0, g0, ?_⟩
  show Z.vm.assignableAux (255 + 1) c t = false
  simp [Vm.assignableAux, ne, h2, g2, h5, g5, g8, Vm.isSubclass, n3]
/-- (k & 0x7fffffff) % m as a natural -/
theorem own_modn (k : Int32) (m : Nat) (h0 : 0 < m) (hm : m < 2147483648) : ∃ i : Nat, i < m ∧ (k &&& (2147483647 : Int32)) % Int32.ofNat m = Int32.ofNat i := by
  have h1 : (k &&& (2147483647 : Int32)).toInt = k.toInt % (2 ^ 31 : Nat) := c_mask k _ 31 (by decide) (by decide)
  have hM : (Int32.ofNat m).toInt = (m : Int) := Int32.toInt_ofNat_of_lt (by omega)
  have h2 := (c_irem (k &&& (2147483647 : Int32)) (Int32.ofNat m) m hM).1 (by rw [h1]; omega)
  have h3 : 0 ≤ (k &&& (2147483647 : Int32)).toInt % (m : Int) := Int.emod_nonneg _ (by omega)
  have h4 : (k &&& (2147483647 : Int32)).toInt % (m : Int) < m := Int.emod_lt_of_pos _ (by omega)
  refine ⟨((k &&& (2147483647 : Int32)) % Int32.ofNat m).toInt.toNat, by omega, ?_⟩
  apply Int32.toInt_inj.mp
  rw [Int32.toInt_ofNat_of_lt (by omega)]
  omega
theorem own_ofNat {i : Nat} (hi : i < 2147483648) : (Int32.ofNat i).toInt = (i : Int) := Int32.toInt_ofNat_of_lt (by omega)
theorem own_ltN {i j : Nat} (hi : i < 2147483648) (hj : j < 2147483648) : Int32.ofNat i < Int32.ofNat j ↔ i < j := by
  rw [Int32.lt_iff_toInt_lt, own_ofNat hi, own_ofNat hj]
  omega
theorem own_eqN {i j : Nat} (hi : i < 2147483648) (hj : j < 2147483648) : Int32.ofNat i = Int32.ofNat j ↔ i = j := by
  rw [← Int32.toInt_inj, own_ofNat hi, own_ofNat hj]
  omega
theorem own_nn {n : Nat} (hn : n < 2147483648) : ¬ Int32.ofNat n < 0 := by
  rw [Int32.lt_iff_toInt_lt, own_ofNat hn, show (0 : Int32).toInt = 0 from rfl]
  omega
theorem own_pred {n : Nat} (hp : 0 < n) (hn : n < 2147483648) : (Int32.ofNat n - (1 : Int32)).toInt = ((n - 1 : Nat) : Int) := by
  have h2 := c_isub (Int32.ofNat n) (1 : Int32)
  have r2 := rng32 (Int32.ofNat n - (1 : Int32))
  rw [own_ofNat hn, show (1 : Int32).toInt = 1 from rfl] at h2
  omega
theorem own_succ (i : Nat) : Int32.ofNat i + (1 : Int32) = Int32.ofNat (i + 1) := (Int32.ofNat_add i 1).symm
end Jvm.OwnW

namespace Jvm.Pilot.@@N@@
open Jvm Jvm.ClassFile Sem Op Lib Jvm.Free Jvm.Stand Jvm.LawKit Jvm.RoadKit Bundle Jvm.OwnW Jvm.Pilot.@@N@@.Jvm.D
/-- the e-th digit's sign -/
def own_dg (N e : Nat) : Int32 := Int32.ofNat (48 + N / 10 ^ e % 10)
/-- the 24 bytes when e digits are written, up to E -/
def own_arr (N E e : Nat) : List Value := (List.range 24).map fun p => .int (if E - e ≤ p ∧ p < E then own_dg N (E - 1 - p) else 0)
theorem own_arr_len (N E e : Nat) : (own_arr N E e).length = 24 := by simp [own_arr]
theorem own_arr_at (N E e p : Nat) (hp : p < 24) : (own_arr N E e)[p]? = some (.int (if E - e ≤ p ∧ p < E then own_dg N (E - 1 - p) else 0)) := by
  simp [own_arr, hp]
theorem own_arr0 (N E : Nat) : List.replicate 24 (Value.int 0) = own_arr N E 0 := by
  apply List.ext_getElem?
  intro p
  by_cases hp : p < 24
  · rw [own_arr_at N E 0 p hp, List.getElem?_replicate, if_pos hp, if_neg (by omega)]
  · rw [List.getElem?_eq_none (by rw [List.length_replicate]; omega), List.getElem?_eq_none (by rw [own_arr_len]; omega)]
theorem own_arr_set (N E e : Nat) (he : e < E) (hE : E ≤ 24) : (own_arr N E e).set (E - e - 1) (.int (own_dg N e)) = own_arr N E (e + 1) := by
  apply List.ext_getElem?
  intro p
  by_cases hp : p < 24
  · rw [List.getElem?_set, own_arr_len, own_arr_at N E e p hp, own_arr_at N E (e + 1) p hp]
    by_cases hq : E - e - 1 = p
    · rw [if_pos hq, if_pos (by omega), if_pos (by omega), show E - 1 - p = e by omega]
    · rw [if_neg hq]
      by_cases hr : E - e ≤ p ∧ p < E
      · rw [if_pos hr, if_pos (by omega)]
      · rw [if_neg hr, if_neg (by omega)]
  · rw [List.getElem?_eq_none (by rw [List.length_set, own_arr_len]; omega), List.getElem?_eq_none (by rw [own_arr_len]; omega)]
theorem own_div (N e : Nat) : N / 10 ^ e / 10 = N / 10 ^ (e + 1) := by rw [Nat.div_div_eq_div_mul, Nat.pow_succ]
theorem own_div2 (N e : Nat) : N / 10 ^ e / 100 = N / 10 ^ (e + 2) := by rw [Nat.div_div_eq_div_mul, show 10 ^ (e + 2) = 10 ^ e * 100 from Nat.pow_add 10 e 2]
/-- a small long, as a byte -/
theorem own_by (x : Int64) (v : Nat) (hx : x.toInt = v) (hv : v < 128) : x.toInt32.toInt8.toInt32 = Int32.ofNat v := by
  apply Int32.toInt_inj.mp
  rw [own_ofNat (by omega)]
  have h1 : x.toInt32.toInt = v := by rw [Int64.toInt_toInt32, hx]; exact Int.bmod_eq_of_le (by omega) (by omega)
  have h2 := c_i2b x.toInt32
  rw [h1] at h2
  omega
theorem own_byI (x : Int32) (v : Nat) (hx : x.toInt = v) (hv : v < 128) : x.toInt8.toInt32 = Int32.ofNat v := by
  apply Int32.toInt_inj.mp
  rw [own_ofNat (by omega)]
  have h2 := c_i2b x
  rw [hx] at h2
  omega
theorem own_nb (v : Nat) (hv : v < 128) : (Int32.ofNat v).toInt8.toInt32 = Int32.ofNat v := own_byI _ v (own_ofNat (by omega)) hv
/-- a digit of a long -/
theorem own_d1 (r : Int64) (R : Nat) (hr : r.toInt = R) : ((48 : Int64) + r % (10 : Int64)).toInt32.toInt8.toInt32 = Int32.ofNat (48 + R % 10) := by
  have h1 : (r % (10 : Int64)).toInt = ((R % 10 : Nat) : Int) := by
    rw [Int64.toInt_mod, hr, show (10 : Int64).toInt = 10 from rfl, Int.tmod_eq_emod_of_nonneg (by omega)]; omega
  refine own_by _ _ ?_ (by omega)
  have h2 := c_ladd (48 : Int64) (r % (10 : Int64))
  have h3 := rng64 ((48 : Int64) + r % (10 : Int64))
  rw [h1, show (48 : Int64).toInt = 48 from rfl] at h2
  omega
theorem own_d2 (r : Int64) (R : Nat) (hr : r.toInt = R) : (r / (10 : Int64)).toInt = ((R / 10 : Nat) : Int) := by
  rw [Int64.toInt_div_of_ne_right r _ (by decide), hr, show (10 : Int64).toInt = 10 from rfl, Int.tdiv_eq_ediv_of_nonneg (by omega)]; omega
theorem own_i1 (r : Int32) (R : Nat) (hr : r.toInt = R) : (r % (100 : Int32)).toInt = ((R % 100 : Nat) : Int) := by
  rw [Int32.toInt_mod, hr, show (100 : Int32).toInt = 100 from rfl, Int.tmod_eq_emod_of_nonneg (by omega)]; omega
theorem own_i2 (r : Int32) (R : Nat) (hr : r.toInt = R) : (r / (100 : Int32)).toInt = ((R / 100 : Nat) : Int) := by
  rw [Int32.toInt_div_of_ne_right r _ (by decide), hr, show (100 : Int32).toInt = 100 from rfl, Int.tdiv_eq_ediv_of_nonneg (by omega)]; omega
theorem own_i3 (r : Int32) (R : Nat) (hr : r.toInt = R) : ((48 : Int32) + r % (10 : Int32)).toInt8.toInt32 = Int32.ofNat (48 + R % 10) := by
  have h1 : (r % (10 : Int32)).toInt = ((R % 10 : Nat) : Int) := by
    rw [Int32.toInt_mod, hr, show (10 : Int32).toInt = 10 from rfl, Int.tmod_eq_emod_of_nonneg (by omega)]; omega
  refine own_byI _ _ ?_ (by omega)
  have h2 := c_iadd (48 : Int32) (r % (10 : Int32))
  have h3 := rng32 ((48 : Int32) + r % (10 : Int32))
  rw [h1, show (48 : Int32).toInt = 48 from rfl] at h2
  omega
theorem own_l2i (r : Int64) (R : Nat) (hr : r.toInt = R) (hR : R ≤ 2147483647) : r.toInt32.toInt = (R : Int) := by
  rw [Int64.toInt_toInt32, hr]; exact Int.bmod_eq_of_le (by omega) (by omega)
theorem own_m1 {i : Nat} (hi : 0 < i) : Int32.ofNat i + (-1 : Int32) = Int32.ofNat (i - 1) := by
  obtain ⟨j, rfl⟩ : ∃ j, i = j + 1 := ⟨i - 1, by omega⟩
  rw [show j + 1 - 1 = j by omega, ← Int32.sub_eq_add_neg]
  exact Jvm.LawKit.dec_ofNat j
theorem own_subN {a b : Nat} (h : b ≤ a) (ha : a < 2147483648) : Int32.ofNat a - Int32.ofNat b = Int32.ofNat (a - b) := by
  apply Int32.toInt_inj.mp
  have h2 := c_isub (Int32.ofNat a) (Int32.ofNat b)
  have h3 := rng32 (Int32.ofNat a - Int32.ofNat b)
  rw [own_ofNat ha, own_ofNat (by omega)] at h2
  rw [own_ofNat (by omega)]
  omega
theorem own_old {Z : State} {n0 : Nat} {h : Heap} (O : Old Z n0 h) : n0 ≤ h.size := by rw [← O.1]; exact O.2.1
/-- a static table of bytes, as the start has it -/
def own_tab (Z : State) (nm : String) (a : Addr) (f : Nat → Int32) : Prop := Sta Z Z.heap "io/tagwire/codec/Decimal" nm "[B" (.ref a) ∧ ∃ c : Cell, Arr Z Z.heap a c .byte ∧ c.slots.size = 100 ∧ ∀ p, p < 100 → c.slots[p]? = some (.int (f p))
def own_pws : List Value := [.long (1 : Int64), .long (10 : Int64), .long (100 : Int64), .long (1000 : Int64), .long (10000 : Int64), .long (100000 : Int64), .long (1000000 : Int64), .long (10000000 : Int64), .long (100000000 : Int64), .long (1000000000 : Int64), .long (10000000000 : Int64), .long (100000000000 : Int64), .long (1000000000000 : Int64), .long (10000000000000 : Int64), .long (100000000000000 : Int64), .long (1000000000000000 : Int64), .long (10000000000000000 : Int64), .long (100000000000000000 : Int64), .long (1000000000000000000 : Int64)]
theorem own_pws_at (e : Nat) (he : e < 19) : ∃ z : Int64, own_pws[e]? = some (.long z) ∧ z ≠ 0 ∧ z.toInt = ((10 ^ e : Nat) : Int) := by
  match e, he with
  | 0, _ => exact ⟨(1 : Int64), rfl, by decide +kernel, by decide +kernel⟩
  | 1, _ => exact ⟨(10 : Int64), rfl, by decide +kernel, by decide +kernel⟩
  | 2, _ => exact ⟨(100 : Int64), rfl, by decide +kernel, by decide +kernel⟩
  | 3, _ => exact ⟨(1000 : Int64), rfl, by decide +kernel, by decide +kernel⟩
  | 4, _ => exact ⟨(10000 : Int64), rfl, by decide +kernel, by decide +kernel⟩
  | 5, _ => exact ⟨(100000 : Int64), rfl, by decide +kernel, by decide +kernel⟩
  | 6, _ => exact ⟨(1000000 : Int64), rfl, by decide +kernel, by decide +kernel⟩
  | 7, _ => exact ⟨(10000000 : Int64), rfl, by decide +kernel, by decide +kernel⟩
  | 8, _ => exact ⟨(100000000 : Int64), rfl, by decide +kernel, by decide +kernel⟩
  | 9, _ => exact ⟨(1000000000 : Int64), rfl, by decide +kernel, by decide +kernel⟩
  | 10, _ => exact ⟨(10000000000 : Int64), rfl, by decide +kernel, by decide +kernel⟩
  | 11, _ => exact ⟨(100000000000 : Int64), rfl, by decide +kernel, by decide +kernel⟩
  | 12, _ => exact ⟨(1000000000000 : Int64), rfl, by decide +kernel, by decide +kernel⟩
  | 13, _ => exact ⟨(10000000000000 : Int64), rfl, by decide +kernel, by decide +kernel⟩
  | 14, _ => exact ⟨(100000000000000 : Int64), rfl, by decide +kernel, by decide +kernel⟩
  | 15, _ => exact ⟨(1000000000000000 : Int64), rfl, by decide +kernel, by decide +kernel⟩
  | 16, _ => exact ⟨(10000000000000000 : Int64), rfl, by decide +kernel, by decide +kernel⟩
  | 17, _ => exact ⟨(100000000000000000 : Int64), rfl, by decide +kernel, by decide +kernel⟩
  | 18, _ => exact ⟨(1000000000000000000 : Int64), rfl, by decide +kernel, by decide +kernel⟩
  | n + 19, h => exact absurd h (by omega)
theorem own_quot (x z : Int64) (N M : Nat) (hx : x.toInt = (N : Int)) (hz : z.toInt = (M : Int)) (hM : 0 < M) : (x / z).toInt = ((N / M : Nat) : Int) := by
  rw [Int64.toInt_div_of_ne_right x z (by intro q; rw [q] at hz; have : ((-1 : Int64)).toInt = -1 := rfl; omega), hx, hz, Int.tdiv_eq_ediv_of_nonneg (by omega)]
  exact (Int.natCast_ediv N M).symm
theorem own_m3 (x : Int32) : ∃ n : Nat, n < 4 ∧ (x &&& (3 : Int32)) = Int32.ofNat n := by
  have h1 : (x &&& (3 : Int32)).toInt = x.toInt % (2 ^ 2 : Nat) := c_mask x _ 2 (by decide) (by decide)
  refine ⟨(x &&& (3 : Int32)).toInt.toNat, by omega, ?_⟩
  apply Int32.toInt_inj.mp
  rw [own_ofNat (by omega)]
  omega
theorem own_whole (x : Int64) : ∃ M : Nat, M < 9223372036854775808 ∧ (x &&& (9223372036854775807 : Int64)).toInt = (M : Int) := by
  have h := c_maskL x (9223372036854775807 : Int64) 63 (by decide) (by first | decide | decide +kernel)
  refine ⟨(x &&& (9223372036854775807 : Int64)).toInt.toNat, ?_, ?_⟩
  · rw [h]; omega
  · rw [h]; omega
theorem own_remlt (x z : Int64) (M P : Nat) (hx : x.toInt = (M : Int)) (hM : M < 9223372036854775808) (hz : z.toInt = (P : Int)) (hP : 0 < P) : M % P < 9223372036854775808 ∧ (x % z).toInt = ((M % P : Nat) : Int) := by
  refine ⟨Nat.lt_of_le_of_lt (Nat.mod_le _ _) hM, ?_⟩
  rw [Int64.toInt_mod, hx, hz, Int.tmod_eq_emod_of_nonneg (by omega)]
  exact (Int.natCast_emod M P).symm
theorem d1_0 : decode method_2_code 0 = .ok (.bipush 19, 2) := by decide +kernel
theorem d1_2 : decode method_2_code 2 = .ok (.newarray .long, 2) := by decide +kernel
theorem d1_4 : decode method_2_code 4 = .ok (.dup, 1) := by decide +kernel
theorem d1_5 : decode method_2_code 5 = .ok (.iconst 0, 1) := by decide +kernel
theorem d1_6 : decode method_2_code 6 = .ok (.lconst 1, 1) := by decide +kernel
theorem d1_7 : decode method_2_code 7 = .ok (.lastore, 1) := by decide +kernel
theorem d1_8 : decode method_2_code 8 = .ok (.dup, 1) := by decide +kernel
theorem d1_9 : decode method_2_code 9 = .ok (.iconst 1, 1) := by decide +kernel
theorem d1_10 : decode method_2_code 10 = .ok (.ldc2_w 7, 3) := by decide +kernel
theorem d1_13 : decode method_2_code 13 = .ok (.lastore, 1) := by decide +kernel
theorem d1_14 : decode method_2_code 14 = .ok (.dup, 1) := by decide +kernel
theorem d1_15 : decode method_2_code 15 = .ok (.iconst 2, 1) := by decide +kernel
theorem d1_16 : decode method_2_code 16 = .ok (.ldc2_w 9, 3) := by decide +kernel
theorem d1_19 : decode method_2_code 19 = .ok (.lastore, 1) := by decide +kernel
theorem d1_20 : decode method_2_code 20 = .ok (.dup, 1) := by decide +kernel
theorem d1_21 : decode method_2_code 21 = .ok (.iconst 3, 1) := by decide +kernel
theorem d1_22 : decode method_2_code 22 = .ok (.ldc2_w 11, 3) := by decide +kernel
theorem d1_25 : decode method_2_code 25 = .ok (.lastore, 1) := by decide +kernel
theorem d1_26 : decode method_2_code 26 = .ok (.dup, 1) := by decide +kernel
theorem d1_27 : decode method_2_code 27 = .ok (.iconst 4, 1) := by decide +kernel
theorem d1_28 : decode method_2_code 28 = .ok (.ldc2_w 13, 3) := by decide +kernel
theorem d1_31 : decode method_2_code 31 = .ok (.lastore, 1) := by decide +kernel
theorem d1_32 : decode method_2_code 32 = .ok (.dup, 1) := by decide +kernel
theorem d1_33 : decode method_2_code 33 = .ok (.iconst 5, 1) := by decide +kernel
theorem d1_34 : decode method_2_code 34 = .ok (.ldc2_w 15, 3) := by decide +kernel
theorem d1_37 : decode method_2_code 37 = .ok (.lastore, 1) := by decide +kernel
theorem d1_38 : decode method_2_code 38 = .ok (.dup, 1) := by decide +kernel
theorem d1_39 : decode method_2_code 39 = .ok (.bipush 6, 2) := by decide +kernel
theorem d1_41 : decode method_2_code 41 = .ok (.ldc2_w 17, 3) := by decide +kernel
theorem d1_44 : decode method_2_code 44 = .ok (.lastore, 1) := by decide +kernel
theorem d1_45 : decode method_2_code 45 = .ok (.dup, 1) := by decide +kernel
theorem d1_46 : decode method_2_code 46 = .ok (.bipush 7, 2) := by decide +kernel
theorem d1_48 : decode method_2_code 48 = .ok (.ldc2_w 19, 3) := by decide +kernel
theorem d1_51 : decode method_2_code 51 = .ok (.lastore, 1) := by decide +kernel
theorem d1_52 : decode method_2_code 52 = .ok (.dup, 1) := by decide +kernel
theorem d1_53 : decode method_2_code 53 = .ok (.bipush 8, 2) := by decide +kernel
theorem d1_55 : decode method_2_code 55 = .ok (.ldc2_w 21, 3) := by decide +kernel
theorem d1_58 : decode method_2_code 58 = .ok (.lastore, 1) := by decide +kernel
theorem d1_59 : decode method_2_code 59 = .ok (.dup, 1) := by decide +kernel
theorem d1_60 : decode method_2_code 60 = .ok (.bipush 9, 2) := by decide +kernel
theorem d1_62 : decode method_2_code 62 = .ok (.ldc2_w 23, 3) := by decide +kernel
theorem d1_65 : decode method_2_code 65 = .ok (.lastore, 1) := by decide +kernel
theorem d1_66 : decode method_2_code 66 = .ok (.dup, 1) := by decide +kernel
theorem d1_67 : decode method_2_code 67 = .ok (.bipush 10, 2) := by decide +kernel
theorem d1_69 : decode method_2_code 69 = .ok (.ldc2_w 25, 3) := by decide +kernel
theorem d1_72 : decode method_2_code 72 = .ok (.lastore, 1) := by decide +kernel
theorem d1_73 : decode method_2_code 73 = .ok (.dup, 1) := by decide +kernel
theorem d1_74 : decode method_2_code 74 = .ok (.bipush 11, 2) := by decide +kernel
theorem d1_76 : decode method_2_code 76 = .ok (.ldc2_w 27, 3) := by decide +kernel
theorem d1_79 : decode method_2_code 79 = .ok (.lastore, 1) := by decide +kernel
theorem d1_80 : decode method_2_code 80 = .ok (.dup, 1) := by decide +kernel
theorem d1_81 : decode method_2_code 81 = .ok (.bipush 12, 2) := by decide +kernel
theorem d1_83 : decode method_2_code 83 = .ok (.ldc2_w 29, 3) := by decide +kernel
theorem d1_86 : decode method_2_code 86 = .ok (.lastore, 1) := by decide +kernel
theorem d1_87 : decode method_2_code 87 = .ok (.dup, 1) := by decide +kernel
theorem d1_88 : decode method_2_code 88 = .ok (.bipush 13, 2) := by decide +kernel
theorem d1_90 : decode method_2_code 90 = .ok (.ldc2_w 31, 3) := by decide +kernel
theorem d1_93 : decode method_2_code 93 = .ok (.lastore, 1) := by decide +kernel
theorem d1_94 : decode method_2_code 94 = .ok (.dup, 1) := by decide +kernel
theorem d1_95 : decode method_2_code 95 = .ok (.bipush 14, 2) := by decide +kernel
theorem d1_97 : decode method_2_code 97 = .ok (.ldc2_w 33, 3) := by decide +kernel
theorem d1_100 : decode method_2_code 100 = .ok (.lastore, 1) := by decide +kernel
theorem d1_101 : decode method_2_code 101 = .ok (.dup, 1) := by decide +kernel
theorem d1_102 : decode method_2_code 102 = .ok (.bipush 15, 2) := by decide +kernel
theorem d1_104 : decode method_2_code 104 = .ok (.ldc2_w 35, 3) := by decide +kernel
theorem d1_107 : decode method_2_code 107 = .ok (.lastore, 1) := by decide +kernel
theorem d1_108 : decode method_2_code 108 = .ok (.dup, 1) := by decide +kernel
theorem d1_109 : decode method_2_code 109 = .ok (.bipush 16, 2) := by decide +kernel
theorem d1_111 : decode method_2_code 111 = .ok (.ldc2_w 37, 3) := by decide +kernel
theorem d1_114 : decode method_2_code 114 = .ok (.lastore, 1) := by decide +kernel
theorem d1_115 : decode method_2_code 115 = .ok (.dup, 1) := by decide +kernel
theorem d1_116 : decode method_2_code 116 = .ok (.bipush 17, 2) := by decide +kernel
theorem d1_118 : decode method_2_code 118 = .ok (.ldc2_w 39, 3) := by decide +kernel
theorem d1_121 : decode method_2_code 121 = .ok (.lastore, 1) := by decide +kernel
theorem d1_122 : decode method_2_code 122 = .ok (.dup, 1) := by decide +kernel
theorem d1_123 : decode method_2_code 123 = .ok (.bipush 18, 2) := by decide +kernel
theorem d1_125 : decode method_2_code 125 = .ok (.ldc2_w 41, 3) := by decide +kernel
theorem d1_128 : decode method_2_code 128 = .ok (.lastore, 1) := by decide +kernel
theorem d1_129 : decode method_2_code 129 = .ok (.areturn, 1) := by decide +kernel
theorem d2_0 : decode prog_20_method_3_code 0 = .ok (.iload_n 1, 1) := by decide +kernel
theorem d2_1 : decode prog_20_method_3_code 1 = .ok (.iload 4, 2) := by decide +kernel
theorem d2_3 : decode prog_20_method_3_code 3 = .ok (.iadd, 1) := by decide +kernel
theorem d2_4 : decode prog_20_method_3_code 4 = .ok (.istore 5, 2) := by decide +kernel
theorem d2_6 : decode prog_20_method_3_code 6 = .ok (.iload 5, 2) := by decide +kernel
theorem d2_8 : decode prog_20_method_3_code 8 = .ok (.istore 6, 2) := by decide +kernel
theorem d2_10 : decode prog_20_method_3_code 10 = .ok (.lload_n 2, 1) := by decide +kernel
theorem d2_11 : decode prog_20_method_3_code 11 = .ok (.lstore 7, 2) := by decide +kernel
theorem d2_13 : decode prog_20_method_3_code 13 = .ok (.lload 7, 2) := by decide +kernel
theorem d2_15 : decode prog_20_method_3_code 15 = .ok (.ldc2_w 13, 3) := by decide +kernel
theorem d2_18 : decode prog_20_method_3_code 18 = .ok (.lcmp, 1) := by decide +kernel
theorem d2_19 : decode prog_20_method_3_code 19 = .ok (.ifCond .le 39, 3) := by decide +kernel
theorem d2_22 : decode prog_20_method_3_code 22 = .ok (.iload 6, 2) := by decide +kernel
theorem d2_24 : decode prog_20_method_3_code 24 = .ok (.iload_n 1, 1) := by decide +kernel
theorem d2_25 : decode prog_20_method_3_code 25 = .ok (.if_icmp .le 33, 3) := by decide +kernel
theorem d2_28 : decode prog_20_method_3_code 28 = .ok (.aload_n 0, 1) := by decide +kernel
theorem d2_29 : decode prog_20_method_3_code 29 = .ok (.iinc 6 (-1), 3) := by decide +kernel
theorem d2_32 : decode prog_20_method_3_code 32 = .ok (.iload 6, 2) := by decide +kernel
theorem d2_34 : decode prog_20_method_3_code 34 = .ok (.ldc2_w 15, 3) := by decide +kernel
theorem d2_37 : decode prog_20_method_3_code 37 = .ok (.lload 7, 2) := by decide +kernel
theorem d2_39 : decode prog_20_method_3_code 39 = .ok (.ldc2_w 7, 3) := by decide +kernel
theorem d2_42 : decode prog_20_method_3_code 42 = .ok (.lrem, 1) := by decide +kernel
theorem d2_43 : decode prog_20_method_3_code 43 = .ok (.ladd, 1) := by decide +kernel
theorem d2_44 : decode prog_20_method_3_code 44 = .ok (.l2i, 1) := by decide +kernel
theorem d2_45 : decode prog_20_method_3_code 45 = .ok (.i2b, 1) := by decide +kernel
theorem d2_46 : decode prog_20_method_3_code 46 = .ok (.bastore, 1) := by decide +kernel
theorem d2_47 : decode prog_20_method_3_code 47 = .ok (.lload 7, 2) := by decide +kernel
theorem d2_49 : decode prog_20_method_3_code 49 = .ok (.ldc2_w 7, 3) := by decide +kernel
theorem d2_52 : decode prog_20_method_3_code 52 = .ok (.ldiv, 1) := by decide +kernel
theorem d2_53 : decode prog_20_method_3_code 53 = .ok (.lstore 7, 2) := by decide +kernel
theorem d2_55 : decode prog_20_method_3_code 55 = .ok (.goto (-42), 3) := by decide +kernel
theorem d2_58 : decode prog_20_method_3_code 58 = .ok (.lload 7, 2) := by decide +kernel
theorem d2_60 : decode prog_20_method_3_code 60 = .ok (.l2i, 1) := by decide +kernel
theorem d2_61 : decode prog_20_method_3_code 61 = .ok (.istore 9, 2) := by decide +kernel
theorem d2_63 : decode prog_20_method_3_code 63 = .ok (.iload 6, 2) := by decide +kernel
theorem d2_65 : decode prog_20_method_3_code 65 = .ok (.iload_n 1, 1) := by decide +kernel
theorem d2_66 : decode prog_20_method_3_code 66 = .ok (.isub, 1) := by decide +kernel
theorem d2_67 : decode prog_20_method_3_code 67 = .ok (.iconst 2, 1) := by decide +kernel
theorem d2_68 : decode prog_20_method_3_code 68 = .ok (.if_icmp .lt 46, 3) := by decide +kernel
theorem d2_71 : decode prog_20_method_3_code 71 = .ok (.iload 9, 2) := by decide +kernel
theorem d2_73 : decode prog_20_method_3_code 73 = .ok (.bipush 100, 2) := by decide +kernel
theorem d2_75 : decode prog_20_method_3_code 75 = .ok (.irem, 1) := by decide +kernel
theorem d2_76 : decode prog_20_method_3_code 76 = .ok (.istore 10, 2) := by decide +kernel
theorem d2_78 : decode prog_20_method_3_code 78 = .ok (.aload_n 0, 1) := by decide +kernel
theorem d2_79 : decode prog_20_method_3_code 79 = .ok (.iinc 6 (-1), 3) := by decide +kernel
theorem d2_82 : decode prog_20_method_3_code 82 = .ok (.iload 6, 2) := by decide +kernel
theorem d2_84 : decode prog_20_method_3_code 84 = .ok (.getstatic 17, 3) := by decide +kernel
theorem d2_87 : decode prog_20_method_3_code 87 = .ok (.iload 10, 2) := by decide +kernel
theorem d2_89 : decode prog_20_method_3_code 89 = .ok (.baload, 1) := by decide +kernel
theorem d2_90 : decode prog_20_method_3_code 90 = .ok (.bastore, 1) := by decide +kernel
theorem d2_91 : decode prog_20_method_3_code 91 = .ok (.aload_n 0, 1) := by decide +kernel
theorem d2_92 : decode prog_20_method_3_code 92 = .ok (.iinc 6 (-1), 3) := by decide +kernel
theorem d2_95 : decode prog_20_method_3_code 95 = .ok (.iload 6, 2) := by decide +kernel
theorem d2_97 : decode prog_20_method_3_code 97 = .ok (.getstatic 21, 3) := by decide +kernel
theorem d2_100 : decode prog_20_method_3_code 100 = .ok (.iload 10, 2) := by decide +kernel
theorem d2_102 : decode prog_20_method_3_code 102 = .ok (.baload, 1) := by decide +kernel
theorem d2_103 : decode prog_20_method_3_code 103 = .ok (.bastore, 1) := by decide +kernel
theorem d2_104 : decode prog_20_method_3_code 104 = .ok (.iload 9, 2) := by decide +kernel
theorem d2_106 : decode prog_20_method_3_code 106 = .ok (.bipush 100, 2) := by decide +kernel
theorem d2_108 : decode prog_20_method_3_code 108 = .ok (.idiv, 1) := by decide +kernel
theorem d2_109 : decode prog_20_method_3_code 109 = .ok (.istore 9, 2) := by decide +kernel
theorem d2_111 : decode prog_20_method_3_code 111 = .ok (.goto (-48), 3) := by decide +kernel
theorem d2_114 : decode prog_20_method_3_code 114 = .ok (.iload 6, 2) := by decide +kernel
theorem d2_116 : decode prog_20_method_3_code 116 = .ok (.iload_n 1, 1) := by decide +kernel
theorem d2_117 : decode prog_20_method_3_code 117 = .ok (.if_icmp .le 19, 3) := by decide +kernel
theorem d2_120 : decode prog_20_method_3_code 120 = .ok (.aload_n 0, 1) := by decide +kernel
theorem d2_121 : decode prog_20_method_3_code 121 = .ok (.iinc 6 (-1), 3) := by decide +kernel
theorem d2_124 : decode prog_20_method_3_code 124 = .ok (.iload 6, 2) := by decide +kernel
theorem d2_126 : decode prog_20_method_3_code 126 = .ok (.bipush 48, 2) := by decide +kernel
theorem d2_128 : decode prog_20_method_3_code 128 = .ok (.iload 9, 2) := by decide +kernel
theorem d2_130 : decode prog_20_method_3_code 130 = .ok (.bipush 10, 2) := by decide +kernel
theorem d2_132 : decode prog_20_method_3_code 132 = .ok (.irem, 1) := by decide +kernel
theorem d2_133 : decode prog_20_method_3_code 133 = .ok (.iadd, 1) := by decide +kernel
theorem d2_134 : decode prog_20_method_3_code 134 = .ok (.i2b, 1) := by decide +kernel
theorem d2_135 : decode prog_20_method_3_code 135 = .ok (.bastore, 1) := by decide +kernel
theorem d2_136 : decode prog_20_method_3_code 136 = .ok (.iload 5, 2) := by decide +kernel
theorem d2_138 : decode prog_20_method_3_code 138 = .ok (.ireturn, 1) := by decide +kernel
theorem d3_0 : decode method_3_code 0 = .ok (.iload_n 1, 1) := by decide +kernel
theorem d3_1 : decode method_3_code 1 = .ok (.iload_n 2, 1) := by decide +kernel
theorem d3_2 : decode method_3_code 2 = .ok (.if_icmp .lt 10, 3) := by decide +kernel
theorem d3_5 : decode method_3_code 5 = .ok (.iload_n 1, 1) := by decide +kernel
theorem d3_6 : decode method_3_code 6 = .ok (.iload_n 2, 1) := by decide +kernel
theorem d3_7 : decode method_3_code 7 = .ok (.iload_n 3, 1) := by decide +kernel
theorem d3_8 : decode method_3_code 8 = .ok (.iadd, 1) := by decide +kernel
theorem d3_9 : decode method_3_code 9 = .ok (.if_icmp .lt 15, 3) := by decide +kernel
theorem d3_12 : decode method_3_code 12 = .ok (.aload_n 0, 1) := by decide +kernel
theorem d3_13 : decode method_3_code 13 = .ok (.iload_n 1, 1) := by decide +kernel
theorem d3_14 : decode method_3_code 14 = .ok (.baload, 1) := by decide +kernel
theorem d3_15 : decode method_3_code 15 = .ok (.ifCond .ne 7, 3) := by decide +kernel
theorem d3_18 : decode method_3_code 18 = .ok (.iconst 1, 1) := by decide +kernel
theorem d3_19 : decode method_3_code 19 = .ok (.goto 4, 3) := by decide +kernel
theorem d3_23 : decode method_3_code 23 = .ok (.ireturn, 1) := by decide +kernel
theorem d3_24 : decode method_3_code 24 = .ok (.iload_n 2, 1) := by decide +kernel
theorem d3_25 : decode method_3_code 25 = .ok (.iload_n 3, 1) := by decide +kernel
theorem d3_26 : decode method_3_code 26 = .ok (.iadd, 1) := by decide +kernel
theorem d3_27 : decode method_3_code 27 = .ok (.iconst 1, 1) := by decide +kernel
theorem d3_28 : decode method_3_code 28 = .ok (.isub, 1) := by decide +kernel
theorem d3_29 : decode method_3_code 29 = .ok (.iload_n 1, 1) := by decide +kernel
theorem d3_30 : decode method_3_code 30 = .ok (.isub, 1) := by decide +kernel
theorem d3_31 : decode method_3_code 31 = .ok (.istore 7, 2) := by decide +kernel
theorem d3_33 : decode method_3_code 33 = .ok (.iload 7, 2) := by decide +kernel
theorem d3_35 : decode method_3_code 35 = .ok (.bipush 19, 2) := by decide +kernel
theorem d3_37 : decode method_3_code 37 = .ok (.if_icmp .lt 7, 3) := by decide +kernel
theorem d3_40 : decode method_3_code 40 = .ok (.lconst 0, 1) := by decide +kernel
theorem d3_41 : decode method_3_code 41 = .ok (.goto 15, 3) := by decide +kernel
theorem d3_44 : decode method_3_code 44 = .ok (.lload 4, 2) := by decide +kernel
theorem d3_46 : decode method_3_code 46 = .ok (.aload 6, 2) := by decide +kernel
theorem d3_48 : decode method_3_code 48 = .ok (.iload 7, 2) := by decide +kernel
theorem d3_50 : decode method_3_code 50 = .ok (.laload, 1) := by decide +kernel
theorem d3_51 : decode method_3_code 51 = .ok (.ldiv, 1) := by decide +kernel
theorem d3_52 : decode method_3_code 52 = .ok (.ldc2_w 7, 3) := by decide +kernel
theorem d3_55 : decode method_3_code 55 = .ok (.lrem, 1) := by decide +kernel
theorem d3_56 : decode method_3_code 56 = .ok (.lstore 8, 2) := by decide +kernel
theorem d3_58 : decode method_3_code 58 = .ok (.aload_n 0, 1) := by decide +kernel
theorem d3_59 : decode method_3_code 59 = .ok (.iload_n 1, 1) := by decide +kernel
theorem d3_60 : decode method_3_code 60 = .ok (.baload, 1) := by decide +kernel
theorem d3_61 : decode method_3_code 61 = .ok (.ldc2_w 43, 3) := by decide +kernel
theorem d3_64 : decode method_3_code 64 = .ok (.lload 8, 2) := by decide +kernel
theorem d3_66 : decode method_3_code 66 = .ok (.ladd, 1) := by decide +kernel
theorem d3_67 : decode method_3_code 67 = .ok (.l2i, 1) := by decide +kernel
theorem d3_68 : decode method_3_code 68 = .ok (.i2b, 1) := by decide +kernel
theorem d3_69 : decode method_3_code 69 = .ok (.if_icmp .ne 7, 3) := by decide +kernel
theorem d3_72 : decode method_3_code 72 = .ok (.iconst 1, 1) := by decide +kernel
theorem d3_73 : decode method_3_code 73 = .ok (.goto 4, 3) := by decide +kernel
theorem d3_77 : decode method_3_code 77 = .ok (.ireturn, 1) := by decide +kernel
theorem pd_0 : parseMethodDescriptor "()[J" = some ⟨[], some (.array .long)⟩ := by decide +kernel
theorem pd_1 : parseMethodDescriptor "([BIJI)I" = some ⟨[(.array .byte), .int, .long, .int], some .int⟩ := by decide +kernel
theorem pd_2 : parseMethodDescriptor "([BIIIJ[J)Z" = some ⟨[(.array .byte), .int, .int, .int, .long, (.array .long)], some .boolean⟩ := by decide +kernel
theorem pn_0 : plainName "io/tagwire/codec/DecimalPutPinLaw" = true := by first | (simp [plainName, overriddenIn]; done) | decide +kernel
theorem pn_1 : plainName "io/tagwire/codec/Decimal" = true := by first | (simp [plainName, overriddenIn]; done) | decide +kernel
theorem ef_put (x0 : Addr) (x1 : Int32) (x2 : Int64) (x3 : Int32) (m : MethodId) : entryFrame m #[(.ref x0), (.int x1), (.long x2), (.int x3)] 11 = mkF m 0 #[.val (.ref x0), .val (.int x1), .val (.long x2), .second, .val (.int x3), .unset, .unset, .unset, .unset, .unset, .unset] [] := by first | (simp [entryFrame, mkF, argsToLocals, Value.category]; done) | rfl
theorem ef_cell (x0 : Addr) (x1 : Int32) (x2 : Int32) (x3 : Int32) (x4 : Int64) (x5 : Addr) (m : MethodId) : entryFrame m #[(.ref x0), (.int x1), (.int x2), (.int x3), (.long x4), (.ref x5)] 10 = mkF m 0 #[.val (.ref x0), .val (.int x1), .val (.int x2), .val (.int x3), .val (.long x4), .second, .val (.ref x5), .unset, .unset, .unset] [] := by first | (simp [entryFrame, mkF, argsToLocals, Value.category]; done) | rfl
theorem ef_0 (x0 : Int64) (x1 : Int32) (x2 : Int32) (m : MethodId) : entryFrame m #[(.long x0), (.int x1), (.int x2)] maxLocals = mkF m 0 #[.val (.long x0), .second, .val (.int x1), .val (.int x2), .unset, .unset, .unset, .unset, .unset, .unset, .unset, .unset, .unset, .unset] [] := by first | (simp [entryFrame, mkF, argsToLocals, Value.category, maxLocals]; done) | rfl
theorem ef_pw (m : MethodId) : entryFrame m #[] 0 = mkF m 0 #[] [] := by first | (simp [entryFrame, mkF, argsToLocals, Value.category]; done) | rfl
set_option maxRecDepth 65536 in
set_option maxHeartbeats 40000000 in
theorem pw_ct {l : Launch} {Z : State} {a0 : Array Value} (hw : ∀ d ∈ tables_1, d.before a0 Z = true) (h0 : Heap) (n0 : Nat) (Z0 : n0 ≤ h0.size) :
    Ct l Z (⟨"io/tagwire/codec/DecimalPutPinLaw", "powers", "()[J"⟩ : MethodName) method_2_code 0 (some (.array .long)) ({ frames := 0, cells := 1, slots := 19, locals := 0 } : Room) n0 #[] h0 (fun v h' => ∃ pa : Addr, v = some (.ref pa) ∧ n0 ≤ pa ∧ Keep h0 h' [] ∧ Ary Z h' pa .long own_pws) := by
  refine Ct.of (plainFor_of_name pn_0) (fun m => ef_pw m) ?_
  intro W V H r0
  have r1 : W h0 0 0 2 #[] [(.int (19 : Int32))] := (H.bipush (z := (19 : Int32)) d1_0 r0 rfl)
  obtain ⟨h2, pa, ea3, E4, A5, r6⟩ := H.newA (i := 19) (cap := 19) (d := (.long 0)) rfl rfl (hw _ (List.mem_of_getElem? (i := 4) rfl)) (by decide) (by decide) (by decide) (by decide) (by decide) d1_2 r1
  have N7 : n0 ≤ pa := by rw [ea3]; exact Z0
  have Y8 : h0.size ≤ pa := by rw [ea3]; exact (Nat.le_refl _)
  have Z9 : n0 ≤ h2.size := Nat.le_trans Z0 E4.1
  have Y10 : h0.size ≤ h2.size := Nat.le_trans (Nat.le_refl _) E4.1
  have A5l : Ary Z h2 pa .long [.long 0, .long 0, .long 0, .long 0, .long 0, .long 0, .long 0, .long 0, .long 0, .long 0, .long 0, .long 0, .long 0, .long 0, .long 0, .long 0, .long 0, .long 0, .long 0] := A5
  replace r6 : W h2 1 19 4 #[] [(.ref pa)] := r6
  have r11 : W h2 1 19 7 #[] [(.long (1 : Int64)), (.int (0 : Int32)), (.ref pa), (.ref pa)] := (H.lconst (z := (1 : Int64)) d1_6 (H.iconst (z := (0 : Int32)) d1_5 (H.dup d1_4 r6 rfl) rfl) rfl)
  obtain ⟨h12, w13, A14, r15⟩ := H.putJ (i := 0) A5l (by decide) (by decide : 0 < 19) N7 d1_7 r11
  have Z16 : n0 ≤ h12.size := by rw [w13.size]; exact Z9
  have Y17 : h0.size ≤ h12.size := by rw [w13.size]; exact Y10
  replace A14 : Ary Z h12 pa .long [.long (1 : Int64), .long 0, .long 0, .long 0, .long 0, .long 0, .long 0, .long 0, .long 0, .long 0, .long 0, .long 0, .long 0, .long 0, .long 0, .long 0, .long 0, .long 0, .long 0] := A14
  replace r15 : W h12 1 19 8 #[] [(.ref pa)] := r15
  have r18 : W h12 1 19 13 #[] [(.long (10 : Int64)), (.int (1 : Int32)), (.ref pa), (.ref pa)] := (H.ldcLong d1_10 (H.iconst (z := (1 : Int32)) d1_9 (H.dup d1_8 r15 rfl) rfl) (hw _ (List.mem_of_getElem? (i := 5) rfl)))
  obtain ⟨h19, w20, A21, r22⟩ := H.putJ (i := 1) A14 (by decide) (by decide : 1 < 19) N7 d1_13 r18
  have Z23 : n0 ≤ h19.size := by rw [w20.size]; exact Z16
  have Y24 : h0.size ≤ h19.size := by rw [w20.size]; exact Y17
  replace A21 : Ary Z h19 pa .long [.long (1 : Int64), .long (10 : Int64), .long 0, .long 0, .long 0, .long 0, .long 0, .long 0, .long 0, .long 0, .long 0, .long 0, .long 0, .long 0, .long 0, .long 0, .long 0, .long 0, .long 0] := A21
  replace r22 : W h19 1 19 14 #[] [(.ref pa)] := r22
  have r25 : W h19 1 19 19 #[] [(.long (100 : Int64)), (.int (2 : Int32)), (.ref pa), (.ref pa)] := (H.ldcLong d1_16 (H.iconst (z := (2 : Int32)) d1_15 (H.dup d1_14 r22 rfl) rfl) (hw _ (List.mem_of_getElem? (i := 6) rfl)))
  obtain ⟨h26, w27, A28, r29⟩ := H.putJ (i := 2) A21 (by decide) (by decide : 2 < 19) N7 d1_19 r25
  have Z30 : n0 ≤ h26.size := by rw [w27.size]; exact Z23
  have Y31 : h0.size ≤ h26.size := by rw [w27.size]; exact Y24
  replace A28 : Ary Z h26 pa .long [.long (1 : Int64), .long (10 : Int64), .long (100 : Int64), .long 0, .long 0, .long 0, .long 0, .long 0, .long 0, .long 0, .long 0, .long 0, .long 0, .long 0, .long 0, .long 0, .long 0, .long 0, .long 0] := A28
  replace r29 : W h26 1 19 20 #[] [(.ref pa)] := r29
  have r32 : W h26 1 19 25 #[] [(.long (1000 : Int64)), (.int (3 : Int32)), (.ref pa), (.ref pa)] := (H.ldcLong d1_22 (H.iconst (z := (3 : Int32)) d1_21 (H.dup d1_20 r29 rfl) rfl) (hw _ (List.mem_of_getElem? (i := 7) rfl)))
  obtain ⟨h33, w34, A35, r36⟩ := H.putJ (i := 3) A28 (by decide) (by decide : 3 < 19) N7 d1_25 r32
  have Z37 : n0 ≤ h33.size := by rw [w34.size]; exact Z30
  have Y38 : h0.size ≤ h33.size := by rw [w34.size]; exact Y31
  replace A35 : Ary Z h33 pa .long [.long (1 : Int64), .long (10 : Int64), .long (100 : Int64), .long (1000 : Int64), .long 0, .long 0, .long 0, .long 0, .long 0, .long 0, .long 0, .long 0, .long 0, .long 0, .long 0, .long 0, .long 0, .long 0, .long 0] := A35
  replace r36 : W h33 1 19 26 #[] [(.ref pa)] := r36
  have r39 : W h33 1 19 31 #[] [(.long (10000 : Int64)), (.int (4 : Int32)), (.ref pa), (.ref pa)] := (H.ldcLong d1_28 (H.iconst (z := (4 : Int32)) d1_27 (H.dup d1_26 r36 rfl) rfl) (hw _ (List.mem_of_getElem? (i := 8) rfl)))
  obtain ⟨h40, w41, A42, r43⟩ := H.putJ (i := 4) A35 (by decide) (by decide : 4 < 19) N7 d1_31 r39
  have Z44 : n0 ≤ h40.size := by rw [w41.size]; exact Z37
  have Y45 : h0.size ≤ h40.size := by rw [w41.size]; exact Y38
  replace A42 : Ary Z h40 pa .long [.long (1 : Int64), .long (10 : Int64), .long (100 : Int64), .long (1000 : Int64), .long (10000 : Int64), .long 0, .long 0, .long 0, .long 0, .long 0, .long 0, .long 0, .long 0, .long 0, .long 0, .long 0, .long 0, .long 0, .long 0] := A42
  replace r43 : W h40 1 19 32 #[] [(.ref pa)] := r43
  have r46 : W h40 1 19 37 #[] [(.long (100000 : Int64)), (.int (5 : Int32)), (.ref pa), (.ref pa)] := (H.ldcLong d1_34 (H.iconst (z := (5 : Int32)) d1_33 (H.dup d1_32 r43 rfl) rfl) (hw _ (List.mem_of_getElem? (i := 9) rfl)))
  obtain ⟨h47, w48, A49, r50⟩ := H.putJ (i := 5) A42 (by decide) (by decide : 5 < 19) N7 d1_37 r46
  have Z51 : n0 ≤ h47.size := by rw [w48.size]; exact Z44
  have Y52 : h0.size ≤ h47.size := by rw [w48.size]; exact Y45
  replace A49 : Ary Z h47 pa .long [.long (1 : Int64), .long (10 : Int64), .long (100 : Int64), .long (1000 : Int64), .long (10000 : Int64), .long (100000 : Int64), .long 0, .long 0, .long 0, .long 0, .long 0, .long 0, .long 0, .long 0, .long 0, .long 0, .long 0, .long 0, .long 0] := A49
  replace r50 : W h47 1 19 38 #[] [(.ref pa)] := r50
  have r53 : W h47 1 19 44 #[] [(.long (1000000 : Int64)), (.int (6 : Int32)), (.ref pa), (.ref pa)] := (H.ldcLong d1_41 (H.bipush (z := (6 : Int32)) d1_39 (H.dup d1_38 r50 rfl) rfl) (hw _ (List.mem_of_getElem? (i := 10) rfl)))
  obtain ⟨h54, w55, A56, r57⟩ := H.putJ (i := 6) A49 (by decide) (by decide : 6 < 19) N7 d1_44 r53
  have Z58 : n0 ≤ h54.size := by rw [w55.size]; exact Z51
  have Y59 : h0.size ≤ h54.size := by rw [w55.size]; exact Y52
  replace A56 : Ary Z h54 pa .long [.long (1 : Int64), .long (10 : Int64), .long (100 : Int64), .long (1000 : Int64), .long (10000 : Int64), .long (100000 : Int64), .long (1000000 : Int64), .long 0, .long 0, .long 0, .long 0, .long 0, .long 0, .long 0, .long 0, .long 0, .long 0, .long 0, .long 0] := A56
  replace r57 : W h54 1 19 45 #[] [(.ref pa)] := r57
  have r60 : W h54 1 19 51 #[] [(.long (10000000 : Int64)), (.int (7 : Int32)), (.ref pa), (.ref pa)] := (H.ldcLong d1_48 (H.bipush (z := (7 : Int32)) d1_46 (H.dup d1_45 r57 rfl) rfl) (hw _ (List.mem_of_getElem? (i := 11) rfl)))
  obtain ⟨h61, w62, A63, r64⟩ := H.putJ (i := 7) A56 (by decide) (by decide : 7 < 19) N7 d1_51 r60
  have Z65 : n0 ≤ h61.size := by rw [w62.size]; exact Z58
  have Y66 : h0.size ≤ h61.size := by rw [w62.size]; exact Y59
  replace A63 : Ary Z h61 pa .long [.long (1 : Int64), .long (10 : Int64), .long (100 : Int64), .long (1000 : Int64), .long (10000 : Int64), .long (100000 : Int64), .long (1000000 : Int64), .long (10000000 : Int64), .long 0, .long 0, .long 0, .long 0, .long 0, .long 0, .long 0, .long 0, .long 0, .long 0, .long 0] := A63
  replace r64 : W h61 1 19 52 #[] [(.ref pa)] := r64
  have r67 : W h61 1 19 58 #[] [(.long (100000000 : Int64)), (.int (8 : Int32)), (.ref pa), (.ref pa)] := (H.ldcLong d1_55 (H.bipush (z := (8 : Int32)) d1_53 (H.dup d1_52 r64 rfl) rfl) (hw _ (List.mem_of_getElem? (i := 12) rfl)))
  obtain ⟨h68, w69, A70, r71⟩ := H.putJ (i := 8) A63 (by decide) (by decide : 8 < 19) N7 d1_58 r67
  have Z72 : n0 ≤ h68.size := by rw [w69.size]; exact Z65
  have Y73 : h0.size ≤ h68.size := by rw [w69.size]; exact Y66
  replace A70 : Ary Z h68 pa .long [.long (1 : Int64), .long (10 : Int64), .long (100 : Int64), .long (1000 : Int64), .long (10000 : Int64), .long (100000 : Int64), .long (1000000 : Int64), .long (10000000 : Int64), .long (100000000 : Int64), .long 0, .long 0, .long 0, .long 0, .long 0, .long 0, .long 0, .long 0, .long 0, .long 0] := A70
  replace r71 : W h68 1 19 59 #[] [(.ref pa)] := r71
  have r74 : W h68 1 19 65 #[] [(.long (1000000000 : Int64)), (.int (9 : Int32)), (.ref pa), (.ref pa)] := (H.ldcLong d1_62 (H.bipush (z := (9 : Int32)) d1_60 (H.dup d1_59 r71 rfl) rfl) (hw _ (List.mem_of_getElem? (i := 13) rfl)))
  obtain ⟨h75, w76, A77, r78⟩ := H.putJ (i := 9) A70 (by decide) (by decide : 9 < 19) N7 d1_65 r74
  have Z79 : n0 ≤ h75.size := by rw [w76.size]; exact Z72
  have Y80 : h0.size ≤ h75.size := by rw [w76.size]; exact Y73
  replace A77 : Ary Z h75 pa .long [.long (1 : Int64), .long (10 : Int64), .long (100 : Int64), .long (1000 : Int64), .long (10000 : Int64), .long (100000 : Int64), .long (1000000 : Int64), .long (10000000 : Int64), .long (100000000 : Int64), .long (1000000000 : Int64), .long 0, .long 0, .long 0, .long 0, .long 0, .long 0, .long 0, .long 0, .long 0] := A77
  replace r78 : W h75 1 19 66 #[] [(.ref pa)] := r78
  have r81 : W h75 1 19 72 #[] [(.long (10000000000 : Int64)), (.int (10 : Int32)), (.ref pa), (.ref pa)] := (H.ldcLong d1_69 (H.bipush (z := (10 : Int32)) d1_67 (H.dup d1_66 r78 rfl) rfl) (hw _ (List.mem_of_getElem? (i := 14) rfl)))
  obtain ⟨h82, w83, A84, r85⟩ := H.putJ (i := 10) A77 (by decide) (by decide : 10 < 19) N7 d1_72 r81
  have Z86 : n0 ≤ h82.size := by rw [w83.size]; exact Z79
  have Y87 : h0.size ≤ h82.size := by rw [w83.size]; exact Y80
  replace A84 : Ary Z h82 pa .long [.long (1 : Int64), .long (10 : Int64), .long (100 : Int64), .long (1000 : Int64), .long (10000 : Int64), .long (100000 : Int64), .long (1000000 : Int64), .long (10000000 : Int64), .long (100000000 : Int64), .long (1000000000 : Int64), .long (10000000000 : Int64), .long 0, .long 0, .long 0, .long 0, .long 0, .long 0, .long 0, .long 0] := A84
  replace r85 : W h82 1 19 73 #[] [(.ref pa)] := r85
  have r88 : W h82 1 19 79 #[] [(.long (100000000000 : Int64)), (.int (11 : Int32)), (.ref pa), (.ref pa)] := (H.ldcLong d1_76 (H.bipush (z := (11 : Int32)) d1_74 (H.dup d1_73 r85 rfl) rfl) (hw _ (List.mem_of_getElem? (i := 15) rfl)))
  obtain ⟨h89, w90, A91, r92⟩ := H.putJ (i := 11) A84 (by decide) (by decide : 11 < 19) N7 d1_79 r88
  have Z93 : n0 ≤ h89.size := by rw [w90.size]; exact Z86
  have Y94 : h0.size ≤ h89.size := by rw [w90.size]; exact Y87
  replace A91 : Ary Z h89 pa .long [.long (1 : Int64), .long (10 : Int64), .long (100 : Int64), .long (1000 : Int64), .long (10000 : Int64), .long (100000 : Int64), .long (1000000 : Int64), .long (10000000 : Int64), .long (100000000 : Int64), .long (1000000000 : Int64), .long (10000000000 : Int64), .long (100000000000 : Int64), .long 0, .long 0, .long 0, .long 0, .long 0, .long 0, .long 0] := A91
  replace r92 : W h89 1 19 80 #[] [(.ref pa)] := r92
  have r95 : W h89 1 19 86 #[] [(.long (1000000000000 : Int64)), (.int (12 : Int32)), (.ref pa), (.ref pa)] := (H.ldcLong d1_83 (H.bipush (z := (12 : Int32)) d1_81 (H.dup d1_80 r92 rfl) rfl) (hw _ (List.mem_of_getElem? (i := 16) rfl)))
  obtain ⟨h96, w97, A98, r99⟩ := H.putJ (i := 12) A91 (by decide) (by decide : 12 < 19) N7 d1_86 r95
  have Z100 : n0 ≤ h96.size := by rw [w97.size]; exact Z93
  have Y101 : h0.size ≤ h96.size := by rw [w97.size]; exact Y94
  replace A98 : Ary Z h96 pa .long [.long (1 : Int64), .long (10 : Int64), .long (100 : Int64), .long (1000 : Int64), .long (10000 : Int64), .long (100000 : Int64), .long (1000000 : Int64), .long (10000000 : Int64), .long (100000000 : Int64), .long (1000000000 : Int64), .long (10000000000 : Int64), .long (100000000000 : Int64), .long (1000000000000 : Int64), .long 0, .long 0, .long 0, .long 0, .long 0, .long 0] := A98
  replace r99 : W h96 1 19 87 #[] [(.ref pa)] := r99
  have r102 : W h96 1 19 93 #[] [(.long (10000000000000 : Int64)), (.int (13 : Int32)), (.ref pa), (.ref pa)] := (H.ldcLong d1_90 (H.bipush (z := (13 : Int32)) d1_88 (H.dup d1_87 r99 rfl) rfl) (hw _ (List.mem_of_getElem? (i := 17) rfl)))
  obtain ⟨h103, w104, A105, r106⟩ := H.putJ (i := 13) A98 (by decide) (by decide : 13 < 19) N7 d1_93 r102
  have Z107 : n0 ≤ h103.size := by rw [w104.size]; exact Z100
  have Y108 : h0.size ≤ h103.size := by rw [w104.size]; exact Y101
  replace A105 : Ary Z h103 pa .long [.long (1 : Int64), .long (10 : Int64), .long (100 : Int64), .long (1000 : Int64), .long (10000 : Int64), .long (100000 : Int64), .long (1000000 : Int64), .long (10000000 : Int64), .long (100000000 : Int64), .long (1000000000 : Int64), .long (10000000000 : Int64), .long (100000000000 : Int64), .long (1000000000000 : Int64), .long (10000000000000 : Int64), .long 0, .long 0, .long 0, .long 0, .long 0] := A105
  replace r106 : W h103 1 19 94 #[] [(.ref pa)] := r106
  have r109 : W h103 1 19 100 #[] [(.long (100000000000000 : Int64)), (.int (14 : Int32)), (.ref pa), (.ref pa)] := (H.ldcLong d1_97 (H.bipush (z := (14 : Int32)) d1_95 (H.dup d1_94 r106 rfl) rfl) (hw _ (List.mem_of_getElem? (i := 18) rfl)))
  obtain ⟨h110, w111, A112, r113⟩ := H.putJ (i := 14) A105 (by decide) (by decide : 14 < 19) N7 d1_100 r109
  have Z114 : n0 ≤ h110.size := by rw [w111.size]; exact Z107
  have Y115 : h0.size ≤ h110.size := by rw [w111.size]; exact Y108
  replace A112 : Ary Z h110 pa .long [.long (1 : Int64), .long (10 : Int64), .long (100 : Int64), .long (1000 : Int64), .long (10000 : Int64), .long (100000 : Int64), .long (1000000 : Int64), .long (10000000 : Int64), .long (100000000 : Int64), .long (1000000000 : Int64), .long (10000000000 : Int64), .long (100000000000 : Int64), .long (1000000000000 : Int64), .long (10000000000000 : Int64), .long (100000000000000 : Int64), .long 0, .long 0, .long 0, .long 0] := A112
  replace r113 : W h110 1 19 101 #[] [(.ref pa)] := r113
  have r116 : W h110 1 19 107 #[] [(.long (1000000000000000 : Int64)), (.int (15 : Int32)), (.ref pa), (.ref pa)] := (H.ldcLong d1_104 (H.bipush (z := (15 : Int32)) d1_102 (H.dup d1_101 r113 rfl) rfl) (hw _ (List.mem_of_getElem? (i := 19) rfl)))
  obtain ⟨h117, w118, A119, r120⟩ := H.putJ (i := 15) A112 (by decide) (by decide : 15 < 19) N7 d1_107 r116
  have Z121 : n0 ≤ h117.size := by rw [w118.size]; exact Z114
  have Y122 : h0.size ≤ h117.size := by rw [w118.size]; exact Y115
  replace A119 : Ary Z h117 pa .long [.long (1 : Int64), .long (10 : Int64), .long (100 : Int64), .long (1000 : Int64), .long (10000 : Int64), .long (100000 : Int64), .long (1000000 : Int64), .long (10000000 : Int64), .long (100000000 : Int64), .long (1000000000 : Int64), .long (10000000000 : Int64), .long (100000000000 : Int64), .long (1000000000000 : Int64), .long (10000000000000 : Int64), .long (100000000000000 : Int64), .long (1000000000000000 : Int64), .long 0, .long 0, .long 0] := A119
  replace r120 : W h117 1 19 108 #[] [(.ref pa)] := r120
  have r123 : W h117 1 19 114 #[] [(.long (10000000000000000 : Int64)), (.int (16 : Int32)), (.ref pa), (.ref pa)] := (H.ldcLong d1_111 (H.bipush (z := (16 : Int32)) d1_109 (H.dup d1_108 r120 rfl) rfl) (hw _ (List.mem_of_getElem? (i := 20) rfl)))
  obtain ⟨h124, w125, A126, r127⟩ := H.putJ (i := 16) A119 (by decide) (by decide : 16 < 19) N7 d1_114 r123
  have Z128 : n0 ≤ h124.size := by rw [w125.size]; exact Z121
  have Y129 : h0.size ≤ h124.size := by rw [w125.size]; exact Y122
  replace A126 : Ary Z h124 pa .long [.long (1 : Int64), .long (10 : Int64), .long (100 : Int64), .long (1000 : Int64), .long (10000 : Int64), .long (100000 : Int64), .long (1000000 : Int64), .long (10000000 : Int64), .long (100000000 : Int64), .long (1000000000 : Int64), .long (10000000000 : Int64), .long (100000000000 : Int64), .long (1000000000000 : Int64), .long (10000000000000 : Int64), .long (100000000000000 : Int64), .long (1000000000000000 : Int64), .long (10000000000000000 : Int64), .long 0, .long 0] := A126
  replace r127 : W h124 1 19 115 #[] [(.ref pa)] := r127
  have r130 : W h124 1 19 121 #[] [(.long (100000000000000000 : Int64)), (.int (17 : Int32)), (.ref pa), (.ref pa)] := (H.ldcLong d1_118 (H.bipush (z := (17 : Int32)) d1_116 (H.dup d1_115 r127 rfl) rfl) (hw _ (List.mem_of_getElem? (i := 21) rfl)))
  obtain ⟨h131, w132, A133, r134⟩ := H.putJ (i := 17) A126 (by decide) (by decide : 17 < 19) N7 d1_121 r130
  have Z135 : n0 ≤ h131.size := by rw [w132.size]; exact Z128
  have Y136 : h0.size ≤ h131.size := by rw [w132.size]; exact Y129
  replace A133 : Ary Z h131 pa .long [.long (1 : Int64), .long (10 : Int64), .long (100 : Int64), .long (1000 : Int64), .long (10000 : Int64), .long (100000 : Int64), .long (1000000 : Int64), .long (10000000 : Int64), .long (100000000 : Int64), .long (1000000000 : Int64), .long (10000000000 : Int64), .long (100000000000 : Int64), .long (1000000000000 : Int64), .long (10000000000000 : Int64), .long (100000000000000 : Int64), .long (1000000000000000 : Int64), .long (10000000000000000 : Int64), .long (100000000000000000 : Int64), .long 0] := A133
  replace r134 : W h131 1 19 122 #[] [(.ref pa)] := r134
  have r137 : W h131 1 19 128 #[] [(.long (1000000000000000000 : Int64)), (.int (18 : Int32)), (.ref pa), (.ref pa)] := (H.ldcLong d1_125 (H.bipush (z := (18 : Int32)) d1_123 (H.dup d1_122 r134 rfl) rfl) (hw _ (List.mem_of_getElem? (i := 22) rfl)))
  obtain ⟨h138, w139, A140, r141⟩ := H.putJ (i := 18) A133 (by decide) (by decide : 18 < 19) N7 d1_128 r137
  have Z142 : n0 ≤ h138.size := by rw [w139.size]; exact Z135
  have Y143 : h0.size ≤ h138.size := by rw [w139.size]; exact Y136
  replace A140 : Ary Z h138 pa .long [.long (1 : Int64), .long (10 : Int64), .long (100 : Int64), .long (1000 : Int64), .long (10000 : Int64), .long (100000 : Int64), .long (1000000 : Int64), .long (10000000 : Int64), .long (100000000 : Int64), .long (1000000000 : Int64), .long (10000000000 : Int64), .long (100000000000 : Int64), .long (1000000000000 : Int64), .long (10000000000000 : Int64), .long (100000000000000 : Int64), .long (1000000000000000 : Int64), .long (10000000000000000 : Int64), .long (100000000000000000 : Int64), .long (1000000000000000000 : Int64)] := A140
  replace r141 : W h138 1 19 129 #[] [(.ref pa)] := r141
  exact ⟨_, _, H.retR rfl rfl rfl (by decide) (by decide) d1_129 r141, pa, rfl, N7, (((((((((((((((((((((Keep.refl _ _).ext E4).wr w13 (Or.inr Y8)).wr w20 (Or.inr Y8)).wr w27 (Or.inr Y8)).wr w34 (Or.inr Y8)).wr w41 (Or.inr Y8)).wr w48 (Or.inr Y8)).wr w55 (Or.inr Y8)).wr w62 (Or.inr Y8)).wr w69 (Or.inr Y8)).wr w76 (Or.inr Y8)).wr w83 (Or.inr Y8)).wr w90 (Or.inr Y8)).wr w97 (Or.inr Y8)).wr w104 (Or.inr Y8)).wr w111 (Or.inr Y8)).wr w118 (Or.inr Y8)).wr w125 (Or.inr Y8)).wr w132 (Or.inr Y8)).wr w139 (Or.inr Y8)), A140⟩
set_option maxRecDepth 65536 in
set_option maxHeartbeats 40000000 in
theorem put_loop1 {l : Launch} {Z : State} {a0 : Array Value} (hw : ∀ d ∈ tables_1, d.before a0 Z = true) {R : Room} {n0 : Nat} {W : WT} {V : VT} (N t k : Nat) (num : Int64) (ta : Addr) (ht : t < 4) (hk : k ≤ 20) (N0 : n0 ≤ ta) (H : Wk l Z (⟨"io/tagwire/codec/Decimal", "put", "([BIJI)I"⟩ : MethodName) prog_20_method_3_code 11 (some .int) R n0 W V) :
    ∀ (m e : Nat) (rest : Int64) (h0 : Heap), k - e = m → e ≤ k → rest.toInt = ((N / 10 ^ e : Nat) : Int) → Ary Z h0 ta .byte (own_arr N (t + k) e) → Old Z n0 h0 → W h0 0 0 13 #[.val (.ref ta), .val (.int (Int32.ofNat t)), .val (.long num), .second, .val (.int (Int32.ofNat k)), .val (.int (Int32.ofNat (t + k))), .val (.int (Int32.ofNat (t + k - e))), .val (.long rest), .second, .unset, .unset] [] →
      ∃ (e' : Nat) (rest' : Int64) (h' : Heap), e' ≤ k ∧ rest'.toInt = ((N / 10 ^ e' : Nat) : Int) ∧ (¬ (2147483647 : Int64) < rest' ∨ e' = k) ∧ Keep h0 h' [ta] ∧ Ary Z h' ta .byte (own_arr N (t + k) e') ∧ Old Z n0 h' ∧ W h' 0 0 58 #[.val (.ref ta), .val (.int (Int32.ofNat t)), .val (.long num), .second, .val (.int (Int32.ofNat k)), .val (.int (Int32.ofNat (t + k))), .val (.int (Int32.ofNat (t + k - e'))), .val (.long rest'), .second, .unset, .unset] [] := by
  intro m
  induction m with
  | zero =>
    intro e rest h0 hm he hrest A0 O0 r0
    obtain rfl : e = k := by omega
    have r161 : W h0 0 0 19 #[.val (.ref ta), .val (.int (Int32.ofNat t)), .val (.long num), .second, .val (.int (Int32.ofNat e)), .val (.int (Int32.ofNat (t + e))), .val (.int (Int32.ofNat (t + e - e))), .val (.long rest), .second, .unset, .unset] [(.int (lcmpW rest (2147483647 : Int64)))] := (H.lcmp d2_18 (H.ldcLong d2_15 (H.lload d2_13 r0 rfl) (hw _ (List.mem_of_getElem? (i := 30) rfl))))
    by_cases h1 : (0 : Int32) < (lcmpW rest (2147483647 : Int64))
    · have r162 : W h0 0 0 22 #[.val (.ref ta), .val (.int (Int32.ofNat t)), .val (.long num), .second, .val (.int (Int32.ofNat e)), .val (.int (Int32.ofNat (t + e))), .val (.int (Int32.ofNat (t + e - e))), .val (.long rest), .second, .unset, .unset] [] := (H.ifNo d2_19 r161 (tlt h1).2.2.2)
      have r164 : W h0 0 0 58 #[.val (.ref ta), .val (.int (Int32.ofNat t)), .val (.long num), .second, .val (.int (Int32.ofNat e)), .val (.int (Int32.ofNat (t + e))), .val (.int (Int32.ofNat (t + e - e))), .val (.long rest), .second, .unset, .unset] [] := (H.icmpYes (pc' := 58) d2_25 (H.iloadN d2_24 (H.iload d2_22 r162 rfl) rfl) (by decide) (by decide) (flt (fun q => absurd ((own_ltN (by omega) (by omega)).mp q) (by omega))).2.2.2)
      exact ⟨e, rest, h0, he, hrest, Or.inr rfl, Keep.refl _ _, A0, O0, r164⟩
    · have r163 : W h0 0 0 58 #[.val (.ref ta), .val (.int (Int32.ofNat t)), .val (.long num), .second, .val (.int (Int32.ofNat e)), .val (.int (Int32.ofNat (t + e))), .val (.int (Int32.ofNat (t + e - e))), .val (.long rest), .second, .unset, .unset] [] := (H.ifYes (pc' := 58) d2_19 r161 (by decide) (by decide) (flt h1).2.2.2)
      exact ⟨e, rest, h0, he, hrest, Or.inl (fun q => h1 ((lw_gt _ _).mpr q)), Keep.refl _ _, A0, O0, r163⟩
  | succ m ih =>
    intro e rest h0 hm he hrest A0 O0 r0
    have r144 : W h0 0 0 19 #[.val (.ref ta), .val (.int (Int32.ofNat t)), .val (.long num), .second, .val (.int (Int32.ofNat k)), .val (.int (Int32.ofNat (t + k))), .val (.int (Int32.ofNat (t + k - e))), .val (.long rest), .second, .unset, .unset] [(.int (lcmpW rest (2147483647 : Int64)))] := (H.lcmp d2_18 (H.ldcLong d2_15 (H.lload d2_13 r0 rfl) (hw _ (List.mem_of_getElem? (i := 30) rfl))))
    by_cases h1 : (0 : Int32) < (lcmpW rest (2147483647 : Int64))
    · have r145 : W h0 0 0 22 #[.val (.ref ta), .val (.int (Int32.ofNat t)), .val (.long num), .second, .val (.int (Int32.ofNat k)), .val (.int (Int32.ofNat (t + k))), .val (.int (Int32.ofNat (t + k - e))), .val (.long rest), .second, .unset, .unset] [] := (H.ifNo d2_19 r144 (tlt h1).2.2.2)
      have r147 : W h0 0 0 25 #[.val (.ref ta), .val (.int (Int32.ofNat t)), .val (.long num), .second, .val (.int (Int32.ofNat k)), .val (.int (Int32.ofNat (t + k))), .val (.int (Int32.ofNat (t + k - e))), .val (.long rest), .second, .unset, .unset] [(.int (Int32.ofNat t)), (.int (Int32.ofNat (t + k - e)))] := (H.iloadN d2_24 (H.iload d2_22 r145 rfl) rfl)
      by_cases h2 : (Int32.ofNat t) < (Int32.ofNat (t + k - e))
      · have r148 : W h0 0 0 28 #[.val (.ref ta), .val (.int (Int32.ofNat t)), .val (.long num), .second, .val (.int (Int32.ofNat k)), .val (.int (Int32.ofNat (t + k))), .val (.int (Int32.ofNat (t + k - e))), .val (.long rest), .second, .unset, .unset] [] := (H.icmpNo d2_25 r147 (tlt h2).2.2.2)
        have hek : e < k := by rw [own_ltN (by omega) (by omega)] at h2; omega
        have r150 : W h0 0 0 32 #[.val (.ref ta), .val (.int (Int32.ofNat t)), .val (.long num), .second, .val (.int (Int32.ofNat k)), .val (.int (Int32.ofNat (t + k))), .val (.int ((Int32.ofNat (t + k - e)) + (-1 : Int32))), .val (.long rest), .second, .unset, .unset] [(.ref ta)] := (H.iinc (z := ((Int32.ofNat (t + k - e)) + (-1 : Int32))) d2_29 (H.aloadN d2_28 r148 rfl rfl) rfl rfl rfl)
        rw [own_m1 (by omega)] at r150
        have r151 : W h0 0 0 44 #[.val (.ref ta), .val (.int (Int32.ofNat t)), .val (.long num), .second, .val (.int (Int32.ofNat k)), .val (.int (Int32.ofNat (t + k))), .val (.int (Int32.ofNat (t + k - e - 1))), .val (.long rest), .second, .unset, .unset] [(.long ((48 : Int64) + (rest % (10 : Int64)))), (.int (Int32.ofNat (t + k - e - 1))), (.ref ta)] := (H.ladd d2_43 (H.lrem d2_42 (H.ldcLong d2_39 (H.lload d2_37 (H.ldcLong d2_34 (H.iload d2_32 r150 rfl) (hw _ (List.mem_of_getElem? (i := 39) rfl))) rfl) (hw _ (List.mem_of_getElem? (i := 40) rfl))) (by decide)))
        have r152 : W h0 0 0 46 #[.val (.ref ta), .val (.int (Int32.ofNat t)), .val (.long num), .second, .val (.int (Int32.ofNat k)), .val (.int (Int32.ofNat (t + k))), .val (.int (Int32.ofNat (t + k - e - 1))), .val (.long rest), .second, .unset, .unset] [(.int ((((48 : Int64) + (rest % (10 : Int64))).toInt32).toInt8.toInt32)), (.int (Int32.ofNat (t + k - e - 1))), (.ref ta)] := (H.i2b d2_45 (H.l2i d2_44 r151))
        obtain ⟨h153, w154, A155, r156⟩ := H.putB (i := (t + k - e - 1)) (z := (own_dg N e)) (by rw [own_d1 rest _ hrest]; exact own_nb _ (by omega)) A0 (own_ofNat (by omega)) (by rw [own_arr_len]; omega) N0 d2_46 r152
        have Z157 : n0 ≤ h153.size := by rw [w154.size]; exact (own_old O0)
        replace r156 : W h153 0 0 47 #[.val (.ref ta), .val (.int (Int32.ofNat t)), .val (.long num), .second, .val (.int (Int32.ofNat k)), .val (.int (Int32.ofNat (t + k))), .val (.int (Int32.ofNat (t + k - e - 1))), .val (.long rest), .second, .unset, .unset] [] := r156
        rw [own_arr_set N (t + k) e (by omega) (by omega)] at A155
        have r158 : W h153 0 0 55 #[.val (.ref ta), .val (.int (Int32.ofNat t)), .val (.long num), .second, .val (.int (Int32.ofNat k)), .val (.int (Int32.ofNat (t + k))), .val (.int (Int32.ofNat (t + k - e - 1))), .val (.long (rest / (10 : Int64))), .second, .unset, .unset] [] := (H.lstore d2_53 (H.ldiv d2_52 (H.ldcLong d2_49 (H.lload d2_47 r156 rfl) (hw _ (List.mem_of_getElem? (i := 40) rfl))) (by decide)) rfl)
        have r159 : W h153 0 0 13 #[.val (.ref ta), .val (.int (Int32.ofNat t)), .val (.long num), .second, .val (.int (Int32.ofNat k)), .val (.int (Int32.ofNat (t + k))), .val (.int (Int32.ofNat (t + k - e - 1))), .val (.long (rest / (10 : Int64))), .second, .unset, .unset] [] := (H.goto (pc' := 13) d2_55 r158 (by decide) (by decide))
        rw [show t + k - e - 1 = t + k - (e + 1) by omega] at r159
        have F160 := O0.wr w154 N0
        obtain ⟨e2, rest2, h2x, g1, g2, g3, K2, A2, O2, r2⟩ := ih (e + 1) _ _ (by omega) (by omega) (by rw [own_d2 rest _ hrest, own_div]) A155 F160 r159
        exact ⟨e2, rest2, h2x, g1, g2, g3, ((Keep.refl _ _).wr w154 (Or.inl (List.mem_of_getElem? (i := 0) rfl))).trans K2 (allS (Or.inl (List.mem_of_getElem? (i := 0) rfl)) all0), A2, O2, r2⟩
      · have r149 : W h0 0 0 58 #[.val (.ref ta), .val (.int (Int32.ofNat t)), .val (.long num), .second, .val (.int (Int32.ofNat k)), .val (.int (Int32.ofNat (t + k))), .val (.int (Int32.ofNat (t + k - e))), .val (.long rest), .second, .unset, .unset] [] := (H.icmpYes (pc' := 58) d2_25 r147 (by decide) (by decide) (flt h2).2.2.2)
        exact ⟨e, rest, h0, he, hrest, Or.inr (Nat.le_antisymm he (by rw [own_ltN (by omega) (by omega)] at h2; omega)), Keep.refl _ _, A0, O0, r149⟩
    · have r146 : W h0 0 0 58 #[.val (.ref ta), .val (.int (Int32.ofNat t)), .val (.long num), .second, .val (.int (Int32.ofNat k)), .val (.int (Int32.ofNat (t + k))), .val (.int (Int32.ofNat (t + k - e))), .val (.long rest), .second, .unset, .unset] [] := (H.ifYes (pc' := 58) d2_19 r144 (by decide) (by decide) (flt h1).2.2.2)
      exact ⟨e, rest, h0, he, hrest, Or.inl (fun q => h1 ((lw_gt _ _).mpr q)), Keep.refl _ _, A0, O0, r146⟩
set_option maxRecDepth 65536 in
set_option maxHeartbeats 40000000 in
theorem put_loop2 {l : Launch} {Z : State} {a0 : Array Value} (hw : ∀ d ∈ tables_1, d.before a0 Z = true) {R : Room} {n0 : Nat} {W : WT} {V : VT} (N t k : Nat) (num : Int64) (ta : Addr) (ht : t < 4) (hk : k ≤ 20) (N0 : n0 ≤ ta) (oa na : Addr) (fo ft : Nat → Int32) (TONES : own_tab Z "ONES" oa fo) (TTENS : own_tab Z "TENS" na ft) (hONES : ∀ p, p < 100 → fo p = Int32.ofNat (48 + p % 10)) (hTENS : ∀ p, p < 100 → ft p = Int32.ofNat (48 + p / 10)) (rest : Int64) (H : Wk l Z (⟨"io/tagwire/codec/Decimal", "put", "([BIJI)I"⟩ : MethodName) prog_20_method_3_code 11 (some .int) R n0 W V) :
    ∀ (m : Nat) (e : Nat) (small : Int32) (s10 : Slot) (h0 : Heap), k - e ≤ m → e ≤ k → (e < k → small.toInt = ((N / 10 ^ e : Nat) : Int)) → One s10 → Ary Z h0 ta .byte (own_arr N (t + k) e) → Old Z n0 h0 → W h0 0 0 63 #[.val (.ref ta), .val (.int (Int32.ofNat t)), .val (.long num), .second, .val (.int (Int32.ofNat k)), .val (.int (Int32.ofNat (t + k))), .val (.int (Int32.ofNat (t + k - e))), .val (.long rest), .second, .val (.int small), s10] [] →
      ∃ (e' : Nat) (small' : Int32) (s' : Slot) (h' : Heap), e' ≤ k ∧ (e' < k → small'.toInt = ((N / 10 ^ e' : Nat) : Int)) ∧ k - e' < 2 ∧ One s' ∧ Keep h0 h' [ta] ∧ Ary Z h' ta .byte (own_arr N (t + k) e') ∧ Old Z n0 h' ∧ W h' 0 0 114 #[.val (.ref ta), .val (.int (Int32.ofNat t)), .val (.long num), .second, .val (.int (Int32.ofNat k)), .val (.int (Int32.ofNat (t + k))), .val (.int (Int32.ofNat (t + k - e'))), .val (.long rest), .second, .val (.int small'), s'] [] := by
  intro m
  induction m with
  | zero =>
    intro e small s10 h0 hm he hsm0 o10 A0 O0 r0
    have h1 : Int32.ofNat (k - e) < (2 : Int32) := (own_ltN (j := 2) (by omega) (by omega)).mpr (by omega)
    have r194 : W h0 0 0 67 #[.val (.ref ta), .val (.int (Int32.ofNat t)), .val (.long num), .second, .val (.int (Int32.ofNat k)), .val (.int (Int32.ofNat (t + k))), .val (.int (Int32.ofNat (t + k - e))), .val (.long rest), .second, .val (.int small), s10] [(.int ((Int32.ofNat (t + k - e)) - (Int32.ofNat t)))] := (H.isub d2_66 (H.iloadN d2_65 (H.iload d2_63 r0 rfl) rfl))
    rw [own_subN (by omega) (by omega), show t + k - e - t = k - e by omega] at r194
    have r195 : W h0 0 0 114 #[.val (.ref ta), .val (.int (Int32.ofNat t)), .val (.long num), .second, .val (.int (Int32.ofNat k)), .val (.int (Int32.ofNat (t + k))), .val (.int (Int32.ofNat (t + k - e))), .val (.long rest), .second, .val (.int small), s10] [] := (H.icmpYes (pc' := 114) d2_68 (H.iconst (z := (2 : Int32)) d2_67 r194 rfl) (by decide) (by decide) (tlt h1).1)
    exact ⟨e, small, s10, h0, he, hsm0, by omega, o10, Keep.refl _ _, A0, O0, r195⟩
  | succ m ih =>
    intro e small s10 h0 hm he hsm0 o10 A0 O0 r0
    have r165 : W h0 0 0 67 #[.val (.ref ta), .val (.int (Int32.ofNat t)), .val (.long num), .second, .val (.int (Int32.ofNat k)), .val (.int (Int32.ofNat (t + k))), .val (.int (Int32.ofNat (t + k - e))), .val (.long rest), .second, .val (.int small), s10] [(.int ((Int32.ofNat (t + k - e)) - (Int32.ofNat t)))] := (H.isub d2_66 (H.iloadN d2_65 (H.iload d2_63 r0 rfl) rfl))
    rw [own_subN (by omega) (by omega), show t + k - e - t = k - e by omega] at r165
    have r166 : W h0 0 0 68 #[.val (.ref ta), .val (.int (Int32.ofNat t)), .val (.long num), .second, .val (.int (Int32.ofNat k)), .val (.int (Int32.ofNat (t + k))), .val (.int (Int32.ofNat (t + k - e))), .val (.long rest), .second, .val (.int small), s10] [(.int (2 : Int32)), (.int (Int32.ofNat (k - e)))] := (H.iconst (z := (2 : Int32)) d2_67 r165 rfl)
    by_cases h1 : (Int32.ofNat (k - e)) < (2 : Int32)
    · have r167 : W h0 0 0 114 #[.val (.ref ta), .val (.int (Int32.ofNat t)), .val (.long num), .second, .val (.int (Int32.ofNat k)), .val (.int (Int32.ofNat (t + k))), .val (.int (Int32.ofNat (t + k - e))), .val (.long rest), .second, .val (.int small), s10] [] := (H.icmpYes (pc' := 114) d2_68 r166 (by decide) (by decide) (tlt h1).1)
      have hx : k - e < 2 := (own_ltN (j := 2) (by omega) (by omega)).mp h1
      exact ⟨e, small, s10, h0, he, hsm0, hx, o10, Keep.refl _ _, A0, O0, r167⟩
    · have r168 : W h0 0 0 71 #[.val (.ref ta), .val (.int (Int32.ofNat t)), .val (.long num), .second, .val (.int (Int32.ofNat k)), .val (.int (Int32.ofNat (t + k))), .val (.int (Int32.ofNat (t + k - e))), .val (.long rest), .second, .val (.int small), s10] [] := (H.icmpNo d2_68 r166 (flt h1).1)
      have hx : 2 ≤ k - e := Nat.le_of_not_lt (fun q => h1 ((own_ltN (j := 2) (by omega) (by omega)).mpr q))
      have hsm : small.toInt = ((N / 10 ^ e : Nat) : Int) := hsm0 (by omega)
      have r169 : W h0 0 0 78 #[.val (.ref ta), .val (.int (Int32.ofNat t)), .val (.long num), .second, .val (.int (Int32.ofNat k)), .val (.int (Int32.ofNat (t + k))), .val (.int (Int32.ofNat (t + k - e))), .val (.long rest), .second, .val (.int small), .val (.int (small % (100 : Int32)))] [] := (H.istoreS d2_76 (H.irem d2_75 (H.bipush (z := (100 : Int32)) d2_73 (H.iload d2_71 r168 rfl) rfl) (by decide)) rfl o10)
      have hp := own_i1 small _ hsm
      have hp2 : ((small % (100 : Int32))).toInt = ((N / 10 ^ e % 100 : Nat) : Int) := hp
      generalize (small % (100 : Int32)) = pair at r169 hp2
      have hlt : N / 10 ^ e % 100 < 100 := Nat.mod_lt _ (by decide)
      have r170 : W h0 0 0 82 #[.val (.ref ta), .val (.int (Int32.ofNat t)), .val (.long num), .second, .val (.int (Int32.ofNat k)), .val (.int (Int32.ofNat (t + k))), .val (.int ((Int32.ofNat (t + k - e)) + (-1 : Int32))), .val (.long rest), .second, .val (.int small), .val (.int pair)] [(.ref ta)] := (H.iinc (z := ((Int32.ofNat (t + k - e)) + (-1 : Int32))) d2_79 (H.aloadN d2_78 r169 rfl rfl) rfl rfl rfl)
      rw [own_m1 (by omega)] at r170
      have r171 : W h0 0 0 84 #[.val (.ref ta), .val (.int (Int32.ofNat t)), .val (.long num), .second, .val (.int (Int32.ofNat k)), .val (.int (Int32.ofNat (t + k))), .val (.int (Int32.ofNat (t + k - e - 1))), .val (.long rest), .second, .val (.int small), .val (.int pair)] [(.int (Int32.ofNat (t + k - e - 1))), (.ref ta)] := (H.iload d2_82 r170 rfl)
      have r172 : W h0 0 0 87 #[.val (.ref ta), .val (.int (Int32.ofNat t)), .val (.long num), .second, .val (.int (Int32.ofNat k)), .val (.int (Int32.ofNat (t + k))), .val (.int (Int32.ofNat (t + k - e - 1))), .val (.long rest), .second, .val (.int small), .val (.int pair)] [(.ref oa), (.int (Int32.ofNat (t + k - e - 1))), (.ref ta)] := H.getS (hw _ (List.mem_of_getElem? (i := 31) rfl)) (Sta.ext O0.2 TONES.1) d2_84 r171
      have r173 : W h0 0 0 89 #[.val (.ref ta), .val (.int (Int32.ofNat t)), .val (.long num), .second, .val (.int (Int32.ofNat k)), .val (.int (Int32.ofNat (t + k))), .val (.int (Int32.ofNat (t + k - e - 1))), .val (.long rest), .second, .val (.int small), .val (.int pair)] [(.int pair), (.ref oa), (.int (Int32.ofNat (t + k - e - 1))), (.ref ta)] := (H.iload d2_87 r172 rfl)
      obtain ⟨cONES, qONES1, qONES2, qONES3⟩ := TONES.2
      have r174 : W h0 0 0 90 #[.val (.ref ta), .val (.int (Int32.ofNat t)), .val (.long num), .second, .val (.int (Int32.ofNat k)), .val (.int (Int32.ofNat (t + k))), .val (.int (Int32.ofNat (t + k - e - 1))), .val (.long rest), .second, .val (.int small), .val (.int pair)] [(.int (fo (N / 10 ^ e % 100))), (.int (Int32.ofNat (t + k - e - 1))), (.ref ta)] := H.baload (qONES1.ext O0.2) (by rw [(idx_ok hp2).1, qONES2]; exact fun u => u.elim (idx_ok hp2).2 (fun u => by omega)) (by rw [(idx_ok hp2).1]; exact qONES3 _ hlt) d2_89 r173
      obtain ⟨h175, w176, A177, r178⟩ := H.putB (i := (t + k - e - 1)) (z := (own_dg N e)) (by rw [hONES _ hlt, own_nb _ (by omega)]; unfold own_dg; rw [show N / 10 ^ e % 100 % 10 = N / 10 ^ e % 10 by omega]) A0 (own_ofNat (by omega)) (by rw [own_arr_len]; omega) N0 d2_90 r174
      have Z179 : n0 ≤ h175.size := by rw [w176.size]; exact (own_old O0)
      replace r178 : W h175 0 0 91 #[.val (.ref ta), .val (.int (Int32.ofNat t)), .val (.long num), .second, .val (.int (Int32.ofNat k)), .val (.int (Int32.ofNat (t + k))), .val (.int (Int32.ofNat (t + k - e - 1))), .val (.long rest), .second, .val (.int small), .val (.int pair)] [] := r178
      rw [own_arr_set N (t + k) e (by omega) (by omega)] at A177
      have r180 : W h175 0 0 95 #[.val (.ref ta), .val (.int (Int32.ofNat t)), .val (.long num), .second, .val (.int (Int32.ofNat k)), .val (.int (Int32.ofNat (t + k))), .val (.int ((Int32.ofNat (t + k - e - 1)) + (-1 : Int32))), .val (.long rest), .second, .val (.int small), .val (.int pair)] [(.ref ta)] := (H.iinc (z := ((Int32.ofNat (t + k - e - 1)) + (-1 : Int32))) d2_92 (H.aloadN d2_91 r178 rfl rfl) rfl rfl rfl)
      rw [own_m1 (by omega)] at r180
      have r181 : W h175 0 0 97 #[.val (.ref ta), .val (.int (Int32.ofNat t)), .val (.long num), .second, .val (.int (Int32.ofNat k)), .val (.int (Int32.ofNat (t + k))), .val (.int (Int32.ofNat (t + k - e - 1 - 1))), .val (.long rest), .second, .val (.int small), .val (.int pair)] [(.int (Int32.ofNat (t + k - e - 1 - 1))), (.ref ta)] := (H.iload d2_95 r180 rfl)
      have F182 := O0.wr w176 N0
      have r183 : W h175 0 0 100 #[.val (.ref ta), .val (.int (Int32.ofNat t)), .val (.long num), .second, .val (.int (Int32.ofNat k)), .val (.int (Int32.ofNat (t + k))), .val (.int (Int32.ofNat (t + k - e - 1 - 1))), .val (.long rest), .second, .val (.int small), .val (.int pair)] [(.ref na), (.int (Int32.ofNat (t + k - e - 1 - 1))), (.ref ta)] := H.getS (hw _ (List.mem_of_getElem? (i := 33) rfl)) (Sta.ext F182.2 TTENS.1) d2_97 r181
      have r184 : W h175 0 0 102 #[.val (.ref ta), .val (.int (Int32.ofNat t)), .val (.long num), .second, .val (.int (Int32.ofNat k)), .val (.int (Int32.ofNat (t + k))), .val (.int (Int32.ofNat (t + k - e - 1 - 1))), .val (.long rest), .second, .val (.int small), .val (.int pair)] [(.int pair), (.ref na), (.int (Int32.ofNat (t + k - e - 1 - 1))), (.ref ta)] := (H.iload d2_100 r183 rfl)
      obtain ⟨cTENS, qTENS1, qTENS2, qTENS3⟩ := TTENS.2
      have r185 : W h175 0 0 103 #[.val (.ref ta), .val (.int (Int32.ofNat t)), .val (.long num), .second, .val (.int (Int32.ofNat k)), .val (.int (Int32.ofNat (t + k))), .val (.int (Int32.ofNat (t + k - e - 1 - 1))), .val (.long rest), .second, .val (.int small), .val (.int pair)] [(.int (ft (N / 10 ^ e % 100))), (.int (Int32.ofNat (t + k - e - 1 - 1))), (.ref ta)] := H.baload (qTENS1.ext F182.2) (by rw [(idx_ok hp2).1, qTENS2]; exact fun u => u.elim (idx_ok hp2).2 (fun u => by omega)) (by rw [(idx_ok hp2).1]; exact qTENS3 _ hlt) d2_102 r184
      obtain ⟨h186, w187, A188, r189⟩ := H.putB (i := (t + k - e - 1 - 1)) (z := (own_dg N (e + 1))) (by rw [hTENS _ hlt, own_nb _ (by omega)]; unfold own_dg; rw [← own_div, show N / 10 ^ e % 100 / 10 = N / 10 ^ e / 10 % 10 by omega]) A177 (own_ofNat (by omega)) (by rw [own_arr_len]; omega) N0 d2_103 r185
      have Z190 : n0 ≤ h186.size := by rw [w187.size]; exact Z179
      replace r189 : W h186 0 0 104 #[.val (.ref ta), .val (.int (Int32.ofNat t)), .val (.long num), .second, .val (.int (Int32.ofNat k)), .val (.int (Int32.ofNat (t + k))), .val (.int (Int32.ofNat (t + k - e - 1 - 1))), .val (.long rest), .second, .val (.int small), .val (.int pair)] [] := r189
      rw [show t + k - e - 1 - 1 = t + k - (e + 1) - 1 by omega, own_arr_set N (t + k) (e + 1) (by omega) (by omega)] at A188
      have r191 : W h186 0 0 111 #[.val (.ref ta), .val (.int (Int32.ofNat t)), .val (.long num), .second, .val (.int (Int32.ofNat k)), .val (.int (Int32.ofNat (t + k))), .val (.int (Int32.ofNat (t + k - e - 1 - 1))), .val (.long rest), .second, .val (.int (small / (100 : Int32))), .val (.int pair)] [] := (H.istore d2_109 (H.idiv d2_108 (H.bipush (z := (100 : Int32)) d2_106 (H.iload d2_104 r189 rfl) rfl) (by decide)) rfl)
      have r192 : W h186 0 0 63 #[.val (.ref ta), .val (.int (Int32.ofNat t)), .val (.long num), .second, .val (.int (Int32.ofNat k)), .val (.int (Int32.ofNat (t + k))), .val (.int (Int32.ofNat (t + k - e - 1 - 1))), .val (.long rest), .second, .val (.int (small / (100 : Int32))), .val (.int pair)] [] := (H.goto (pc' := 63) d2_111 r191 (by decide) (by decide))
      rw [show t + k - e - 1 - 1 = t + k - (e + 2) by omega] at r192
      have F193 := F182.wr w187 N0
      obtain ⟨e2, small2, s2, h2x, g1, g2, g3, g4, K2, A2, O2, r2⟩ := ih (e + 2) _ _ _ (by omega) (by omega) (fun _ => by rw [own_i2 small _ hsm, own_div2]) (One.val rfl) A188 F193 r192
      exact ⟨e2, small2, s2, h2x, g1, g2, g3, g4, (((Keep.refl _ _).wr w176 (Or.inl (List.mem_of_getElem? (i := 0) rfl))).wr w187 (Or.inl (List.mem_of_getElem? (i := 0) rfl))).trans K2 (allS (Or.inl (List.mem_of_getElem? (i := 0) rfl)) all0), A2, O2, r2⟩
set_option maxRecDepth 65536 in
set_option maxHeartbeats 40000000 in
theorem put_ct {l : Launch} {Z : State} {a0 : Array Value} (hw : ∀ d ∈ tables_1, d.before a0 Z = true) (N t k : Nat) (num : Int64) (hnum : num.toInt = (N : Int)) (ta : Addr) (ht : t < 4) (hk : k ≤ 20) (oa na : Addr) (fo ft : Nat → Int32) (TONES : own_tab Z "ONES" oa fo) (TTENS : own_tab Z "TENS" na ft) (hONES : ∀ p, p < 100 → fo p = Int32.ofNat (48 + p % 10)) (hTENS : ∀ p, p < 100 → ft p = Int32.ofNat (48 + p / 10)) (h0 : Heap) (n0 : Nat) (Z0 : n0 ≤ h0.size) (N0 : n0 ≤ ta) (A0 : Ary Z h0 ta .byte (own_arr N (t + k) 0)) (O0 : Old Z n0 h0) :
    Ct l Z (⟨"io/tagwire/codec/Decimal", "put", "([BIJI)I"⟩ : MethodName) prog_20_method_3_code 11 (some .int) ({ frames := 0, cells := 0, slots := 0, locals := 0 } : Room) n0 #[(.ref ta), (.int (Int32.ofNat t)), (.long num), (.int (Int32.ofNat k))] h0 (fun v h' => v = some (.int (Int32.ofNat (t + k))) ∧ Keep h0 h' [ta] ∧ Ary Z h' ta .byte (own_arr N (t + k) k)) := by
  refine Ct.of (plainFor_of_name pn_1) (fun m => ef_put ta (Int32.ofNat t) num (Int32.ofNat k) m) ?_
  intro W V H r0
  have r196 : W h0 0 0 4 #[.val (.ref ta), .val (.int (Int32.ofNat t)), .val (.long num), .second, .val (.int (Int32.ofNat k)), .unset, .unset, .unset, .unset, .unset, .unset] [(.int ((Int32.ofNat t) + (Int32.ofNat k)))] := (H.iadd d2_3 (H.iload d2_1 (H.iloadN d2_0 r0 rfl) rfl))
  rw [← Int32.ofNat_add] at r196
  have r197 : W h0 0 0 6 #[.val (.ref ta), .val (.int (Int32.ofNat t)), .val (.long num), .second, .val (.int (Int32.ofNat k)), .val (.int (Int32.ofNat (t + k))), .unset, .unset, .unset, .unset, .unset] [] := (H.istore d2_4 r196 rfl)
  have r198 : W h0 0 0 10 #[.val (.ref ta), .val (.int (Int32.ofNat t)), .val (.long num), .second, .val (.int (Int32.ofNat k)), .val (.int (Int32.ofNat (t + k))), .val (.int (Int32.ofNat (t + k))), .unset, .unset, .unset, .unset] [] := (H.istore d2_8 (H.iload d2_6 r197 rfl) rfl)
  have r199 : W h0 0 0 13 #[.val (.ref ta), .val (.int (Int32.ofNat t)), .val (.long num), .second, .val (.int (Int32.ofNat k)), .val (.int (Int32.ofNat (t + k))), .val (.int (Int32.ofNat (t + k))), .val (.long num), .second, .unset, .unset] [] := (H.lstore d2_11 (H.lloadN d2_10 r198 rfl) rfl)
  have hnum0 : num.toInt = ((N / 10 ^ 0 : Nat) : Int) := by rw [Nat.pow_zero, Nat.div_one]; exact hnum
  obtain ⟨e1, rest, h1, g1, g2, g3, K1, A1, O1, r1⟩ := put_loop1 hw N t k num ta ht hk N0 H k 0 num h0 (by omega) (by omega) hnum0 A0 O0 r199
  have r200 : W h1 0 0 63 #[.val (.ref ta), .val (.int (Int32.ofNat t)), .val (.long num), .second, .val (.int (Int32.ofNat k)), .val (.int (Int32.ofNat (t + k))), .val (.int (Int32.ofNat (t + k - e1))), .val (.long rest), .second, .val (.int (rest.toInt32)), .unset] [] := (H.istore d2_61 (H.l2i d2_60 (H.lload d2_58 r1 rfl)) rfl)
  have hs : e1 < k → rest.toInt32.toInt = ((N / 10 ^ e1 : Nat) : Int) := fun q => own_l2i rest _ g2 (by have := g3.resolve_right (by omega); rw [Int64.lt_iff_toInt_lt, g2, show (2147483647 : Int64).toInt = 2147483647 from rfl] at this; omega)
  obtain ⟨e2, small, s2, h2, j1, j2, j3, j4, K2, A2, O2, r2⟩ := put_loop2 hw N t k num ta ht hk N0 oa na fo ft TONES TTENS hONES hTENS rest H k e1 _ _ h1 (by omega) g1 hs One.u A1 O1 r200
  have Z2 : n0 ≤ h2.size := Nat.le_trans Z0 (Nat.le_trans K1.1 K2.1)
  have r201 : W h2 0 0 117 #[.val (.ref ta), .val (.int (Int32.ofNat t)), .val (.long num), .second, .val (.int (Int32.ofNat k)), .val (.int (Int32.ofNat (t + k))), .val (.int (Int32.ofNat (t + k - e2))), .val (.long rest), .second, .val (.int small), s2] [(.int (Int32.ofNat t)), (.int (Int32.ofNat (t + k - e2)))] := (H.iloadN d2_116 (H.iload d2_114 r2 rfl) rfl)
  by_cases h3 : (Int32.ofNat t) < (Int32.ofNat (t + k - e2))
  · have r202 : W h2 0 0 120 #[.val (.ref ta), .val (.int (Int32.ofNat t)), .val (.long num), .second, .val (.int (Int32.ofNat k)), .val (.int (Int32.ofNat (t + k))), .val (.int (Int32.ofNat (t + k - e2))), .val (.long rest), .second, .val (.int small), s2] [] := (H.icmpNo d2_117 r201 (tlt h3).2.2.2)
    have hek : e2 < k := by rw [own_ltN (by omega) (by omega)] at h3; omega
    have r204 : W h2 0 0 124 #[.val (.ref ta), .val (.int (Int32.ofNat t)), .val (.long num), .second, .val (.int (Int32.ofNat k)), .val (.int (Int32.ofNat (t + k))), .val (.int ((Int32.ofNat (t + k - e2)) + (-1 : Int32))), .val (.long rest), .second, .val (.int small), s2] [(.ref ta)] := (H.iinc (z := ((Int32.ofNat (t + k - e2)) + (-1 : Int32))) d2_121 (H.aloadN d2_120 r202 rfl rfl) rfl rfl rfl)
    rw [own_m1 (by omega)] at r204
    have r205 : W h2 0 0 134 #[.val (.ref ta), .val (.int (Int32.ofNat t)), .val (.long num), .second, .val (.int (Int32.ofNat k)), .val (.int (Int32.ofNat (t + k))), .val (.int (Int32.ofNat (t + k - e2 - 1))), .val (.long rest), .second, .val (.int small), s2] [(.int ((48 : Int32) + (small % (10 : Int32)))), (.int (Int32.ofNat (t + k - e2 - 1))), (.ref ta)] := (H.iadd d2_133 (H.irem d2_132 (H.bipush (z := (10 : Int32)) d2_130 (H.iload d2_128 (H.bipush (z := (48 : Int32)) d2_126 (H.iload d2_124 r204 rfl) rfl) rfl) rfl) (by decide)))
    have r206 : W h2 0 0 135 #[.val (.ref ta), .val (.int (Int32.ofNat t)), .val (.long num), .second, .val (.int (Int32.ofNat k)), .val (.int (Int32.ofNat (t + k))), .val (.int (Int32.ofNat (t + k - e2 - 1))), .val (.long rest), .second, .val (.int small), s2] [(.int (((48 : Int32) + (small % (10 : Int32))).toInt8.toInt32)), (.int (Int32.ofNat (t + k - e2 - 1))), (.ref ta)] := (H.i2b d2_134 r205)
    obtain ⟨h207, w208, A209, r210⟩ := H.putB (i := (t + k - e2 - 1)) (z := (own_dg N e2)) (by rw [own_i3 small _ (j2 hek)]; exact own_nb _ (by omega)) A2 (own_ofNat (by omega)) (by rw [own_arr_len]; omega) N0 d2_135 r206
    have Z211 : n0 ≤ h207.size := by rw [w208.size]; exact Z2
    replace r210 : W h207 0 0 136 #[.val (.ref ta), .val (.int (Int32.ofNat t)), .val (.long num), .second, .val (.int (Int32.ofNat k)), .val (.int (Int32.ofNat (t + k))), .val (.int (Int32.ofNat (t + k - e2 - 1))), .val (.long rest), .second, .val (.int small), s2] [] := r210
    rw [own_arr_set N (t + k) e2 (by omega) (by omega), show e2 + 1 = k by omega] at A209
    have r212 : W h207 0 0 138 #[.val (.ref ta), .val (.int (Int32.ofNat t)), .val (.long num), .second, .val (.int (Int32.ofNat k)), .val (.int (Int32.ofNat (t + k))), .val (.int (Int32.ofNat (t + k - e2 - 1))), .val (.long rest), .second, .val (.int small), s2] [(.int (Int32.ofNat (t + k)))] := (H.iload d2_136 r210 rfl)
    exact ⟨_, _, H.retI rfl (Nat.le_refl _) (Nat.le_refl _) d2_138 r212, rfl, ((((Keep.refl _ _).trans K1 (allS (Or.inl (List.mem_of_getElem? (i := 0) rfl)) all0)).trans K2 (allS (Or.inl (List.mem_of_getElem? (i := 0) rfl)) all0)).wr w208 (Or.inl (List.mem_of_getElem? (i := 0) rfl))), A209⟩
  · have r203 : W h2 0 0 136 #[.val (.ref ta), .val (.int (Int32.ofNat t)), .val (.long num), .second, .val (.int (Int32.ofNat k)), .val (.int (Int32.ofNat (t + k))), .val (.int (Int32.ofNat (t + k - e2))), .val (.long rest), .second, .val (.int small), s2] [] := (H.icmpYes (pc' := 136) d2_117 r201 (by decide) (by decide) (flt h3).2.2.2)
    have hek : e2 = k := by rw [own_ltN (by omega) (by omega)] at h3; omega
    rw [hek] at A2
    have r213 : W h2 0 0 138 #[.val (.ref ta), .val (.int (Int32.ofNat t)), .val (.long num), .second, .val (.int (Int32.ofNat k)), .val (.int (Int32.ofNat (t + k))), .val (.int (Int32.ofNat (t + k - e2))), .val (.long rest), .second, .val (.int small), s2] [(.int (Int32.ofNat (t + k)))] := (H.iload d2_136 r203 rfl)
    exact ⟨_, _, H.retI rfl (Nat.le_refl _) (Nat.le_refl _) d2_138 r213, rfl, (((Keep.refl _ _).trans K1 (allS (Or.inl (List.mem_of_getElem? (i := 0) rfl)) all0)).trans K2 (allS (Or.inl (List.mem_of_getElem? (i := 0) rfl)) all0)), A2⟩
set_option maxRecDepth 65536 in
set_option maxHeartbeats 40000000 in
theorem cell_ct {l : Launch} {Z : State} {a0 : Array Value} (hw : ∀ d ∈ tables_1, d.before a0 Z = true) (N p t k : Nat) (num : Int64) (hnum : num.toInt = (N : Int)) (hN : N < 9223372036854775808) (ta pa : Addr) (hp : p < 24) (ht : t < 4) (hk : k ≤ 20) (h0 : Heap) (n0 : Nat) (A0 : Ary Z h0 ta .byte (own_arr N (t + k) k)) (P0 : Ary Z h0 pa .long own_pws) :
    Ct l Z (⟨"io/tagwire/codec/DecimalPutPinLaw", "cell", "([BIIIJ[J)Z"⟩ : MethodName) method_3_code 10 (some .boolean) ({ frames := 0, cells := 0, slots := 0, locals := 0 } : Room) n0 #[(.ref ta), (.int (Int32.ofNat p)), (.int (Int32.ofNat t)), (.int (Int32.ofNat k)), (.long num), (.ref pa)] h0 (fun v h' => v = some (.int (1 : Int32)) ∧ h' = h0) := by
  refine Ct.of (plainFor_of_name pn_0) (fun m => ef_cell ta (Int32.ofNat p) (Int32.ofNat t) (Int32.ofNat k) num pa m) ?_
  intro W V H r0
  have r214 : W h0 0 0 2 #[.val (.ref ta), .val (.int (Int32.ofNat p)), .val (.int (Int32.ofNat t)), .val (.int (Int32.ofNat k)), .val (.long num), .second, .val (.ref pa), .unset, .unset, .unset] [(.int (Int32.ofNat t)), (.int (Int32.ofNat p))] := (H.iloadN d3_1 (H.iloadN d3_0 r0 rfl) rfl)
  by_cases h1 : (Int32.ofNat p) < (Int32.ofNat t)
  · have r215 : W h0 0 0 12 #[.val (.ref ta), .val (.int (Int32.ofNat p)), .val (.int (Int32.ofNat t)), .val (.int (Int32.ofNat k)), .val (.long num), .second, .val (.ref pa), .unset, .unset, .unset] [] := (H.icmpYes (pc' := 12) d3_2 r214 (by decide) (by decide) (tlt h1).1)
    have hq : p < t := (own_ltN (by omega) (by omega)).mp h1
    have r217 : W h0 0 0 14 #[.val (.ref ta), .val (.int (Int32.ofNat p)), .val (.int (Int32.ofNat t)), .val (.int (Int32.ofNat k)), .val (.long num), .second, .val (.ref pa), .unset, .unset, .unset] [(.int (Int32.ofNat p)), (.ref ta)] := (H.iloadN d3_13 (H.aloadN d3_12 r215 rfl rfl) rfl)
    have ha := own_arr_at N (t + k) k p hp
    rw [if_neg (by omega)] at ha
    have r218 : W h0 0 0 15 #[.val (.ref ta), .val (.int (Int32.ofNat p)), .val (.int (Int32.ofNat t)), .val (.int (Int32.ofNat k)), .val (.long num), .second, .val (.ref pa), .unset, .unset, .unset] [(.int (0 : Int32))] := H.ldB (i := p) (v := (.int (0 : Int32))) A0 (own_ofNat (by omega)) ha d3_14 r217
    have r219 : W h0 0 0 18 #[.val (.ref ta), .val (.int (Int32.ofNat p)), .val (.int (Int32.ofNat t)), .val (.int (Int32.ofNat k)), .val (.long num), .second, .val (.ref pa), .unset, .unset, .unset] [] := (H.ifNo d3_15 r218 (teq (rfl : (0 : Int32) = 0)).2)
    have r220 : W h0 0 0 23 #[.val (.ref ta), .val (.int (Int32.ofNat p)), .val (.int (Int32.ofNat t)), .val (.int (Int32.ofNat k)), .val (.long num), .second, .val (.ref pa), .unset, .unset, .unset] [(.int (1 : Int32))] := (H.goto (pc' := 23) d3_19 (H.iconst (z := (1 : Int32)) d3_18 r219 rfl) (by decide) (by decide))
    exact ⟨_, _, H.retZ rfl rfl (Nat.le_refl _) (Nat.le_refl _) d3_23 r220, rfl, rfl⟩
  · have r216 : W h0 0 0 5 #[.val (.ref ta), .val (.int (Int32.ofNat p)), .val (.int (Int32.ofNat t)), .val (.int (Int32.ofNat k)), .val (.long num), .second, .val (.ref pa), .unset, .unset, .unset] [] := (H.icmpNo d3_2 r214 (flt h1).1)
    have hq : t ≤ p := Nat.le_of_not_lt (fun q => h1 ((own_ltN (by omega) (by omega)).mpr q))
    have r221 : W h0 0 0 9 #[.val (.ref ta), .val (.int (Int32.ofNat p)), .val (.int (Int32.ofNat t)), .val (.int (Int32.ofNat k)), .val (.long num), .second, .val (.ref pa), .unset, .unset, .unset] [(.int ((Int32.ofNat t) + (Int32.ofNat k))), (.int (Int32.ofNat p))] := (H.iadd d3_8 (H.iloadN d3_7 (H.iloadN d3_6 (H.iloadN d3_5 r216 rfl) rfl) rfl))
    rw [← Int32.ofNat_add] at r221
    by_cases h2 : (Int32.ofNat p) < (Int32.ofNat (t + k))
    · have r222 : W h0 0 0 24 #[.val (.ref ta), .val (.int (Int32.ofNat p)), .val (.int (Int32.ofNat t)), .val (.int (Int32.ofNat k)), .val (.long num), .second, .val (.ref pa), .unset, .unset, .unset] [] := (H.icmpYes (pc' := 24) d3_9 r221 (by decide) (by decide) (tlt h2).1)
      have hq2 : p < t + k := (own_ltN (by omega) (by omega)).mp h2
      have r228 : W h0 0 0 30 #[.val (.ref ta), .val (.int (Int32.ofNat p)), .val (.int (Int32.ofNat t)), .val (.int (Int32.ofNat k)), .val (.long num), .second, .val (.ref pa), .unset, .unset, .unset] [(.int (Int32.ofNat p)), (.int (((Int32.ofNat t) + (Int32.ofNat k)) - (1 : Int32)))] := (H.iloadN d3_29 (H.isub d3_28 (H.iconst (z := (1 : Int32)) d3_27 (H.iadd d3_26 (H.iloadN d3_25 (H.iloadN d3_24 r222 rfl) rfl)) rfl)) rfl)
      have r229 : W h0 0 0 31 #[.val (.ref ta), .val (.int (Int32.ofNat p)), .val (.int (Int32.ofNat t)), .val (.int (Int32.ofNat k)), .val (.long num), .second, .val (.ref pa), .unset, .unset, .unset] [(.int ((((Int32.ofNat t) + (Int32.ofNat k)) - (1 : Int32)) - (Int32.ofNat p)))] := (H.isub d3_30 r228)
      rw [← Int32.ofNat_add, show (1 : Int32) = Int32.ofNat 1 from rfl, own_subN (by omega) (by omega), own_subN (by omega) (by omega)] at r229
      have r230 : W h0 0 0 33 #[.val (.ref ta), .val (.int (Int32.ofNat p)), .val (.int (Int32.ofNat t)), .val (.int (Int32.ofNat k)), .val (.long num), .second, .val (.ref pa), .val (.int (Int32.ofNat (t + k - 1 - p))), .unset, .unset] [] := (H.istore d3_31 r229 rfl)
      obtain ⟨e, hee⟩ : ∃ e, e = t + k - 1 - p := ⟨_, rfl⟩
      rw [← hee] at r230
      have ha := own_arr_at N (t + k) k p hp
      rw [if_pos (by omega), ← hee] at ha
      have r231 : W h0 0 0 37 #[.val (.ref ta), .val (.int (Int32.ofNat p)), .val (.int (Int32.ofNat t)), .val (.int (Int32.ofNat k)), .val (.long num), .second, .val (.ref pa), .val (.int (Int32.ofNat e)), .unset, .unset] [(.int (19 : Int32)), (.int (Int32.ofNat e))] := (H.bipush (z := (19 : Int32)) d3_35 (H.iload d3_33 r230 rfl) rfl)
      by_cases h3 : (Int32.ofNat e) < (19 : Int32)
      · have r232 : W h0 0 0 44 #[.val (.ref ta), .val (.int (Int32.ofNat p)), .val (.int (Int32.ofNat t)), .val (.int (Int32.ofNat k)), .val (.long num), .second, .val (.ref pa), .val (.int (Int32.ofNat e)), .unset, .unset] [] := (H.icmpYes (pc' := 44) d3_37 r231 (by decide) (by decide) (tlt h3).1)
        have he19 : e < 19 := (own_ltN (j := 19) (by omega) (by omega)).mp h3
        obtain ⟨z, hz1, hz2, hz3⟩ := own_pws_at e he19
        have r234 : W h0 0 0 50 #[.val (.ref ta), .val (.int (Int32.ofNat p)), .val (.int (Int32.ofNat t)), .val (.int (Int32.ofNat k)), .val (.long num), .second, .val (.ref pa), .val (.int (Int32.ofNat e)), .unset, .unset] [(.int (Int32.ofNat e)), (.ref pa), (.long num)] := (H.iload d3_48 (H.aload d3_46 (H.lload d3_44 r232 rfl) rfl rfl) rfl)
        have r235 : W h0 0 0 51 #[.val (.ref ta), .val (.int (Int32.ofNat p)), .val (.int (Int32.ofNat t)), .val (.int (Int32.ofNat k)), .val (.long num), .second, .val (.ref pa), .val (.int (Int32.ofNat e)), .unset, .unset] [(.long z), (.long num)] := H.ldJ (i := e) (v := (.long z)) P0 (own_ofNat (by omega)) hz1 d3_50 r234
        have r236 : W h0 0 0 52 #[.val (.ref ta), .val (.int (Int32.ofNat p)), .val (.int (Int32.ofNat t)), .val (.int (Int32.ofNat k)), .val (.long num), .second, .val (.ref pa), .val (.int (Int32.ofNat e)), .unset, .unset] [(.long (num / z))] := (H.ldiv d3_51 r235 hz2)
        have hdz := own_quot num z N (10 ^ e) hnum hz3 (Nat.pow_pos (by decide))
        have r237 : W h0 0 0 58 #[.val (.ref ta), .val (.int (Int32.ofNat p)), .val (.int (Int32.ofNat t)), .val (.int (Int32.ofNat k)), .val (.long num), .second, .val (.ref pa), .val (.int (Int32.ofNat e)), .val (.long ((num / z) % (10 : Int64))), .second] [] := (H.lstore d3_56 (H.lrem d3_55 (H.ldcLong d3_52 r236 (hw _ (List.mem_of_getElem? (i := 5) rfl))) (by decide)) rfl)
        have r238 : W h0 0 0 60 #[.val (.ref ta), .val (.int (Int32.ofNat p)), .val (.int (Int32.ofNat t)), .val (.int (Int32.ofNat k)), .val (.long num), .second, .val (.ref pa), .val (.int (Int32.ofNat e)), .val (.long ((num / z) % (10 : Int64))), .second] [(.int (Int32.ofNat p)), (.ref ta)] := (H.iloadN d3_59 (H.aloadN d3_58 r237 rfl rfl) rfl)
        have r239 : W h0 0 0 61 #[.val (.ref ta), .val (.int (Int32.ofNat p)), .val (.int (Int32.ofNat t)), .val (.int (Int32.ofNat k)), .val (.long num), .second, .val (.ref pa), .val (.int (Int32.ofNat e)), .val (.long ((num / z) % (10 : Int64))), .second] [(.int (own_dg N e))] := H.ldB (i := p) (v := (.int (own_dg N e))) A0 (own_ofNat (by omega)) ha d3_60 r238
        have r240 : W h0 0 0 72 #[.val (.ref ta), .val (.int (Int32.ofNat p)), .val (.int (Int32.ofNat t)), .val (.int (Int32.ofNat k)), .val (.long num), .second, .val (.ref pa), .val (.int (Int32.ofNat e)), .val (.long ((num / z) % (10 : Int64))), .second] [] := (H.icmpNo d3_69 (H.i2b d3_68 (H.l2i d3_67 (H.ladd d3_66 (H.lload d3_64 (H.ldcLong d3_61 r239 (hw _ (List.mem_of_getElem? (i := 38) rfl))) rfl)))) (teq (by rw [own_d1 (num / z) _ hdz] <;> rfl)).2)
        have r241 : W h0 0 0 77 #[.val (.ref ta), .val (.int (Int32.ofNat p)), .val (.int (Int32.ofNat t)), .val (.int (Int32.ofNat k)), .val (.long num), .second, .val (.ref pa), .val (.int (Int32.ofNat e)), .val (.long ((num / z) % (10 : Int64))), .second] [(.int (1 : Int32))] := (H.goto (pc' := 77) d3_73 (H.iconst (z := (1 : Int32)) d3_72 r240 rfl) (by decide) (by decide))
        exact ⟨_, _, H.retZ rfl rfl (Nat.le_refl _) (Nat.le_refl _) d3_77 r241, rfl, rfl⟩
      · have r233 : W h0 0 0 40 #[.val (.ref ta), .val (.int (Int32.ofNat p)), .val (.int (Int32.ofNat t)), .val (.int (Int32.ofNat k)), .val (.long num), .second, .val (.ref pa), .val (.int (Int32.ofNat e)), .unset, .unset] [] := (H.icmpNo d3_37 r231 (flt h3).1)
        have he19 : ¬ e < 19 := fun q => h3 ((own_ltN (j := 19) (by omega) (by omega)).mpr q)
        have hbig : N / 10 ^ e = 0 := Nat.div_eq_of_lt (Nat.lt_of_lt_of_le hN (Nat.le_trans (by decide) (Nat.pow_le_pow_right (by decide) (show 19 ≤ e by omega))))
        have r242 : W h0 0 0 58 #[.val (.ref ta), .val (.int (Int32.ofNat p)), .val (.int (Int32.ofNat t)), .val (.int (Int32.ofNat k)), .val (.long num), .second, .val (.ref pa), .val (.int (Int32.ofNat e)), .val (.long (0 : Int64)), .second] [] := (H.lstore d3_56 (H.goto (pc' := 56) d3_41 (H.lconst (z := (0 : Int64)) d3_40 r233 rfl) (by decide) (by decide)) rfl)
        have r243 : W h0 0 0 60 #[.val (.ref ta), .val (.int (Int32.ofNat p)), .val (.int (Int32.ofNat t)), .val (.int (Int32.ofNat k)), .val (.long num), .second, .val (.ref pa), .val (.int (Int32.ofNat e)), .val (.long (0 : Int64)), .second] [(.int (Int32.ofNat p)), (.ref ta)] := (H.iloadN d3_59 (H.aloadN d3_58 r242 rfl rfl) rfl)
        have r244 : W h0 0 0 61 #[.val (.ref ta), .val (.int (Int32.ofNat p)), .val (.int (Int32.ofNat t)), .val (.int (Int32.ofNat k)), .val (.long num), .second, .val (.ref pa), .val (.int (Int32.ofNat e)), .val (.long (0 : Int64)), .second] [(.int (own_dg N e))] := H.ldB (i := p) (v := (.int (own_dg N e))) A0 (own_ofNat (by omega)) ha d3_60 r243
        have r245 : W h0 0 0 72 #[.val (.ref ta), .val (.int (Int32.ofNat p)), .val (.int (Int32.ofNat t)), .val (.int (Int32.ofNat k)), .val (.long num), .second, .val (.ref pa), .val (.int (Int32.ofNat e)), .val (.long (0 : Int64)), .second] [] := (H.icmpNo d3_69 (H.i2b d3_68 (H.l2i d3_67 (H.ladd d3_66 (H.lload d3_64 (H.ldcLong d3_61 r244 (hw _ (List.mem_of_getElem? (i := 38) rfl))) rfl)))) (teq (by unfold own_dg; rw [hbig] <;> first | rfl | decide +kernel)).2)
        have r246 : W h0 0 0 77 #[.val (.ref ta), .val (.int (Int32.ofNat p)), .val (.int (Int32.ofNat t)), .val (.int (Int32.ofNat k)), .val (.long num), .second, .val (.ref pa), .val (.int (Int32.ofNat e)), .val (.long (0 : Int64)), .second] [(.int (1 : Int32))] := (H.goto (pc' := 77) d3_73 (H.iconst (z := (1 : Int32)) d3_72 r245 rfl) (by decide) (by decide))
        exact ⟨_, _, H.retZ rfl rfl (Nat.le_refl _) (Nat.le_refl _) d3_77 r246, rfl, rfl⟩
    · have r223 : W h0 0 0 12 #[.val (.ref ta), .val (.int (Int32.ofNat p)), .val (.int (Int32.ofNat t)), .val (.int (Int32.ofNat k)), .val (.long num), .second, .val (.ref pa), .unset, .unset, .unset] [] := (H.icmpNo d3_9 r221 (flt h2).1)
      have hq2 : t + k ≤ p := Nat.le_of_not_lt (fun q => h2 ((own_ltN (by omega) (by omega)).mpr q))
      have r224 : W h0 0 0 14 #[.val (.ref ta), .val (.int (Int32.ofNat p)), .val (.int (Int32.ofNat t)), .val (.int (Int32.ofNat k)), .val (.long num), .second, .val (.ref pa), .unset, .unset, .unset] [(.int (Int32.ofNat p)), (.ref ta)] := (H.iloadN d3_13 (H.aloadN d3_12 r223 rfl rfl) rfl)
      have ha := own_arr_at N (t + k) k p hp
      rw [if_neg (by omega)] at ha
      have r225 : W h0 0 0 15 #[.val (.ref ta), .val (.int (Int32.ofNat p)), .val (.int (Int32.ofNat t)), .val (.int (Int32.ofNat k)), .val (.long num), .second, .val (.ref pa), .unset, .unset, .unset] [(.int (0 : Int32))] := H.ldB (i := p) (v := (.int (0 : Int32))) A0 (own_ofNat (by omega)) ha d3_14 r224
      have r226 : W h0 0 0 18 #[.val (.ref ta), .val (.int (Int32.ofNat p)), .val (.int (Int32.ofNat t)), .val (.int (Int32.ofNat k)), .val (.long num), .second, .val (.ref pa), .unset, .unset, .unset] [] := (H.ifNo d3_15 r225 (teq (rfl : (0 : Int32) = 0)).2)
      have r227 : W h0 0 0 23 #[.val (.ref ta), .val (.int (Int32.ofNat p)), .val (.int (Int32.ofNat t)), .val (.int (Int32.ofNat k)), .val (.long num), .second, .val (.ref pa), .unset, .unset, .unset] [(.int (1 : Int32))] := (H.goto (pc' := 23) d3_19 (H.iconst (z := (1 : Int32)) d3_18 r226 rfl) (by decide) (by decide))
      exact ⟨_, _, H.retZ rfl rfl (Nat.le_refl _) (Nat.le_refl _) d3_23 r227, rfl, rfl⟩
set_option maxRecDepth 65536 in
set_option maxHeartbeats 40000000 in
theorem law_ct {l : Launch} {Z : State} {a0 : Array Value} (hw : ∀ d ∈ tables_1, d.before a0 Z = true) (x : Int64) (a1 d1 : Int32) (oa na : Addr) (fo ft : Nat → Int32) (TONES : own_tab Z "ONES" oa fo) (TTENS : own_tab Z "TENS" na ft) (hONES : ∀ p, p < 100 → fo p = Int32.ofNat (48 + p % 10)) (hTENS : ∀ p, p < 100 → ft p = Int32.ofNat (48 + p / 10)) (h0 : Heap) (n0 : Nat) (Z0 : n0 ≤ h0.size) (hold : Old Z n0 h0) :
    Ct l Z Jvm.Pilot.@@N@@.x code maxLocals ret room_1 n0 #[(.long x), (.int a1), (.int d1)] h0 (fun v h' => v = some (.int 1)) := by
  refine Ct.of (plainFor_of_name pn_0) (fun m => ef_0 x a1 d1 m) ?_
  intro W V H r0
  obtain ⟨_, hp, ⟨pa, rfl, Np, Kp, Ap⟩, r247⟩ := H.callS (w := 0) (argsL := []) (rest := []) (hw _ (List.mem_of_getElem? (i := 0) rfl)) (hw _ (List.mem_of_getElem? (i := 1) rfl)) (hw _ (List.mem_of_getElem? (i := 2) rfl)) (hw _ (List.mem_of_getElem? (i := 3) rfl)) (by decide) pd_0 (by decide) (by decide) (by decide) (by decide) (pw_ct hw h0 n0 Z0) rfl rfl (Nat.le_of_eq rfl) rfl at_0 r0
  have Z248 : n0 ≤ hp.size := Nat.le_trans Z0 Kp.1
  replace r247 : W hp 1 19 3 #[.val (.long x), .second, .val (.int a1), .val (.int d1), .unset, .unset, .unset, .unset, .unset, .unset, .unset, .unset, .unset, .unset] [(.ref pa)] := r247
  have r249 : W hp 1 19 5 #[.val (.long x), .second, .val (.int a1), .val (.int d1), .val (.ref pa), .unset, .unset, .unset, .unset, .unset, .unset, .unset, .unset, .unset] [] := (H.astore at_3 r247 rfl rfl)
  have r250 : W hp 1 19 12 #[.val (.long x), .second, .val (.int a1), .val (.int d1), .val (.ref pa), .unset, .unset, .unset, .unset, .unset, .unset, .unset, .unset, .unset] [(.int ((d1 &&& (2147483647 : Int32)) % (20 : Int32)))] := (H.irem at_11 (H.bipush (z := (20 : Int32)) at_9 (H.iand at_8 (H.ldcInt at_6 (H.iloadN at_5 r249 rfl) (hw _ (List.mem_of_getElem? (i := 23) rfl)))) rfl) (by decide))
  obtain ⟨k0, hk0, ek⟩ := own_modn d1 20 (by decide) (by decide)
  replace ek : ((d1 &&& (2147483647 : Int32)) % (20 : Int32)) = Int32.ofNat k0 := ek
  rw [ek] at r250
  have r251 : W hp 1 19 14 #[.val (.long x), .second, .val (.int a1), .val (.int d1), .val (.ref pa), .unset, .unset, .unset, .unset, .unset, .unset, .unset, .unset, .unset] [(.int ((Int32.ofNat k0) + (1 : Int32)))] := (H.iadd at_13 (H.iconst (z := (1 : Int32)) at_12 r250 rfl))
  rw [own_succ] at r251
  obtain ⟨k, hkk⟩ : ∃ k, k = k0 + 1 := ⟨_, rfl⟩
  rw [← hkk] at r251
  have r252 : W hp 1 19 16 #[.val (.long x), .second, .val (.int a1), .val (.int d1), .val (.ref pa), .val (.int (Int32.ofNat k)), .unset, .unset, .unset, .unset, .unset, .unset, .unset, .unset] [] := (H.istore at_14 r251 rfl)
  have r253 : W hp 1 19 19 #[.val (.long x), .second, .val (.int a1), .val (.int d1), .val (.ref pa), .val (.int (Int32.ofNat k)), .unset, .unset, .unset, .unset, .unset, .unset, .unset, .unset] [(.int (a1 &&& (3 : Int32)))] := (H.iand at_18 (H.iconst (z := (3 : Int32)) at_17 (H.iloadN at_16 r252 rfl) rfl))
  obtain ⟨t, ht, et⟩ := own_m3 a1
  rw [et] at r253
  have r254 : W hp 1 19 21 #[.val (.long x), .second, .val (.int a1), .val (.int d1), .val (.ref pa), .val (.int (Int32.ofNat k)), .val (.int (Int32.ofNat t)), .unset, .unset, .unset, .unset, .unset, .unset, .unset] [] := (H.istore at_19 r253 rfl)
  have r255 : W hp 1 19 28 #[.val (.long x), .second, .val (.int a1), .val (.int d1), .val (.ref pa), .val (.int (Int32.ofNat k)), .val (.int (Int32.ofNat t)), .val (.long (x &&& (9223372036854775807 : Int64))), .second, .unset, .unset, .unset, .unset, .unset] [] := (H.lstore at_26 (H.land at_25 (H.ldcLong at_22 (H.lloadN at_21 r254 rfl) (hw _ (List.mem_of_getElem? (i := 24) rfl)))) rfl)
  have hwh : ∃ M : Nat, M < 9223372036854775808 ∧ ((x &&& (9223372036854775807 : Int64))).toInt = (M : Int) := own_whole x
  generalize (x &&& (9223372036854775807 : Int64)) = whole at r255 hwh
  obtain ⟨M, hM, hMe⟩ := hwh
  have rJ : ∃ (num : Int64) (N : Nat), (N < 9223372036854775808 ∧ num.toInt = (N : Int)) ∧ W hp 1 19 50 #[.val (.long x), .second, .val (.int a1), .val (.int d1), .val (.ref pa), .val (.int (Int32.ofNat k)), .val (.int (Int32.ofNat t)), .val (.long whole), .second, .val (.long num), .second, .unset, .unset, .unset] [] := by
    have r256 : W hp 1 19 32 #[.val (.long x), .second, .val (.int a1), .val (.int d1), .val (.ref pa), .val (.int (Int32.ofNat k)), .val (.int (Int32.ofNat t)), .val (.long whole), .second, .unset, .unset, .unset, .unset, .unset] [(.int (19 : Int32)), (.int (Int32.ofNat k))] := (H.bipush (z := (19 : Int32)) at_30 (H.iload at_28 r255 rfl) rfl)
    by_cases h1 : (Int32.ofNat k) < (19 : Int32)
    · have r257 : W hp 1 19 40 #[.val (.long x), .second, .val (.int a1), .val (.int d1), .val (.ref pa), .val (.int (Int32.ofNat k)), .val (.int (Int32.ofNat t)), .val (.long whole), .second, .unset, .unset, .unset, .unset, .unset] [] := (H.icmpYes (pc' := 40) at_32 r256 (by decide) (by decide) (tlt h1).1)
      have hk19 : k < 19 := (own_ltN (j := 19) (by omega) (by omega)).mp h1
      obtain ⟨z, hz1, hz2, hz3⟩ := own_pws_at k hk19
      have r259 : W hp 1 19 46 #[.val (.long x), .second, .val (.int a1), .val (.int d1), .val (.ref pa), .val (.int (Int32.ofNat k)), .val (.int (Int32.ofNat t)), .val (.long whole), .second, .unset, .unset, .unset, .unset, .unset] [(.int (Int32.ofNat k)), (.ref pa), (.long whole)] := (H.iload at_44 (H.aload at_42 (H.lload at_40 r257 rfl) rfl rfl) rfl)
      have r260 : W hp 1 19 47 #[.val (.long x), .second, .val (.int a1), .val (.int d1), .val (.ref pa), .val (.int (Int32.ofNat k)), .val (.int (Int32.ofNat t)), .val (.long whole), .second, .unset, .unset, .unset, .unset, .unset] [(.long z), (.long whole)] := H.ldJ (i := k) (v := (.long z)) Ap (own_ofNat (by omega)) hz1 at_46 r259
      have r261 : W hp 1 19 50 #[.val (.long x), .second, .val (.int a1), .val (.int d1), .val (.ref pa), .val (.int (Int32.ofNat k)), .val (.int (Int32.ofNat t)), .val (.long whole), .second, .val (.long (whole % z)), .second, .unset, .unset, .unset] [] := (H.lstore at_48 (H.lrem at_47 r260 hz2) rfl)
      exact ⟨_, _, own_remlt whole z M (10 ^ k) hMe hM hz3 (Nat.pow_pos (by decide)), r261⟩
    · have r258 : W hp 1 19 35 #[.val (.long x), .second, .val (.int a1), .val (.int d1), .val (.ref pa), .val (.int (Int32.ofNat k)), .val (.int (Int32.ofNat t)), .val (.long whole), .second, .unset, .unset, .unset, .unset, .unset] [] := (H.icmpNo at_32 r256 (flt h1).1)
      have r262 : W hp 1 19 50 #[.val (.long x), .second, .val (.int a1), .val (.int d1), .val (.ref pa), .val (.int (Int32.ofNat k)), .val (.int (Int32.ofNat t)), .val (.long whole), .second, .val (.long whole), .second, .unset, .unset, .unset] [] := (H.lstore at_48 (H.goto (pc' := 48) at_37 (H.lload at_35 r258 rfl) (by decide) (by decide)) rfl)
      exact ⟨_, M, ⟨hM, hMe⟩, r262⟩
  obtain ⟨num, N, ⟨hN, hnum⟩, rJ⟩ := rJ
  have r263 : W hp 1 19 52 #[.val (.long x), .second, .val (.int a1), .val (.int d1), .val (.ref pa), .val (.int (Int32.ofNat k)), .val (.int (Int32.ofNat t)), .val (.long whole), .second, .val (.long num), .second, .unset, .unset, .unset] [(.int (24 : Int32))] := (H.bipush (z := (24 : Int32)) at_50 rJ rfl)
  obtain ⟨h264, ta, ea265, E266, A267, r268⟩ := H.newA (i := 24) (cap := 24) (d := (.int 0)) rfl rfl (hw _ (List.mem_of_getElem? (i := 25) rfl)) (by decide) (by decide) (by decide) (by decide) (by decide) at_52 r263
  have ne269 : pa ≠ ta := Nat.ne_of_lt (by rw [ea265]; exact Ap.lt)
  have N270 : n0 ≤ ta := by rw [ea265]; exact Z248
  have Z271 : n0 ≤ h264.size := Nat.le_trans Z248 E266.1
  have A267l : Ary Z h264 ta .byte [.int 0, .int 0, .int 0, .int 0, .int 0, .int 0, .int 0, .int 0, .int 0, .int 0, .int 0, .int 0, .int 0, .int 0, .int 0, .int 0, .int 0, .int 0, .int 0, .int 0, .int 0, .int 0, .int 0, .int 0] := A267
  replace r268 : W h264 2 43 54 #[.val (.long x), .second, .val (.int a1), .val (.int d1), .val (.ref pa), .val (.int (Int32.ofNat k)), .val (.int (Int32.ofNat t)), .val (.long whole), .second, .val (.long num), .second, .unset, .unset, .unset] [(.ref ta)] := r268
  have AT : Ary Z h264 ta .byte (own_arr N (t + k) 0) := by rw [← own_arr0]; exact A267l
  have r272 : W h264 2 43 56 #[.val (.long x), .second, .val (.int a1), .val (.int d1), .val (.ref pa), .val (.int (Int32.ofNat k)), .val (.int (Int32.ofNat t)), .val (.long whole), .second, .val (.long num), .second, .val (.ref ta), .unset, .unset] [] := (H.astore at_54 r268 rfl rfl)
  have r273 : W h264 2 43 64 #[.val (.long x), .second, .val (.int a1), .val (.int d1), .val (.ref pa), .val (.int (Int32.ofNat k)), .val (.int (Int32.ofNat t)), .val (.long whole), .second, .val (.long num), .second, .val (.ref ta), .unset, .unset] [(.int (Int32.ofNat k)), (.long num), (.int (Int32.ofNat t)), (.ref ta)] := (H.iload at_62 (H.lload at_60 (H.iload at_58 (H.aload at_56 r272 rfl rfl) rfl) rfl) rfl)
  have F274 := hold.keep Kp all0
  have F275 := F274.ext E266
  obtain ⟨_, hq, ⟨rfl, Kq, Aq⟩, r276⟩ := H.callS (w := 0) (argsL := [(.ref ta), (.int (Int32.ofNat t)), (.long num), (.int (Int32.ofNat k))]) (rest := []) (hw _ (List.mem_of_getElem? (i := 26) rfl)) (hw _ (List.mem_of_getElem? (i := 27) rfl)) (hw _ (List.mem_of_getElem? (i := 28) rfl)) (hw _ (List.mem_of_getElem? (i := 29) rfl)) (by decide) pd_1 (by decide) (by decide) (by decide) (by decide) (put_ct hw N t k num hnum ta ht (by omega) oa na fo ft TONES TTENS hONES hTENS h264 n0 Z271 N270 AT F275) rfl rfl (Nat.le_of_eq rfl) rfl at_64 r273
  have Z277 : n0 ≤ hq.size := Nat.le_trans Z271 Kq.1
  replace r276 : W hq 2 43 67 #[.val (.long x), .second, .val (.int a1), .val (.int d1), .val (.ref pa), .val (.int (Int32.ofNat k)), .val (.int (Int32.ofNat t)), .val (.long whole), .second, .val (.long num), .second, .val (.ref ta), .unset, .unset] [(.int (Int32.ofNat (t + k)))] := r276
  have r278 : W hq 2 43 69 #[.val (.long x), .second, .val (.int a1), .val (.int d1), .val (.ref pa), .val (.int (Int32.ofNat k)), .val (.int (Int32.ofNat t)), .val (.long whole), .second, .val (.long num), .second, .val (.ref ta), .val (.int (Int32.ofNat (t + k))), .unset] [] := (H.istore at_67 r276 rfl)
  have r279 : W hq 2 43 76 #[.val (.long x), .second, .val (.int a1), .val (.int d1), .val (.ref pa), .val (.int (Int32.ofNat k)), .val (.int (Int32.ofNat t)), .val (.long whole), .second, .val (.long num), .second, .val (.ref ta), .val (.int (Int32.ofNat (t + k))), .unset] [(.int ((Int32.ofNat t) + (Int32.ofNat k))), (.int (Int32.ofNat (t + k)))] := (H.iadd at_75 (H.iload at_73 (H.iload at_71 (H.iload at_69 r278 rfl) rfl) rfl))
  rw [← Int32.ofNat_add] at r279
  have r280 : W hq 2 43 79 #[.val (.long x), .second, .val (.int a1), .val (.int d1), .val (.ref pa), .val (.int (Int32.ofNat k)), .val (.int (Int32.ofNat t)), .val (.long whole), .second, .val (.long num), .second, .val (.ref ta), .val (.int (Int32.ofNat (t + k))), .unset] [] := (H.icmpNo at_76 r279 (teq (rfl : Int32.ofNat (t + k) = Int32.ofNat (t + k))).2)
  have F281 := Ap.ext E266
  have F282 := F281.keep Kq (ninS ne269 nin0)
  have r283 : W hq 2 43 86 #[.val (.long x), .second, .val (.int a1), .val (.int d1), .val (.ref pa), .val (.int (Int32.ofNat k)), .val (.int (Int32.ofNat t)), .val (.long whole), .second, .val (.long num), .second, .val (.ref ta), .val (.int (Int32.ofNat (t + k))), .val (.int (1 : Int32))] [] := (H.istore at_84 (H.goto (pc' := 84) at_80 (H.iconst (z := (1 : Int32)) at_79 r280 rfl) (by decide) (by decide)) rfl)
  have r284 : W hq 2 43 91 #[.val (.long x), .second, .val (.int a1), .val (.int d1), .val (.ref pa), .val (.int (Int32.ofNat k)), .val (.int (Int32.ofNat t)), .val (.long whole), .second, .val (.long num), .second, .val (.ref ta), .val (.int (Int32.ofNat (t + k))), .val (.int (1 : Int32))] [] := (H.ifNo at_88 (H.iload at_86 r283 rfl) (feq (by decide)).1)
  have r285 : W hq 2 43 102 #[.val (.long x), .second, .val (.int a1), .val (.int d1), .val (.ref pa), .val (.int (Int32.ofNat k)), .val (.int (Int32.ofNat t)), .val (.long whole), .second, .val (.long num), .second, .val (.ref ta), .val (.int (Int32.ofNat (t + k))), .val (.int (1 : Int32))] [(.ref pa), (.long num), (.int (Int32.ofNat k)), (.int (Int32.ofNat t)), (.int (0 : Int32)), (.ref ta)] := (H.aload at_100 (H.lload at_98 (H.iload at_96 (H.iload at_94 (H.iconst (z := (0 : Int32)) at_93 (H.aload at_91 r284 rfl rfl) rfl) rfl) rfl) rfl) rfl rfl)
  have r286 : W hq 2 43 105 #[.val (.long x), .second, .val (.int a1), .val (.int d1), .val (.ref pa), .val (.int (Int32.ofNat k)), .val (.int (Int32.ofNat t)), .val (.long whole), .second, .val (.long num), .second, .val (.ref ta), .val (.int (Int32.ofNat (t + k))), .val (.int (1 : Int32))] [(.int (1 : Int32))] := H.callSP (w := 0) (argsL := [(.ref ta), (.int (0 : Int32)), (.int (Int32.ofNat t)), (.int (Int32.ofNat k)), (.long num), (.ref pa)]) (rest := []) (hw _ (List.mem_of_getElem? (i := 35) rfl)) (hw _ (List.mem_of_getElem? (i := 36) rfl)) (hw _ (List.mem_of_getElem? (i := 2) rfl)) (hw _ (List.mem_of_getElem? (i := 37) rfl)) (by decide) pd_2 (by decide) (by decide) (by decide) (by decide) (cell_ct hw N 0 t k num hnum hN ta pa (by decide) ht (by omega) hq n0 Aq F282) rfl rfl (Nat.le_of_eq rfl) rfl at_102 r285
  have r287 : W hq 2 43 108 #[.val (.long x), .second, .val (.int a1), .val (.int d1), .val (.ref pa), .val (.int (Int32.ofNat k)), .val (.int (Int32.ofNat t)), .val (.long whole), .second, .val (.long num), .second, .val (.ref ta), .val (.int (Int32.ofNat (t + k))), .val (.int (1 : Int32))] [] := (H.ifNo at_105 r286 (feq (by decide)).1)
  have r288 : W hq 2 43 115 #[.val (.long x), .second, .val (.int a1), .val (.int d1), .val (.ref pa), .val (.int (Int32.ofNat k)), .val (.int (Int32.ofNat t)), .val (.long whole), .second, .val (.long num), .second, .val (.ref ta), .val (.int (Int32.ofNat (t + k))), .val (.int (1 : Int32))] [] := (H.istore at_113 (H.goto (pc' := 113) at_109 (H.iconst (z := (1 : Int32)) at_108 r287 rfl) (by decide) (by decide)) rfl)
  have r289 : W hq 2 43 120 #[.val (.long x), .second, .val (.int a1), .val (.int d1), .val (.ref pa), .val (.int (Int32.ofNat k)), .val (.int (Int32.ofNat t)), .val (.long whole), .second, .val (.long num), .second, .val (.ref ta), .val (.int (Int32.ofNat (t + k))), .val (.int (1 : Int32))] [] := (H.ifNo at_117 (H.iload at_115 r288 rfl) (feq (by decide)).1)
  have r290 : W hq 2 43 131 #[.val (.long x), .second, .val (.int a1), .val (.int d1), .val (.ref pa), .val (.int (Int32.ofNat k)), .val (.int (Int32.ofNat t)), .val (.long whole), .second, .val (.long num), .second, .val (.ref ta), .val (.int (Int32.ofNat (t + k))), .val (.int (1 : Int32))] [(.ref pa), (.long num), (.int (Int32.ofNat k)), (.int (Int32.ofNat t)), (.int (1 : Int32)), (.ref ta)] := (H.aload at_129 (H.lload at_127 (H.iload at_125 (H.iload at_123 (H.iconst (z := (1 : Int32)) at_122 (H.aload at_120 r289 rfl rfl) rfl) rfl) rfl) rfl) rfl rfl)
  have r291 : W hq 2 43 134 #[.val (.long x), .second, .val (.int a1), .val (.int d1), .val (.ref pa), .val (.int (Int32.ofNat k)), .val (.int (Int32.ofNat t)), .val (.long whole), .second, .val (.long num), .second, .val (.ref ta), .val (.int (Int32.ofNat (t + k))), .val (.int (1 : Int32))] [(.int (1 : Int32))] := H.callSP (w := 0) (argsL := [(.ref ta), (.int (1 : Int32)), (.int (Int32.ofNat t)), (.int (Int32.ofNat k)), (.long num), (.ref pa)]) (rest := []) (hw _ (List.mem_of_getElem? (i := 35) rfl)) (hw _ (List.mem_of_getElem? (i := 36) rfl)) (hw _ (List.mem_of_getElem? (i := 2) rfl)) (hw _ (List.mem_of_getElem? (i := 37) rfl)) (by decide) pd_2 (by decide) (by decide) (by decide) (by decide) (cell_ct hw N 1 t k num hnum hN ta pa (by decide) ht (by omega) hq n0 Aq F282) rfl rfl (Nat.le_of_eq rfl) rfl at_131 r290
  have r292 : W hq 2 43 137 #[.val (.long x), .second, .val (.int a1), .val (.int d1), .val (.ref pa), .val (.int (Int32.ofNat k)), .val (.int (Int32.ofNat t)), .val (.long whole), .second, .val (.long num), .second, .val (.ref ta), .val (.int (Int32.ofNat (t + k))), .val (.int (1 : Int32))] [] := (H.ifNo at_134 r291 (feq (by decide)).1)
  have r293 : W hq 2 43 144 #[.val (.long x), .second, .val (.int a1), .val (.int d1), .val (.ref pa), .val (.int (Int32.ofNat k)), .val (.int (Int32.ofNat t)), .val (.long whole), .second, .val (.long num), .second, .val (.ref ta), .val (.int (Int32.ofNat (t + k))), .val (.int (1 : Int32))] [] := (H.istore at_142 (H.goto (pc' := 142) at_138 (H.iconst (z := (1 : Int32)) at_137 r292 rfl) (by decide) (by decide)) rfl)
  have r294 : W hq 2 43 149 #[.val (.long x), .second, .val (.int a1), .val (.int d1), .val (.ref pa), .val (.int (Int32.ofNat k)), .val (.int (Int32.ofNat t)), .val (.long whole), .second, .val (.long num), .second, .val (.ref ta), .val (.int (Int32.ofNat (t + k))), .val (.int (1 : Int32))] [] := (H.ifNo at_146 (H.iload at_144 r293 rfl) (feq (by decide)).1)
  have r295 : W hq 2 43 160 #[.val (.long x), .second, .val (.int a1), .val (.int d1), .val (.ref pa), .val (.int (Int32.ofNat k)), .val (.int (Int32.ofNat t)), .val (.long whole), .second, .val (.long num), .second, .val (.ref ta), .val (.int (Int32.ofNat (t + k))), .val (.int (1 : Int32))] [(.ref pa), (.long num), (.int (Int32.ofNat k)), (.int (Int32.ofNat t)), (.int (2 : Int32)), (.ref ta)] := (H.aload at_158 (H.lload at_156 (H.iload at_154 (H.iload at_152 (H.iconst (z := (2 : Int32)) at_151 (H.aload at_149 r294 rfl rfl) rfl) rfl) rfl) rfl) rfl rfl)
  have r296 : W hq 2 43 163 #[.val (.long x), .second, .val (.int a1), .val (.int d1), .val (.ref pa), .val (.int (Int32.ofNat k)), .val (.int (Int32.ofNat t)), .val (.long whole), .second, .val (.long num), .second, .val (.ref ta), .val (.int (Int32.ofNat (t + k))), .val (.int (1 : Int32))] [(.int (1 : Int32))] := H.callSP (w := 0) (argsL := [(.ref ta), (.int (2 : Int32)), (.int (Int32.ofNat t)), (.int (Int32.ofNat k)), (.long num), (.ref pa)]) (rest := []) (hw _ (List.mem_of_getElem? (i := 35) rfl)) (hw _ (List.mem_of_getElem? (i := 36) rfl)) (hw _ (List.mem_of_getElem? (i := 2) rfl)) (hw _ (List.mem_of_getElem? (i := 37) rfl)) (by decide) pd_2 (by decide) (by decide) (by decide) (by decide) (cell_ct hw N 2 t k num hnum hN ta pa (by decide) ht (by omega) hq n0 Aq F282) rfl rfl (Nat.le_of_eq rfl) rfl at_160 r295
  have r297 : W hq 2 43 166 #[.val (.long x), .second, .val (.int a1), .val (.int d1), .val (.ref pa), .val (.int (Int32.ofNat k)), .val (.int (Int32.ofNat t)), .val (.long whole), .second, .val (.long num), .second, .val (.ref ta), .val (.int (Int32.ofNat (t + k))), .val (.int (1 : Int32))] [] := (H.ifNo at_163 r296 (feq (by decide)).1)
  have r298 : W hq 2 43 173 #[.val (.long x), .second, .val (.int a1), .val (.int d1), .val (.ref pa), .val (.int (Int32.ofNat k)), .val (.int (Int32.ofNat t)), .val (.long whole), .second, .val (.long num), .second, .val (.ref ta), .val (.int (Int32.ofNat (t + k))), .val (.int (1 : Int32))] [] := (H.istore at_171 (H.goto (pc' := 171) at_167 (H.iconst (z := (1 : Int32)) at_166 r297 rfl) (by decide) (by decide)) rfl)
  have r299 : W hq 2 43 178 #[.val (.long x), .second, .val (.int a1), .val (.int d1), .val (.ref pa), .val (.int (Int32.ofNat k)), .val (.int (Int32.ofNat t)), .val (.long whole), .second, .val (.long num), .second, .val (.ref ta), .val (.int (Int32.ofNat (t + k))), .val (.int (1 : Int32))] [] := (H.ifNo at_175 (H.iload at_173 r298 rfl) (feq (by decide)).1)
  have r300 : W hq 2 43 189 #[.val (.long x), .second, .val (.int a1), .val (.int d1), .val (.ref pa), .val (.int (Int32.ofNat k)), .val (.int (Int32.ofNat t)), .val (.long whole), .second, .val (.long num), .second, .val (.ref ta), .val (.int (Int32.ofNat (t + k))), .val (.int (1 : Int32))] [(.ref pa), (.long num), (.int (Int32.ofNat k)), (.int (Int32.ofNat t)), (.int (3 : Int32)), (.ref ta)] := (H.aload at_187 (H.lload at_185 (H.iload at_183 (H.iload at_181 (H.iconst (z := (3 : Int32)) at_180 (H.aload at_178 r299 rfl rfl) rfl) rfl) rfl) rfl) rfl rfl)
  have r301 : W hq 2 43 192 #[.val (.long x), .second, .val (.int a1), .val (.int d1), .val (.ref pa), .val (.int (Int32.ofNat k)), .val (.int (Int32.ofNat t)), .val (.long whole), .second, .val (.long num), .second, .val (.ref ta), .val (.int (Int32.ofNat (t + k))), .val (.int (1 : Int32))] [(.int (1 : Int32))] := H.callSP (w := 0) (argsL := [(.ref ta), (.int (3 : Int32)), (.int (Int32.ofNat t)), (.int (Int32.ofNat k)), (.long num), (.ref pa)]) (rest := []) (hw _ (List.mem_of_getElem? (i := 35) rfl)) (hw _ (List.mem_of_getElem? (i := 36) rfl)) (hw _ (List.mem_of_getElem? (i := 2) rfl)) (hw _ (List.mem_of_getElem? (i := 37) rfl)) (by decide) pd_2 (by decide) (by decide) (by decide) (by decide) (cell_ct hw N 3 t k num hnum hN ta pa (by decide) ht (by omega) hq n0 Aq F282) rfl rfl (Nat.le_of_eq rfl) rfl at_189 r300
  have r302 : W hq 2 43 195 #[.val (.long x), .second, .val (.int a1), .val (.int d1), .val (.ref pa), .val (.int (Int32.ofNat k)), .val (.int (Int32.ofNat t)), .val (.long whole), .second, .val (.long num), .second, .val (.ref ta), .val (.int (Int32.ofNat (t + k))), .val (.int (1 : Int32))] [] := (H.ifNo at_192 r301 (feq (by decide)).1)
  have r303 : W hq 2 43 202 #[.val (.long x), .second, .val (.int a1), .val (.int d1), .val (.ref pa), .val (.int (Int32.ofNat k)), .val (.int (Int32.ofNat t)), .val (.long whole), .second, .val (.long num), .second, .val (.ref ta), .val (.int (Int32.ofNat (t + k))), .val (.int (1 : Int32))] [] := (H.istore at_200 (H.goto (pc' := 200) at_196 (H.iconst (z := (1 : Int32)) at_195 r302 rfl) (by decide) (by decide)) rfl)
  have r304 : W hq 2 43 207 #[.val (.long x), .second, .val (.int a1), .val (.int d1), .val (.ref pa), .val (.int (Int32.ofNat k)), .val (.int (Int32.ofNat t)), .val (.long whole), .second, .val (.long num), .second, .val (.ref ta), .val (.int (Int32.ofNat (t + k))), .val (.int (1 : Int32))] [] := (H.ifNo at_204 (H.iload at_202 r303 rfl) (feq (by decide)).1)
  have r305 : W hq 2 43 218 #[.val (.long x), .second, .val (.int a1), .val (.int d1), .val (.ref pa), .val (.int (Int32.ofNat k)), .val (.int (Int32.ofNat t)), .val (.long whole), .second, .val (.long num), .second, .val (.ref ta), .val (.int (Int32.ofNat (t + k))), .val (.int (1 : Int32))] [(.ref pa), (.long num), (.int (Int32.ofNat k)), (.int (Int32.ofNat t)), (.int (4 : Int32)), (.ref ta)] := (H.aload at_216 (H.lload at_214 (H.iload at_212 (H.iload at_210 (H.iconst (z := (4 : Int32)) at_209 (H.aload at_207 r304 rfl rfl) rfl) rfl) rfl) rfl) rfl rfl)
  have r306 : W hq 2 43 221 #[.val (.long x), .second, .val (.int a1), .val (.int d1), .val (.ref pa), .val (.int (Int32.ofNat k)), .val (.int (Int32.ofNat t)), .val (.long whole), .second, .val (.long num), .second, .val (.ref ta), .val (.int (Int32.ofNat (t + k))), .val (.int (1 : Int32))] [(.int (1 : Int32))] := H.callSP (w := 0) (argsL := [(.ref ta), (.int (4 : Int32)), (.int (Int32.ofNat t)), (.int (Int32.ofNat k)), (.long num), (.ref pa)]) (rest := []) (hw _ (List.mem_of_getElem? (i := 35) rfl)) (hw _ (List.mem_of_getElem? (i := 36) rfl)) (hw _ (List.mem_of_getElem? (i := 2) rfl)) (hw _ (List.mem_of_getElem? (i := 37) rfl)) (by decide) pd_2 (by decide) (by decide) (by decide) (by decide) (cell_ct hw N 4 t k num hnum hN ta pa (by decide) ht (by omega) hq n0 Aq F282) rfl rfl (Nat.le_of_eq rfl) rfl at_218 r305
  have r307 : W hq 2 43 224 #[.val (.long x), .second, .val (.int a1), .val (.int d1), .val (.ref pa), .val (.int (Int32.ofNat k)), .val (.int (Int32.ofNat t)), .val (.long whole), .second, .val (.long num), .second, .val (.ref ta), .val (.int (Int32.ofNat (t + k))), .val (.int (1 : Int32))] [] := (H.ifNo at_221 r306 (feq (by decide)).1)
  have r308 : W hq 2 43 231 #[.val (.long x), .second, .val (.int a1), .val (.int d1), .val (.ref pa), .val (.int (Int32.ofNat k)), .val (.int (Int32.ofNat t)), .val (.long whole), .second, .val (.long num), .second, .val (.ref ta), .val (.int (Int32.ofNat (t + k))), .val (.int (1 : Int32))] [] := (H.istore at_229 (H.goto (pc' := 229) at_225 (H.iconst (z := (1 : Int32)) at_224 r307 rfl) (by decide) (by decide)) rfl)
  have r309 : W hq 2 43 236 #[.val (.long x), .second, .val (.int a1), .val (.int d1), .val (.ref pa), .val (.int (Int32.ofNat k)), .val (.int (Int32.ofNat t)), .val (.long whole), .second, .val (.long num), .second, .val (.ref ta), .val (.int (Int32.ofNat (t + k))), .val (.int (1 : Int32))] [] := (H.ifNo at_233 (H.iload at_231 r308 rfl) (feq (by decide)).1)
  have r310 : W hq 2 43 247 #[.val (.long x), .second, .val (.int a1), .val (.int d1), .val (.ref pa), .val (.int (Int32.ofNat k)), .val (.int (Int32.ofNat t)), .val (.long whole), .second, .val (.long num), .second, .val (.ref ta), .val (.int (Int32.ofNat (t + k))), .val (.int (1 : Int32))] [(.ref pa), (.long num), (.int (Int32.ofNat k)), (.int (Int32.ofNat t)), (.int (5 : Int32)), (.ref ta)] := (H.aload at_245 (H.lload at_243 (H.iload at_241 (H.iload at_239 (H.iconst (z := (5 : Int32)) at_238 (H.aload at_236 r309 rfl rfl) rfl) rfl) rfl) rfl) rfl rfl)
  have r311 : W hq 2 43 250 #[.val (.long x), .second, .val (.int a1), .val (.int d1), .val (.ref pa), .val (.int (Int32.ofNat k)), .val (.int (Int32.ofNat t)), .val (.long whole), .second, .val (.long num), .second, .val (.ref ta), .val (.int (Int32.ofNat (t + k))), .val (.int (1 : Int32))] [(.int (1 : Int32))] := H.callSP (w := 0) (argsL := [(.ref ta), (.int (5 : Int32)), (.int (Int32.ofNat t)), (.int (Int32.ofNat k)), (.long num), (.ref pa)]) (rest := []) (hw _ (List.mem_of_getElem? (i := 35) rfl)) (hw _ (List.mem_of_getElem? (i := 36) rfl)) (hw _ (List.mem_of_getElem? (i := 2) rfl)) (hw _ (List.mem_of_getElem? (i := 37) rfl)) (by decide) pd_2 (by decide) (by decide) (by decide) (by decide) (cell_ct hw N 5 t k num hnum hN ta pa (by decide) ht (by omega) hq n0 Aq F282) rfl rfl (Nat.le_of_eq rfl) rfl at_247 r310
  have r312 : W hq 2 43 253 #[.val (.long x), .second, .val (.int a1), .val (.int d1), .val (.ref pa), .val (.int (Int32.ofNat k)), .val (.int (Int32.ofNat t)), .val (.long whole), .second, .val (.long num), .second, .val (.ref ta), .val (.int (Int32.ofNat (t + k))), .val (.int (1 : Int32))] [] := (H.ifNo at_250 r311 (feq (by decide)).1)
  have r313 : W hq 2 43 260 #[.val (.long x), .second, .val (.int a1), .val (.int d1), .val (.ref pa), .val (.int (Int32.ofNat k)), .val (.int (Int32.ofNat t)), .val (.long whole), .second, .val (.long num), .second, .val (.ref ta), .val (.int (Int32.ofNat (t + k))), .val (.int (1 : Int32))] [] := (H.istore at_258 (H.goto (pc' := 258) at_254 (H.iconst (z := (1 : Int32)) at_253 r312 rfl) (by decide) (by decide)) rfl)
  have r314 : W hq 2 43 265 #[.val (.long x), .second, .val (.int a1), .val (.int d1), .val (.ref pa), .val (.int (Int32.ofNat k)), .val (.int (Int32.ofNat t)), .val (.long whole), .second, .val (.long num), .second, .val (.ref ta), .val (.int (Int32.ofNat (t + k))), .val (.int (1 : Int32))] [] := (H.ifNo at_262 (H.iload at_260 r313 rfl) (feq (by decide)).1)
  have r315 : W hq 2 43 277 #[.val (.long x), .second, .val (.int a1), .val (.int d1), .val (.ref pa), .val (.int (Int32.ofNat k)), .val (.int (Int32.ofNat t)), .val (.long whole), .second, .val (.long num), .second, .val (.ref ta), .val (.int (Int32.ofNat (t + k))), .val (.int (1 : Int32))] [(.ref pa), (.long num), (.int (Int32.ofNat k)), (.int (Int32.ofNat t)), (.int (6 : Int32)), (.ref ta)] := (H.aload at_275 (H.lload at_273 (H.iload at_271 (H.iload at_269 (H.bipush (z := (6 : Int32)) at_267 (H.aload at_265 r314 rfl rfl) rfl) rfl) rfl) rfl) rfl rfl)
  have r316 : W hq 2 43 280 #[.val (.long x), .second, .val (.int a1), .val (.int d1), .val (.ref pa), .val (.int (Int32.ofNat k)), .val (.int (Int32.ofNat t)), .val (.long whole), .second, .val (.long num), .second, .val (.ref ta), .val (.int (Int32.ofNat (t + k))), .val (.int (1 : Int32))] [(.int (1 : Int32))] := H.callSP (w := 0) (argsL := [(.ref ta), (.int (6 : Int32)), (.int (Int32.ofNat t)), (.int (Int32.ofNat k)), (.long num), (.ref pa)]) (rest := []) (hw _ (List.mem_of_getElem? (i := 35) rfl)) (hw _ (List.mem_of_getElem? (i := 36) rfl)) (hw _ (List.mem_of_getElem? (i := 2) rfl)) (hw _ (List.mem_of_getElem? (i := 37) rfl)) (by decide) pd_2 (by decide) (by decide) (by decide) (by decide) (cell_ct hw N 6 t k num hnum hN ta pa (by decide) ht (by omega) hq n0 Aq F282) rfl rfl (Nat.le_of_eq rfl) rfl at_277 r315
  have r317 : W hq 2 43 283 #[.val (.long x), .second, .val (.int a1), .val (.int d1), .val (.ref pa), .val (.int (Int32.ofNat k)), .val (.int (Int32.ofNat t)), .val (.long whole), .second, .val (.long num), .second, .val (.ref ta), .val (.int (Int32.ofNat (t + k))), .val (.int (1 : Int32))] [] := (H.ifNo at_280 r316 (feq (by decide)).1)
  have r318 : W hq 2 43 290 #[.val (.long x), .second, .val (.int a1), .val (.int d1), .val (.ref pa), .val (.int (Int32.ofNat k)), .val (.int (Int32.ofNat t)), .val (.long whole), .second, .val (.long num), .second, .val (.ref ta), .val (.int (Int32.ofNat (t + k))), .val (.int (1 : Int32))] [] := (H.istore at_288 (H.goto (pc' := 288) at_284 (H.iconst (z := (1 : Int32)) at_283 r317 rfl) (by decide) (by decide)) rfl)
  have r319 : W hq 2 43 295 #[.val (.long x), .second, .val (.int a1), .val (.int d1), .val (.ref pa), .val (.int (Int32.ofNat k)), .val (.int (Int32.ofNat t)), .val (.long whole), .second, .val (.long num), .second, .val (.ref ta), .val (.int (Int32.ofNat (t + k))), .val (.int (1 : Int32))] [] := (H.ifNo at_292 (H.iload at_290 r318 rfl) (feq (by decide)).1)
  have r320 : W hq 2 43 307 #[.val (.long x), .second, .val (.int a1), .val (.int d1), .val (.ref pa), .val (.int (Int32.ofNat k)), .val (.int (Int32.ofNat t)), .val (.long whole), .second, .val (.long num), .second, .val (.ref ta), .val (.int (Int32.ofNat (t + k))), .val (.int (1 : Int32))] [(.ref pa), (.long num), (.int (Int32.ofNat k)), (.int (Int32.ofNat t)), (.int (7 : Int32)), (.ref ta)] := (H.aload at_305 (H.lload at_303 (H.iload at_301 (H.iload at_299 (H.bipush (z := (7 : Int32)) at_297 (H.aload at_295 r319 rfl rfl) rfl) rfl) rfl) rfl) rfl rfl)
  have r321 : W hq 2 43 310 #[.val (.long x), .second, .val (.int a1), .val (.int d1), .val (.ref pa), .val (.int (Int32.ofNat k)), .val (.int (Int32.ofNat t)), .val (.long whole), .second, .val (.long num), .second, .val (.ref ta), .val (.int (Int32.ofNat (t + k))), .val (.int (1 : Int32))] [(.int (1 : Int32))] := H.callSP (w := 0) (argsL := [(.ref ta), (.int (7 : Int32)), (.int (Int32.ofNat t)), (.int (Int32.ofNat k)), (.long num), (.ref pa)]) (rest := []) (hw _ (List.mem_of_getElem? (i := 35) rfl)) (hw _ (List.mem_of_getElem? (i := 36) rfl)) (hw _ (List.mem_of_getElem? (i := 2) rfl)) (hw _ (List.mem_of_getElem? (i := 37) rfl)) (by decide) pd_2 (by decide) (by decide) (by decide) (by decide) (cell_ct hw N 7 t k num hnum hN ta pa (by decide) ht (by omega) hq n0 Aq F282) rfl rfl (Nat.le_of_eq rfl) rfl at_307 r320
  have r322 : W hq 2 43 313 #[.val (.long x), .second, .val (.int a1), .val (.int d1), .val (.ref pa), .val (.int (Int32.ofNat k)), .val (.int (Int32.ofNat t)), .val (.long whole), .second, .val (.long num), .second, .val (.ref ta), .val (.int (Int32.ofNat (t + k))), .val (.int (1 : Int32))] [] := (H.ifNo at_310 r321 (feq (by decide)).1)
  have r323 : W hq 2 43 320 #[.val (.long x), .second, .val (.int a1), .val (.int d1), .val (.ref pa), .val (.int (Int32.ofNat k)), .val (.int (Int32.ofNat t)), .val (.long whole), .second, .val (.long num), .second, .val (.ref ta), .val (.int (Int32.ofNat (t + k))), .val (.int (1 : Int32))] [] := (H.istore at_318 (H.goto (pc' := 318) at_314 (H.iconst (z := (1 : Int32)) at_313 r322 rfl) (by decide) (by decide)) rfl)
  have r324 : W hq 2 43 325 #[.val (.long x), .second, .val (.int a1), .val (.int d1), .val (.ref pa), .val (.int (Int32.ofNat k)), .val (.int (Int32.ofNat t)), .val (.long whole), .second, .val (.long num), .second, .val (.ref ta), .val (.int (Int32.ofNat (t + k))), .val (.int (1 : Int32))] [] := (H.ifNo at_322 (H.iload at_320 r323 rfl) (feq (by decide)).1)
  have r325 : W hq 2 43 337 #[.val (.long x), .second, .val (.int a1), .val (.int d1), .val (.ref pa), .val (.int (Int32.ofNat k)), .val (.int (Int32.ofNat t)), .val (.long whole), .second, .val (.long num), .second, .val (.ref ta), .val (.int (Int32.ofNat (t + k))), .val (.int (1 : Int32))] [(.ref pa), (.long num), (.int (Int32.ofNat k)), (.int (Int32.ofNat t)), (.int (8 : Int32)), (.ref ta)] := (H.aload at_335 (H.lload at_333 (H.iload at_331 (H.iload at_329 (H.bipush (z := (8 : Int32)) at_327 (H.aload at_325 r324 rfl rfl) rfl) rfl) rfl) rfl) rfl rfl)
  have r326 : W hq 2 43 340 #[.val (.long x), .second, .val (.int a1), .val (.int d1), .val (.ref pa), .val (.int (Int32.ofNat k)), .val (.int (Int32.ofNat t)), .val (.long whole), .second, .val (.long num), .second, .val (.ref ta), .val (.int (Int32.ofNat (t + k))), .val (.int (1 : Int32))] [(.int (1 : Int32))] := H.callSP (w := 0) (argsL := [(.ref ta), (.int (8 : Int32)), (.int (Int32.ofNat t)), (.int (Int32.ofNat k)), (.long num), (.ref pa)]) (rest := []) (hw _ (List.mem_of_getElem? (i := 35) rfl)) (hw _ (List.mem_of_getElem? (i := 36) rfl)) (hw _ (List.mem_of_getElem? (i := 2) rfl)) (hw _ (List.mem_of_getElem? (i := 37) rfl)) (by decide) pd_2 (by decide) (by decide) (by decide) (by decide) (cell_ct hw N 8 t k num hnum hN ta pa (by decide) ht (by omega) hq n0 Aq F282) rfl rfl (Nat.le_of_eq rfl) rfl at_337 r325
  have r327 : W hq 2 43 343 #[.val (.long x), .second, .val (.int a1), .val (.int d1), .val (.ref pa), .val (.int (Int32.ofNat k)), .val (.int (Int32.ofNat t)), .val (.long whole), .second, .val (.long num), .second, .val (.ref ta), .val (.int (Int32.ofNat (t + k))), .val (.int (1 : Int32))] [] := (H.ifNo at_340 r326 (feq (by decide)).1)
  have r328 : W hq 2 43 350 #[.val (.long x), .second, .val (.int a1), .val (.int d1), .val (.ref pa), .val (.int (Int32.ofNat k)), .val (.int (Int32.ofNat t)), .val (.long whole), .second, .val (.long num), .second, .val (.ref ta), .val (.int (Int32.ofNat (t + k))), .val (.int (1 : Int32))] [] := (H.istore at_348 (H.goto (pc' := 348) at_344 (H.iconst (z := (1 : Int32)) at_343 r327 rfl) (by decide) (by decide)) rfl)
  have r329 : W hq 2 43 355 #[.val (.long x), .second, .val (.int a1), .val (.int d1), .val (.ref pa), .val (.int (Int32.ofNat k)), .val (.int (Int32.ofNat t)), .val (.long whole), .second, .val (.long num), .second, .val (.ref ta), .val (.int (Int32.ofNat (t + k))), .val (.int (1 : Int32))] [] := (H.ifNo at_352 (H.iload at_350 r328 rfl) (feq (by decide)).1)
  have r330 : W hq 2 43 367 #[.val (.long x), .second, .val (.int a1), .val (.int d1), .val (.ref pa), .val (.int (Int32.ofNat k)), .val (.int (Int32.ofNat t)), .val (.long whole), .second, .val (.long num), .second, .val (.ref ta), .val (.int (Int32.ofNat (t + k))), .val (.int (1 : Int32))] [(.ref pa), (.long num), (.int (Int32.ofNat k)), (.int (Int32.ofNat t)), (.int (9 : Int32)), (.ref ta)] := (H.aload at_365 (H.lload at_363 (H.iload at_361 (H.iload at_359 (H.bipush (z := (9 : Int32)) at_357 (H.aload at_355 r329 rfl rfl) rfl) rfl) rfl) rfl) rfl rfl)
  have r331 : W hq 2 43 370 #[.val (.long x), .second, .val (.int a1), .val (.int d1), .val (.ref pa), .val (.int (Int32.ofNat k)), .val (.int (Int32.ofNat t)), .val (.long whole), .second, .val (.long num), .second, .val (.ref ta), .val (.int (Int32.ofNat (t + k))), .val (.int (1 : Int32))] [(.int (1 : Int32))] := H.callSP (w := 0) (argsL := [(.ref ta), (.int (9 : Int32)), (.int (Int32.ofNat t)), (.int (Int32.ofNat k)), (.long num), (.ref pa)]) (rest := []) (hw _ (List.mem_of_getElem? (i := 35) rfl)) (hw _ (List.mem_of_getElem? (i := 36) rfl)) (hw _ (List.mem_of_getElem? (i := 2) rfl)) (hw _ (List.mem_of_getElem? (i := 37) rfl)) (by decide) pd_2 (by decide) (by decide) (by decide) (by decide) (cell_ct hw N 9 t k num hnum hN ta pa (by decide) ht (by omega) hq n0 Aq F282) rfl rfl (Nat.le_of_eq rfl) rfl at_367 r330
  have r332 : W hq 2 43 373 #[.val (.long x), .second, .val (.int a1), .val (.int d1), .val (.ref pa), .val (.int (Int32.ofNat k)), .val (.int (Int32.ofNat t)), .val (.long whole), .second, .val (.long num), .second, .val (.ref ta), .val (.int (Int32.ofNat (t + k))), .val (.int (1 : Int32))] [] := (H.ifNo at_370 r331 (feq (by decide)).1)
  have r333 : W hq 2 43 380 #[.val (.long x), .second, .val (.int a1), .val (.int d1), .val (.ref pa), .val (.int (Int32.ofNat k)), .val (.int (Int32.ofNat t)), .val (.long whole), .second, .val (.long num), .second, .val (.ref ta), .val (.int (Int32.ofNat (t + k))), .val (.int (1 : Int32))] [] := (H.istore at_378 (H.goto (pc' := 378) at_374 (H.iconst (z := (1 : Int32)) at_373 r332 rfl) (by decide) (by decide)) rfl)
  have r334 : W hq 2 43 385 #[.val (.long x), .second, .val (.int a1), .val (.int d1), .val (.ref pa), .val (.int (Int32.ofNat k)), .val (.int (Int32.ofNat t)), .val (.long whole), .second, .val (.long num), .second, .val (.ref ta), .val (.int (Int32.ofNat (t + k))), .val (.int (1 : Int32))] [] := (H.ifNo at_382 (H.iload at_380 r333 rfl) (feq (by decide)).1)
  have r335 : W hq 2 43 397 #[.val (.long x), .second, .val (.int a1), .val (.int d1), .val (.ref pa), .val (.int (Int32.ofNat k)), .val (.int (Int32.ofNat t)), .val (.long whole), .second, .val (.long num), .second, .val (.ref ta), .val (.int (Int32.ofNat (t + k))), .val (.int (1 : Int32))] [(.ref pa), (.long num), (.int (Int32.ofNat k)), (.int (Int32.ofNat t)), (.int (10 : Int32)), (.ref ta)] := (H.aload at_395 (H.lload at_393 (H.iload at_391 (H.iload at_389 (H.bipush (z := (10 : Int32)) at_387 (H.aload at_385 r334 rfl rfl) rfl) rfl) rfl) rfl) rfl rfl)
  have r336 : W hq 2 43 400 #[.val (.long x), .second, .val (.int a1), .val (.int d1), .val (.ref pa), .val (.int (Int32.ofNat k)), .val (.int (Int32.ofNat t)), .val (.long whole), .second, .val (.long num), .second, .val (.ref ta), .val (.int (Int32.ofNat (t + k))), .val (.int (1 : Int32))] [(.int (1 : Int32))] := H.callSP (w := 0) (argsL := [(.ref ta), (.int (10 : Int32)), (.int (Int32.ofNat t)), (.int (Int32.ofNat k)), (.long num), (.ref pa)]) (rest := []) (hw _ (List.mem_of_getElem? (i := 35) rfl)) (hw _ (List.mem_of_getElem? (i := 36) rfl)) (hw _ (List.mem_of_getElem? (i := 2) rfl)) (hw _ (List.mem_of_getElem? (i := 37) rfl)) (by decide) pd_2 (by decide) (by decide) (by decide) (by decide) (cell_ct hw N 10 t k num hnum hN ta pa (by decide) ht (by omega) hq n0 Aq F282) rfl rfl (Nat.le_of_eq rfl) rfl at_397 r335
  have r337 : W hq 2 43 403 #[.val (.long x), .second, .val (.int a1), .val (.int d1), .val (.ref pa), .val (.int (Int32.ofNat k)), .val (.int (Int32.ofNat t)), .val (.long whole), .second, .val (.long num), .second, .val (.ref ta), .val (.int (Int32.ofNat (t + k))), .val (.int (1 : Int32))] [] := (H.ifNo at_400 r336 (feq (by decide)).1)
  have r338 : W hq 2 43 410 #[.val (.long x), .second, .val (.int a1), .val (.int d1), .val (.ref pa), .val (.int (Int32.ofNat k)), .val (.int (Int32.ofNat t)), .val (.long whole), .second, .val (.long num), .second, .val (.ref ta), .val (.int (Int32.ofNat (t + k))), .val (.int (1 : Int32))] [] := (H.istore at_408 (H.goto (pc' := 408) at_404 (H.iconst (z := (1 : Int32)) at_403 r337 rfl) (by decide) (by decide)) rfl)
  have r339 : W hq 2 43 415 #[.val (.long x), .second, .val (.int a1), .val (.int d1), .val (.ref pa), .val (.int (Int32.ofNat k)), .val (.int (Int32.ofNat t)), .val (.long whole), .second, .val (.long num), .second, .val (.ref ta), .val (.int (Int32.ofNat (t + k))), .val (.int (1 : Int32))] [] := (H.ifNo at_412 (H.iload at_410 r338 rfl) (feq (by decide)).1)
  have r340 : W hq 2 43 427 #[.val (.long x), .second, .val (.int a1), .val (.int d1), .val (.ref pa), .val (.int (Int32.ofNat k)), .val (.int (Int32.ofNat t)), .val (.long whole), .second, .val (.long num), .second, .val (.ref ta), .val (.int (Int32.ofNat (t + k))), .val (.int (1 : Int32))] [(.ref pa), (.long num), (.int (Int32.ofNat k)), (.int (Int32.ofNat t)), (.int (11 : Int32)), (.ref ta)] := (H.aload at_425 (H.lload at_423 (H.iload at_421 (H.iload at_419 (H.bipush (z := (11 : Int32)) at_417 (H.aload at_415 r339 rfl rfl) rfl) rfl) rfl) rfl) rfl rfl)
  have r341 : W hq 2 43 430 #[.val (.long x), .second, .val (.int a1), .val (.int d1), .val (.ref pa), .val (.int (Int32.ofNat k)), .val (.int (Int32.ofNat t)), .val (.long whole), .second, .val (.long num), .second, .val (.ref ta), .val (.int (Int32.ofNat (t + k))), .val (.int (1 : Int32))] [(.int (1 : Int32))] := H.callSP (w := 0) (argsL := [(.ref ta), (.int (11 : Int32)), (.int (Int32.ofNat t)), (.int (Int32.ofNat k)), (.long num), (.ref pa)]) (rest := []) (hw _ (List.mem_of_getElem? (i := 35) rfl)) (hw _ (List.mem_of_getElem? (i := 36) rfl)) (hw _ (List.mem_of_getElem? (i := 2) rfl)) (hw _ (List.mem_of_getElem? (i := 37) rfl)) (by decide) pd_2 (by decide) (by decide) (by decide) (by decide) (cell_ct hw N 11 t k num hnum hN ta pa (by decide) ht (by omega) hq n0 Aq F282) rfl rfl (Nat.le_of_eq rfl) rfl at_427 r340
  have r342 : W hq 2 43 433 #[.val (.long x), .second, .val (.int a1), .val (.int d1), .val (.ref pa), .val (.int (Int32.ofNat k)), .val (.int (Int32.ofNat t)), .val (.long whole), .second, .val (.long num), .second, .val (.ref ta), .val (.int (Int32.ofNat (t + k))), .val (.int (1 : Int32))] [] := (H.ifNo at_430 r341 (feq (by decide)).1)
  have r343 : W hq 2 43 440 #[.val (.long x), .second, .val (.int a1), .val (.int d1), .val (.ref pa), .val (.int (Int32.ofNat k)), .val (.int (Int32.ofNat t)), .val (.long whole), .second, .val (.long num), .second, .val (.ref ta), .val (.int (Int32.ofNat (t + k))), .val (.int (1 : Int32))] [] := (H.istore at_438 (H.goto (pc' := 438) at_434 (H.iconst (z := (1 : Int32)) at_433 r342 rfl) (by decide) (by decide)) rfl)
  have r344 : W hq 2 43 445 #[.val (.long x), .second, .val (.int a1), .val (.int d1), .val (.ref pa), .val (.int (Int32.ofNat k)), .val (.int (Int32.ofNat t)), .val (.long whole), .second, .val (.long num), .second, .val (.ref ta), .val (.int (Int32.ofNat (t + k))), .val (.int (1 : Int32))] [] := (H.ifNo at_442 (H.iload at_440 r343 rfl) (feq (by decide)).1)
  have r345 : W hq 2 43 457 #[.val (.long x), .second, .val (.int a1), .val (.int d1), .val (.ref pa), .val (.int (Int32.ofNat k)), .val (.int (Int32.ofNat t)), .val (.long whole), .second, .val (.long num), .second, .val (.ref ta), .val (.int (Int32.ofNat (t + k))), .val (.int (1 : Int32))] [(.ref pa), (.long num), (.int (Int32.ofNat k)), (.int (Int32.ofNat t)), (.int (12 : Int32)), (.ref ta)] := (H.aload at_455 (H.lload at_453 (H.iload at_451 (H.iload at_449 (H.bipush (z := (12 : Int32)) at_447 (H.aload at_445 r344 rfl rfl) rfl) rfl) rfl) rfl) rfl rfl)
  have r346 : W hq 2 43 460 #[.val (.long x), .second, .val (.int a1), .val (.int d1), .val (.ref pa), .val (.int (Int32.ofNat k)), .val (.int (Int32.ofNat t)), .val (.long whole), .second, .val (.long num), .second, .val (.ref ta), .val (.int (Int32.ofNat (t + k))), .val (.int (1 : Int32))] [(.int (1 : Int32))] := H.callSP (w := 0) (argsL := [(.ref ta), (.int (12 : Int32)), (.int (Int32.ofNat t)), (.int (Int32.ofNat k)), (.long num), (.ref pa)]) (rest := []) (hw _ (List.mem_of_getElem? (i := 35) rfl)) (hw _ (List.mem_of_getElem? (i := 36) rfl)) (hw _ (List.mem_of_getElem? (i := 2) rfl)) (hw _ (List.mem_of_getElem? (i := 37) rfl)) (by decide) pd_2 (by decide) (by decide) (by decide) (by decide) (cell_ct hw N 12 t k num hnum hN ta pa (by decide) ht (by omega) hq n0 Aq F282) rfl rfl (Nat.le_of_eq rfl) rfl at_457 r345
  have r347 : W hq 2 43 463 #[.val (.long x), .second, .val (.int a1), .val (.int d1), .val (.ref pa), .val (.int (Int32.ofNat k)), .val (.int (Int32.ofNat t)), .val (.long whole), .second, .val (.long num), .second, .val (.ref ta), .val (.int (Int32.ofNat (t + k))), .val (.int (1 : Int32))] [] := (H.ifNo at_460 r346 (feq (by decide)).1)
  have r348 : W hq 2 43 470 #[.val (.long x), .second, .val (.int a1), .val (.int d1), .val (.ref pa), .val (.int (Int32.ofNat k)), .val (.int (Int32.ofNat t)), .val (.long whole), .second, .val (.long num), .second, .val (.ref ta), .val (.int (Int32.ofNat (t + k))), .val (.int (1 : Int32))] [] := (H.istore at_468 (H.goto (pc' := 468) at_464 (H.iconst (z := (1 : Int32)) at_463 r347 rfl) (by decide) (by decide)) rfl)
  have r349 : W hq 2 43 475 #[.val (.long x), .second, .val (.int a1), .val (.int d1), .val (.ref pa), .val (.int (Int32.ofNat k)), .val (.int (Int32.ofNat t)), .val (.long whole), .second, .val (.long num), .second, .val (.ref ta), .val (.int (Int32.ofNat (t + k))), .val (.int (1 : Int32))] [] := (H.ifNo at_472 (H.iload at_470 r348 rfl) (feq (by decide)).1)
  have r350 : W hq 2 43 487 #[.val (.long x), .second, .val (.int a1), .val (.int d1), .val (.ref pa), .val (.int (Int32.ofNat k)), .val (.int (Int32.ofNat t)), .val (.long whole), .second, .val (.long num), .second, .val (.ref ta), .val (.int (Int32.ofNat (t + k))), .val (.int (1 : Int32))] [(.ref pa), (.long num), (.int (Int32.ofNat k)), (.int (Int32.ofNat t)), (.int (13 : Int32)), (.ref ta)] := (H.aload at_485 (H.lload at_483 (H.iload at_481 (H.iload at_479 (H.bipush (z := (13 : Int32)) at_477 (H.aload at_475 r349 rfl rfl) rfl) rfl) rfl) rfl) rfl rfl)
  have r351 : W hq 2 43 490 #[.val (.long x), .second, .val (.int a1), .val (.int d1), .val (.ref pa), .val (.int (Int32.ofNat k)), .val (.int (Int32.ofNat t)), .val (.long whole), .second, .val (.long num), .second, .val (.ref ta), .val (.int (Int32.ofNat (t + k))), .val (.int (1 : Int32))] [(.int (1 : Int32))] := H.callSP (w := 0) (argsL := [(.ref ta), (.int (13 : Int32)), (.int (Int32.ofNat t)), (.int (Int32.ofNat k)), (.long num), (.ref pa)]) (rest := []) (hw _ (List.mem_of_getElem? (i := 35) rfl)) (hw _ (List.mem_of_getElem? (i := 36) rfl)) (hw _ (List.mem_of_getElem? (i := 2) rfl)) (hw _ (List.mem_of_getElem? (i := 37) rfl)) (by decide) pd_2 (by decide) (by decide) (by decide) (by decide) (cell_ct hw N 13 t k num hnum hN ta pa (by decide) ht (by omega) hq n0 Aq F282) rfl rfl (Nat.le_of_eq rfl) rfl at_487 r350
  have r352 : W hq 2 43 493 #[.val (.long x), .second, .val (.int a1), .val (.int d1), .val (.ref pa), .val (.int (Int32.ofNat k)), .val (.int (Int32.ofNat t)), .val (.long whole), .second, .val (.long num), .second, .val (.ref ta), .val (.int (Int32.ofNat (t + k))), .val (.int (1 : Int32))] [] := (H.ifNo at_490 r351 (feq (by decide)).1)
  have r353 : W hq 2 43 500 #[.val (.long x), .second, .val (.int a1), .val (.int d1), .val (.ref pa), .val (.int (Int32.ofNat k)), .val (.int (Int32.ofNat t)), .val (.long whole), .second, .val (.long num), .second, .val (.ref ta), .val (.int (Int32.ofNat (t + k))), .val (.int (1 : Int32))] [] := (H.istore at_498 (H.goto (pc' := 498) at_494 (H.iconst (z := (1 : Int32)) at_493 r352 rfl) (by decide) (by decide)) rfl)
  have r354 : W hq 2 43 505 #[.val (.long x), .second, .val (.int a1), .val (.int d1), .val (.ref pa), .val (.int (Int32.ofNat k)), .val (.int (Int32.ofNat t)), .val (.long whole), .second, .val (.long num), .second, .val (.ref ta), .val (.int (Int32.ofNat (t + k))), .val (.int (1 : Int32))] [] := (H.ifNo at_502 (H.iload at_500 r353 rfl) (feq (by decide)).1)
  have r355 : W hq 2 43 517 #[.val (.long x), .second, .val (.int a1), .val (.int d1), .val (.ref pa), .val (.int (Int32.ofNat k)), .val (.int (Int32.ofNat t)), .val (.long whole), .second, .val (.long num), .second, .val (.ref ta), .val (.int (Int32.ofNat (t + k))), .val (.int (1 : Int32))] [(.ref pa), (.long num), (.int (Int32.ofNat k)), (.int (Int32.ofNat t)), (.int (14 : Int32)), (.ref ta)] := (H.aload at_515 (H.lload at_513 (H.iload at_511 (H.iload at_509 (H.bipush (z := (14 : Int32)) at_507 (H.aload at_505 r354 rfl rfl) rfl) rfl) rfl) rfl) rfl rfl)
  have r356 : W hq 2 43 520 #[.val (.long x), .second, .val (.int a1), .val (.int d1), .val (.ref pa), .val (.int (Int32.ofNat k)), .val (.int (Int32.ofNat t)), .val (.long whole), .second, .val (.long num), .second, .val (.ref ta), .val (.int (Int32.ofNat (t + k))), .val (.int (1 : Int32))] [(.int (1 : Int32))] := H.callSP (w := 0) (argsL := [(.ref ta), (.int (14 : Int32)), (.int (Int32.ofNat t)), (.int (Int32.ofNat k)), (.long num), (.ref pa)]) (rest := []) (hw _ (List.mem_of_getElem? (i := 35) rfl)) (hw _ (List.mem_of_getElem? (i := 36) rfl)) (hw _ (List.mem_of_getElem? (i := 2) rfl)) (hw _ (List.mem_of_getElem? (i := 37) rfl)) (by decide) pd_2 (by decide) (by decide) (by decide) (by decide) (cell_ct hw N 14 t k num hnum hN ta pa (by decide) ht (by omega) hq n0 Aq F282) rfl rfl (Nat.le_of_eq rfl) rfl at_517 r355
  have r357 : W hq 2 43 523 #[.val (.long x), .second, .val (.int a1), .val (.int d1), .val (.ref pa), .val (.int (Int32.ofNat k)), .val (.int (Int32.ofNat t)), .val (.long whole), .second, .val (.long num), .second, .val (.ref ta), .val (.int (Int32.ofNat (t + k))), .val (.int (1 : Int32))] [] := (H.ifNo at_520 r356 (feq (by decide)).1)
  have r358 : W hq 2 43 530 #[.val (.long x), .second, .val (.int a1), .val (.int d1), .val (.ref pa), .val (.int (Int32.ofNat k)), .val (.int (Int32.ofNat t)), .val (.long whole), .second, .val (.long num), .second, .val (.ref ta), .val (.int (Int32.ofNat (t + k))), .val (.int (1 : Int32))] [] := (H.istore at_528 (H.goto (pc' := 528) at_524 (H.iconst (z := (1 : Int32)) at_523 r357 rfl) (by decide) (by decide)) rfl)
  have r359 : W hq 2 43 535 #[.val (.long x), .second, .val (.int a1), .val (.int d1), .val (.ref pa), .val (.int (Int32.ofNat k)), .val (.int (Int32.ofNat t)), .val (.long whole), .second, .val (.long num), .second, .val (.ref ta), .val (.int (Int32.ofNat (t + k))), .val (.int (1 : Int32))] [] := (H.ifNo at_532 (H.iload at_530 r358 rfl) (feq (by decide)).1)
  have r360 : W hq 2 43 547 #[.val (.long x), .second, .val (.int a1), .val (.int d1), .val (.ref pa), .val (.int (Int32.ofNat k)), .val (.int (Int32.ofNat t)), .val (.long whole), .second, .val (.long num), .second, .val (.ref ta), .val (.int (Int32.ofNat (t + k))), .val (.int (1 : Int32))] [(.ref pa), (.long num), (.int (Int32.ofNat k)), (.int (Int32.ofNat t)), (.int (15 : Int32)), (.ref ta)] := (H.aload at_545 (H.lload at_543 (H.iload at_541 (H.iload at_539 (H.bipush (z := (15 : Int32)) at_537 (H.aload at_535 r359 rfl rfl) rfl) rfl) rfl) rfl) rfl rfl)
  have r361 : W hq 2 43 550 #[.val (.long x), .second, .val (.int a1), .val (.int d1), .val (.ref pa), .val (.int (Int32.ofNat k)), .val (.int (Int32.ofNat t)), .val (.long whole), .second, .val (.long num), .second, .val (.ref ta), .val (.int (Int32.ofNat (t + k))), .val (.int (1 : Int32))] [(.int (1 : Int32))] := H.callSP (w := 0) (argsL := [(.ref ta), (.int (15 : Int32)), (.int (Int32.ofNat t)), (.int (Int32.ofNat k)), (.long num), (.ref pa)]) (rest := []) (hw _ (List.mem_of_getElem? (i := 35) rfl)) (hw _ (List.mem_of_getElem? (i := 36) rfl)) (hw _ (List.mem_of_getElem? (i := 2) rfl)) (hw _ (List.mem_of_getElem? (i := 37) rfl)) (by decide) pd_2 (by decide) (by decide) (by decide) (by decide) (cell_ct hw N 15 t k num hnum hN ta pa (by decide) ht (by omega) hq n0 Aq F282) rfl rfl (Nat.le_of_eq rfl) rfl at_547 r360
  have r362 : W hq 2 43 553 #[.val (.long x), .second, .val (.int a1), .val (.int d1), .val (.ref pa), .val (.int (Int32.ofNat k)), .val (.int (Int32.ofNat t)), .val (.long whole), .second, .val (.long num), .second, .val (.ref ta), .val (.int (Int32.ofNat (t + k))), .val (.int (1 : Int32))] [] := (H.ifNo at_550 r361 (feq (by decide)).1)
  have r363 : W hq 2 43 560 #[.val (.long x), .second, .val (.int a1), .val (.int d1), .val (.ref pa), .val (.int (Int32.ofNat k)), .val (.int (Int32.ofNat t)), .val (.long whole), .second, .val (.long num), .second, .val (.ref ta), .val (.int (Int32.ofNat (t + k))), .val (.int (1 : Int32))] [] := (H.istore at_558 (H.goto (pc' := 558) at_554 (H.iconst (z := (1 : Int32)) at_553 r362 rfl) (by decide) (by decide)) rfl)
  have r364 : W hq 2 43 565 #[.val (.long x), .second, .val (.int a1), .val (.int d1), .val (.ref pa), .val (.int (Int32.ofNat k)), .val (.int (Int32.ofNat t)), .val (.long whole), .second, .val (.long num), .second, .val (.ref ta), .val (.int (Int32.ofNat (t + k))), .val (.int (1 : Int32))] [] := (H.ifNo at_562 (H.iload at_560 r363 rfl) (feq (by decide)).1)
  have r365 : W hq 2 43 577 #[.val (.long x), .second, .val (.int a1), .val (.int d1), .val (.ref pa), .val (.int (Int32.ofNat k)), .val (.int (Int32.ofNat t)), .val (.long whole), .second, .val (.long num), .second, .val (.ref ta), .val (.int (Int32.ofNat (t + k))), .val (.int (1 : Int32))] [(.ref pa), (.long num), (.int (Int32.ofNat k)), (.int (Int32.ofNat t)), (.int (16 : Int32)), (.ref ta)] := (H.aload at_575 (H.lload at_573 (H.iload at_571 (H.iload at_569 (H.bipush (z := (16 : Int32)) at_567 (H.aload at_565 r364 rfl rfl) rfl) rfl) rfl) rfl) rfl rfl)
  have r366 : W hq 2 43 580 #[.val (.long x), .second, .val (.int a1), .val (.int d1), .val (.ref pa), .val (.int (Int32.ofNat k)), .val (.int (Int32.ofNat t)), .val (.long whole), .second, .val (.long num), .second, .val (.ref ta), .val (.int (Int32.ofNat (t + k))), .val (.int (1 : Int32))] [(.int (1 : Int32))] := H.callSP (w := 0) (argsL := [(.ref ta), (.int (16 : Int32)), (.int (Int32.ofNat t)), (.int (Int32.ofNat k)), (.long num), (.ref pa)]) (rest := []) (hw _ (List.mem_of_getElem? (i := 35) rfl)) (hw _ (List.mem_of_getElem? (i := 36) rfl)) (hw _ (List.mem_of_getElem? (i := 2) rfl)) (hw _ (List.mem_of_getElem? (i := 37) rfl)) (by decide) pd_2 (by decide) (by decide) (by decide) (by decide) (cell_ct hw N 16 t k num hnum hN ta pa (by decide) ht (by omega) hq n0 Aq F282) rfl rfl (Nat.le_of_eq rfl) rfl at_577 r365
  have r367 : W hq 2 43 583 #[.val (.long x), .second, .val (.int a1), .val (.int d1), .val (.ref pa), .val (.int (Int32.ofNat k)), .val (.int (Int32.ofNat t)), .val (.long whole), .second, .val (.long num), .second, .val (.ref ta), .val (.int (Int32.ofNat (t + k))), .val (.int (1 : Int32))] [] := (H.ifNo at_580 r366 (feq (by decide)).1)
  have r368 : W hq 2 43 590 #[.val (.long x), .second, .val (.int a1), .val (.int d1), .val (.ref pa), .val (.int (Int32.ofNat k)), .val (.int (Int32.ofNat t)), .val (.long whole), .second, .val (.long num), .second, .val (.ref ta), .val (.int (Int32.ofNat (t + k))), .val (.int (1 : Int32))] [] := (H.istore at_588 (H.goto (pc' := 588) at_584 (H.iconst (z := (1 : Int32)) at_583 r367 rfl) (by decide) (by decide)) rfl)
  have r369 : W hq 2 43 595 #[.val (.long x), .second, .val (.int a1), .val (.int d1), .val (.ref pa), .val (.int (Int32.ofNat k)), .val (.int (Int32.ofNat t)), .val (.long whole), .second, .val (.long num), .second, .val (.ref ta), .val (.int (Int32.ofNat (t + k))), .val (.int (1 : Int32))] [] := (H.ifNo at_592 (H.iload at_590 r368 rfl) (feq (by decide)).1)
  have r370 : W hq 2 43 607 #[.val (.long x), .second, .val (.int a1), .val (.int d1), .val (.ref pa), .val (.int (Int32.ofNat k)), .val (.int (Int32.ofNat t)), .val (.long whole), .second, .val (.long num), .second, .val (.ref ta), .val (.int (Int32.ofNat (t + k))), .val (.int (1 : Int32))] [(.ref pa), (.long num), (.int (Int32.ofNat k)), (.int (Int32.ofNat t)), (.int (17 : Int32)), (.ref ta)] := (H.aload at_605 (H.lload at_603 (H.iload at_601 (H.iload at_599 (H.bipush (z := (17 : Int32)) at_597 (H.aload at_595 r369 rfl rfl) rfl) rfl) rfl) rfl) rfl rfl)
  have r371 : W hq 2 43 610 #[.val (.long x), .second, .val (.int a1), .val (.int d1), .val (.ref pa), .val (.int (Int32.ofNat k)), .val (.int (Int32.ofNat t)), .val (.long whole), .second, .val (.long num), .second, .val (.ref ta), .val (.int (Int32.ofNat (t + k))), .val (.int (1 : Int32))] [(.int (1 : Int32))] := H.callSP (w := 0) (argsL := [(.ref ta), (.int (17 : Int32)), (.int (Int32.ofNat t)), (.int (Int32.ofNat k)), (.long num), (.ref pa)]) (rest := []) (hw _ (List.mem_of_getElem? (i := 35) rfl)) (hw _ (List.mem_of_getElem? (i := 36) rfl)) (hw _ (List.mem_of_getElem? (i := 2) rfl)) (hw _ (List.mem_of_getElem? (i := 37) rfl)) (by decide) pd_2 (by decide) (by decide) (by decide) (by decide) (cell_ct hw N 17 t k num hnum hN ta pa (by decide) ht (by omega) hq n0 Aq F282) rfl rfl (Nat.le_of_eq rfl) rfl at_607 r370
  have r372 : W hq 2 43 613 #[.val (.long x), .second, .val (.int a1), .val (.int d1), .val (.ref pa), .val (.int (Int32.ofNat k)), .val (.int (Int32.ofNat t)), .val (.long whole), .second, .val (.long num), .second, .val (.ref ta), .val (.int (Int32.ofNat (t + k))), .val (.int (1 : Int32))] [] := (H.ifNo at_610 r371 (feq (by decide)).1)
  have r373 : W hq 2 43 620 #[.val (.long x), .second, .val (.int a1), .val (.int d1), .val (.ref pa), .val (.int (Int32.ofNat k)), .val (.int (Int32.ofNat t)), .val (.long whole), .second, .val (.long num), .second, .val (.ref ta), .val (.int (Int32.ofNat (t + k))), .val (.int (1 : Int32))] [] := (H.istore at_618 (H.goto (pc' := 618) at_614 (H.iconst (z := (1 : Int32)) at_613 r372 rfl) (by decide) (by decide)) rfl)
  have r374 : W hq 2 43 625 #[.val (.long x), .second, .val (.int a1), .val (.int d1), .val (.ref pa), .val (.int (Int32.ofNat k)), .val (.int (Int32.ofNat t)), .val (.long whole), .second, .val (.long num), .second, .val (.ref ta), .val (.int (Int32.ofNat (t + k))), .val (.int (1 : Int32))] [] := (H.ifNo at_622 (H.iload at_620 r373 rfl) (feq (by decide)).1)
  have r375 : W hq 2 43 637 #[.val (.long x), .second, .val (.int a1), .val (.int d1), .val (.ref pa), .val (.int (Int32.ofNat k)), .val (.int (Int32.ofNat t)), .val (.long whole), .second, .val (.long num), .second, .val (.ref ta), .val (.int (Int32.ofNat (t + k))), .val (.int (1 : Int32))] [(.ref pa), (.long num), (.int (Int32.ofNat k)), (.int (Int32.ofNat t)), (.int (18 : Int32)), (.ref ta)] := (H.aload at_635 (H.lload at_633 (H.iload at_631 (H.iload at_629 (H.bipush (z := (18 : Int32)) at_627 (H.aload at_625 r374 rfl rfl) rfl) rfl) rfl) rfl) rfl rfl)
  have r376 : W hq 2 43 640 #[.val (.long x), .second, .val (.int a1), .val (.int d1), .val (.ref pa), .val (.int (Int32.ofNat k)), .val (.int (Int32.ofNat t)), .val (.long whole), .second, .val (.long num), .second, .val (.ref ta), .val (.int (Int32.ofNat (t + k))), .val (.int (1 : Int32))] [(.int (1 : Int32))] := H.callSP (w := 0) (argsL := [(.ref ta), (.int (18 : Int32)), (.int (Int32.ofNat t)), (.int (Int32.ofNat k)), (.long num), (.ref pa)]) (rest := []) (hw _ (List.mem_of_getElem? (i := 35) rfl)) (hw _ (List.mem_of_getElem? (i := 36) rfl)) (hw _ (List.mem_of_getElem? (i := 2) rfl)) (hw _ (List.mem_of_getElem? (i := 37) rfl)) (by decide) pd_2 (by decide) (by decide) (by decide) (by decide) (cell_ct hw N 18 t k num hnum hN ta pa (by decide) ht (by omega) hq n0 Aq F282) rfl rfl (Nat.le_of_eq rfl) rfl at_637 r375
  have r377 : W hq 2 43 643 #[.val (.long x), .second, .val (.int a1), .val (.int d1), .val (.ref pa), .val (.int (Int32.ofNat k)), .val (.int (Int32.ofNat t)), .val (.long whole), .second, .val (.long num), .second, .val (.ref ta), .val (.int (Int32.ofNat (t + k))), .val (.int (1 : Int32))] [] := (H.ifNo at_640 r376 (feq (by decide)).1)
  have r378 : W hq 2 43 650 #[.val (.long x), .second, .val (.int a1), .val (.int d1), .val (.ref pa), .val (.int (Int32.ofNat k)), .val (.int (Int32.ofNat t)), .val (.long whole), .second, .val (.long num), .second, .val (.ref ta), .val (.int (Int32.ofNat (t + k))), .val (.int (1 : Int32))] [] := (H.istore at_648 (H.goto (pc' := 648) at_644 (H.iconst (z := (1 : Int32)) at_643 r377 rfl) (by decide) (by decide)) rfl)
  have r379 : W hq 2 43 655 #[.val (.long x), .second, .val (.int a1), .val (.int d1), .val (.ref pa), .val (.int (Int32.ofNat k)), .val (.int (Int32.ofNat t)), .val (.long whole), .second, .val (.long num), .second, .val (.ref ta), .val (.int (Int32.ofNat (t + k))), .val (.int (1 : Int32))] [] := (H.ifNo at_652 (H.iload at_650 r378 rfl) (feq (by decide)).1)
  have r380 : W hq 2 43 667 #[.val (.long x), .second, .val (.int a1), .val (.int d1), .val (.ref pa), .val (.int (Int32.ofNat k)), .val (.int (Int32.ofNat t)), .val (.long whole), .second, .val (.long num), .second, .val (.ref ta), .val (.int (Int32.ofNat (t + k))), .val (.int (1 : Int32))] [(.ref pa), (.long num), (.int (Int32.ofNat k)), (.int (Int32.ofNat t)), (.int (19 : Int32)), (.ref ta)] := (H.aload at_665 (H.lload at_663 (H.iload at_661 (H.iload at_659 (H.bipush (z := (19 : Int32)) at_657 (H.aload at_655 r379 rfl rfl) rfl) rfl) rfl) rfl) rfl rfl)
  have r381 : W hq 2 43 670 #[.val (.long x), .second, .val (.int a1), .val (.int d1), .val (.ref pa), .val (.int (Int32.ofNat k)), .val (.int (Int32.ofNat t)), .val (.long whole), .second, .val (.long num), .second, .val (.ref ta), .val (.int (Int32.ofNat (t + k))), .val (.int (1 : Int32))] [(.int (1 : Int32))] := H.callSP (w := 0) (argsL := [(.ref ta), (.int (19 : Int32)), (.int (Int32.ofNat t)), (.int (Int32.ofNat k)), (.long num), (.ref pa)]) (rest := []) (hw _ (List.mem_of_getElem? (i := 35) rfl)) (hw _ (List.mem_of_getElem? (i := 36) rfl)) (hw _ (List.mem_of_getElem? (i := 2) rfl)) (hw _ (List.mem_of_getElem? (i := 37) rfl)) (by decide) pd_2 (by decide) (by decide) (by decide) (by decide) (cell_ct hw N 19 t k num hnum hN ta pa (by decide) ht (by omega) hq n0 Aq F282) rfl rfl (Nat.le_of_eq rfl) rfl at_667 r380
  have r382 : W hq 2 43 673 #[.val (.long x), .second, .val (.int a1), .val (.int d1), .val (.ref pa), .val (.int (Int32.ofNat k)), .val (.int (Int32.ofNat t)), .val (.long whole), .second, .val (.long num), .second, .val (.ref ta), .val (.int (Int32.ofNat (t + k))), .val (.int (1 : Int32))] [] := (H.ifNo at_670 r381 (feq (by decide)).1)
  have r383 : W hq 2 43 680 #[.val (.long x), .second, .val (.int a1), .val (.int d1), .val (.ref pa), .val (.int (Int32.ofNat k)), .val (.int (Int32.ofNat t)), .val (.long whole), .second, .val (.long num), .second, .val (.ref ta), .val (.int (Int32.ofNat (t + k))), .val (.int (1 : Int32))] [] := (H.istore at_678 (H.goto (pc' := 678) at_674 (H.iconst (z := (1 : Int32)) at_673 r382 rfl) (by decide) (by decide)) rfl)
  have r384 : W hq 2 43 685 #[.val (.long x), .second, .val (.int a1), .val (.int d1), .val (.ref pa), .val (.int (Int32.ofNat k)), .val (.int (Int32.ofNat t)), .val (.long whole), .second, .val (.long num), .second, .val (.ref ta), .val (.int (Int32.ofNat (t + k))), .val (.int (1 : Int32))] [] := (H.ifNo at_682 (H.iload at_680 r383 rfl) (feq (by decide)).1)
  have r385 : W hq 2 43 697 #[.val (.long x), .second, .val (.int a1), .val (.int d1), .val (.ref pa), .val (.int (Int32.ofNat k)), .val (.int (Int32.ofNat t)), .val (.long whole), .second, .val (.long num), .second, .val (.ref ta), .val (.int (Int32.ofNat (t + k))), .val (.int (1 : Int32))] [(.ref pa), (.long num), (.int (Int32.ofNat k)), (.int (Int32.ofNat t)), (.int (20 : Int32)), (.ref ta)] := (H.aload at_695 (H.lload at_693 (H.iload at_691 (H.iload at_689 (H.bipush (z := (20 : Int32)) at_687 (H.aload at_685 r384 rfl rfl) rfl) rfl) rfl) rfl) rfl rfl)
  have r386 : W hq 2 43 700 #[.val (.long x), .second, .val (.int a1), .val (.int d1), .val (.ref pa), .val (.int (Int32.ofNat k)), .val (.int (Int32.ofNat t)), .val (.long whole), .second, .val (.long num), .second, .val (.ref ta), .val (.int (Int32.ofNat (t + k))), .val (.int (1 : Int32))] [(.int (1 : Int32))] := H.callSP (w := 0) (argsL := [(.ref ta), (.int (20 : Int32)), (.int (Int32.ofNat t)), (.int (Int32.ofNat k)), (.long num), (.ref pa)]) (rest := []) (hw _ (List.mem_of_getElem? (i := 35) rfl)) (hw _ (List.mem_of_getElem? (i := 36) rfl)) (hw _ (List.mem_of_getElem? (i := 2) rfl)) (hw _ (List.mem_of_getElem? (i := 37) rfl)) (by decide) pd_2 (by decide) (by decide) (by decide) (by decide) (cell_ct hw N 20 t k num hnum hN ta pa (by decide) ht (by omega) hq n0 Aq F282) rfl rfl (Nat.le_of_eq rfl) rfl at_697 r385
  have r387 : W hq 2 43 703 #[.val (.long x), .second, .val (.int a1), .val (.int d1), .val (.ref pa), .val (.int (Int32.ofNat k)), .val (.int (Int32.ofNat t)), .val (.long whole), .second, .val (.long num), .second, .val (.ref ta), .val (.int (Int32.ofNat (t + k))), .val (.int (1 : Int32))] [] := (H.ifNo at_700 r386 (feq (by decide)).1)
  have r388 : W hq 2 43 710 #[.val (.long x), .second, .val (.int a1), .val (.int d1), .val (.ref pa), .val (.int (Int32.ofNat k)), .val (.int (Int32.ofNat t)), .val (.long whole), .second, .val (.long num), .second, .val (.ref ta), .val (.int (Int32.ofNat (t + k))), .val (.int (1 : Int32))] [] := (H.istore at_708 (H.goto (pc' := 708) at_704 (H.iconst (z := (1 : Int32)) at_703 r387 rfl) (by decide) (by decide)) rfl)
  have r389 : W hq 2 43 715 #[.val (.long x), .second, .val (.int a1), .val (.int d1), .val (.ref pa), .val (.int (Int32.ofNat k)), .val (.int (Int32.ofNat t)), .val (.long whole), .second, .val (.long num), .second, .val (.ref ta), .val (.int (Int32.ofNat (t + k))), .val (.int (1 : Int32))] [] := (H.ifNo at_712 (H.iload at_710 r388 rfl) (feq (by decide)).1)
  have r390 : W hq 2 43 727 #[.val (.long x), .second, .val (.int a1), .val (.int d1), .val (.ref pa), .val (.int (Int32.ofNat k)), .val (.int (Int32.ofNat t)), .val (.long whole), .second, .val (.long num), .second, .val (.ref ta), .val (.int (Int32.ofNat (t + k))), .val (.int (1 : Int32))] [(.ref pa), (.long num), (.int (Int32.ofNat k)), (.int (Int32.ofNat t)), (.int (21 : Int32)), (.ref ta)] := (H.aload at_725 (H.lload at_723 (H.iload at_721 (H.iload at_719 (H.bipush (z := (21 : Int32)) at_717 (H.aload at_715 r389 rfl rfl) rfl) rfl) rfl) rfl) rfl rfl)
  have r391 : W hq 2 43 730 #[.val (.long x), .second, .val (.int a1), .val (.int d1), .val (.ref pa), .val (.int (Int32.ofNat k)), .val (.int (Int32.ofNat t)), .val (.long whole), .second, .val (.long num), .second, .val (.ref ta), .val (.int (Int32.ofNat (t + k))), .val (.int (1 : Int32))] [(.int (1 : Int32))] := H.callSP (w := 0) (argsL := [(.ref ta), (.int (21 : Int32)), (.int (Int32.ofNat t)), (.int (Int32.ofNat k)), (.long num), (.ref pa)]) (rest := []) (hw _ (List.mem_of_getElem? (i := 35) rfl)) (hw _ (List.mem_of_getElem? (i := 36) rfl)) (hw _ (List.mem_of_getElem? (i := 2) rfl)) (hw _ (List.mem_of_getElem? (i := 37) rfl)) (by decide) pd_2 (by decide) (by decide) (by decide) (by decide) (cell_ct hw N 21 t k num hnum hN ta pa (by decide) ht (by omega) hq n0 Aq F282) rfl rfl (Nat.le_of_eq rfl) rfl at_727 r390
  have r392 : W hq 2 43 733 #[.val (.long x), .second, .val (.int a1), .val (.int d1), .val (.ref pa), .val (.int (Int32.ofNat k)), .val (.int (Int32.ofNat t)), .val (.long whole), .second, .val (.long num), .second, .val (.ref ta), .val (.int (Int32.ofNat (t + k))), .val (.int (1 : Int32))] [] := (H.ifNo at_730 r391 (feq (by decide)).1)
  have r393 : W hq 2 43 740 #[.val (.long x), .second, .val (.int a1), .val (.int d1), .val (.ref pa), .val (.int (Int32.ofNat k)), .val (.int (Int32.ofNat t)), .val (.long whole), .second, .val (.long num), .second, .val (.ref ta), .val (.int (Int32.ofNat (t + k))), .val (.int (1 : Int32))] [] := (H.istore at_738 (H.goto (pc' := 738) at_734 (H.iconst (z := (1 : Int32)) at_733 r392 rfl) (by decide) (by decide)) rfl)
  have r394 : W hq 2 43 745 #[.val (.long x), .second, .val (.int a1), .val (.int d1), .val (.ref pa), .val (.int (Int32.ofNat k)), .val (.int (Int32.ofNat t)), .val (.long whole), .second, .val (.long num), .second, .val (.ref ta), .val (.int (Int32.ofNat (t + k))), .val (.int (1 : Int32))] [] := (H.ifNo at_742 (H.iload at_740 r393 rfl) (feq (by decide)).1)
  have r395 : W hq 2 43 757 #[.val (.long x), .second, .val (.int a1), .val (.int d1), .val (.ref pa), .val (.int (Int32.ofNat k)), .val (.int (Int32.ofNat t)), .val (.long whole), .second, .val (.long num), .second, .val (.ref ta), .val (.int (Int32.ofNat (t + k))), .val (.int (1 : Int32))] [(.ref pa), (.long num), (.int (Int32.ofNat k)), (.int (Int32.ofNat t)), (.int (22 : Int32)), (.ref ta)] := (H.aload at_755 (H.lload at_753 (H.iload at_751 (H.iload at_749 (H.bipush (z := (22 : Int32)) at_747 (H.aload at_745 r394 rfl rfl) rfl) rfl) rfl) rfl) rfl rfl)
  have r396 : W hq 2 43 760 #[.val (.long x), .second, .val (.int a1), .val (.int d1), .val (.ref pa), .val (.int (Int32.ofNat k)), .val (.int (Int32.ofNat t)), .val (.long whole), .second, .val (.long num), .second, .val (.ref ta), .val (.int (Int32.ofNat (t + k))), .val (.int (1 : Int32))] [(.int (1 : Int32))] := H.callSP (w := 0) (argsL := [(.ref ta), (.int (22 : Int32)), (.int (Int32.ofNat t)), (.int (Int32.ofNat k)), (.long num), (.ref pa)]) (rest := []) (hw _ (List.mem_of_getElem? (i := 35) rfl)) (hw _ (List.mem_of_getElem? (i := 36) rfl)) (hw _ (List.mem_of_getElem? (i := 2) rfl)) (hw _ (List.mem_of_getElem? (i := 37) rfl)) (by decide) pd_2 (by decide) (by decide) (by decide) (by decide) (cell_ct hw N 22 t k num hnum hN ta pa (by decide) ht (by omega) hq n0 Aq F282) rfl rfl (Nat.le_of_eq rfl) rfl at_757 r395
  have r397 : W hq 2 43 763 #[.val (.long x), .second, .val (.int a1), .val (.int d1), .val (.ref pa), .val (.int (Int32.ofNat k)), .val (.int (Int32.ofNat t)), .val (.long whole), .second, .val (.long num), .second, .val (.ref ta), .val (.int (Int32.ofNat (t + k))), .val (.int (1 : Int32))] [] := (H.ifNo at_760 r396 (feq (by decide)).1)
  have r398 : W hq 2 43 770 #[.val (.long x), .second, .val (.int a1), .val (.int d1), .val (.ref pa), .val (.int (Int32.ofNat k)), .val (.int (Int32.ofNat t)), .val (.long whole), .second, .val (.long num), .second, .val (.ref ta), .val (.int (Int32.ofNat (t + k))), .val (.int (1 : Int32))] [] := (H.istore at_768 (H.goto (pc' := 768) at_764 (H.iconst (z := (1 : Int32)) at_763 r397 rfl) (by decide) (by decide)) rfl)
  have r399 : W hq 2 43 775 #[.val (.long x), .second, .val (.int a1), .val (.int d1), .val (.ref pa), .val (.int (Int32.ofNat k)), .val (.int (Int32.ofNat t)), .val (.long whole), .second, .val (.long num), .second, .val (.ref ta), .val (.int (Int32.ofNat (t + k))), .val (.int (1 : Int32))] [] := (H.ifNo at_772 (H.iload at_770 r398 rfl) (feq (by decide)).1)
  have r400 : W hq 2 43 787 #[.val (.long x), .second, .val (.int a1), .val (.int d1), .val (.ref pa), .val (.int (Int32.ofNat k)), .val (.int (Int32.ofNat t)), .val (.long whole), .second, .val (.long num), .second, .val (.ref ta), .val (.int (Int32.ofNat (t + k))), .val (.int (1 : Int32))] [(.ref pa), (.long num), (.int (Int32.ofNat k)), (.int (Int32.ofNat t)), (.int (23 : Int32)), (.ref ta)] := (H.aload at_785 (H.lload at_783 (H.iload at_781 (H.iload at_779 (H.bipush (z := (23 : Int32)) at_777 (H.aload at_775 r399 rfl rfl) rfl) rfl) rfl) rfl) rfl rfl)
  have r401 : W hq 2 43 790 #[.val (.long x), .second, .val (.int a1), .val (.int d1), .val (.ref pa), .val (.int (Int32.ofNat k)), .val (.int (Int32.ofNat t)), .val (.long whole), .second, .val (.long num), .second, .val (.ref ta), .val (.int (Int32.ofNat (t + k))), .val (.int (1 : Int32))] [(.int (1 : Int32))] := H.callSP (w := 0) (argsL := [(.ref ta), (.int (23 : Int32)), (.int (Int32.ofNat t)), (.int (Int32.ofNat k)), (.long num), (.ref pa)]) (rest := []) (hw _ (List.mem_of_getElem? (i := 35) rfl)) (hw _ (List.mem_of_getElem? (i := 36) rfl)) (hw _ (List.mem_of_getElem? (i := 2) rfl)) (hw _ (List.mem_of_getElem? (i := 37) rfl)) (by decide) pd_2 (by decide) (by decide) (by decide) (by decide) (cell_ct hw N 23 t k num hnum hN ta pa (by decide) ht (by omega) hq n0 Aq F282) rfl rfl (Nat.le_of_eq rfl) rfl at_787 r400
  have r402 : W hq 2 43 793 #[.val (.long x), .second, .val (.int a1), .val (.int d1), .val (.ref pa), .val (.int (Int32.ofNat k)), .val (.int (Int32.ofNat t)), .val (.long whole), .second, .val (.long num), .second, .val (.ref ta), .val (.int (Int32.ofNat (t + k))), .val (.int (1 : Int32))] [] := (H.ifNo at_790 r401 (feq (by decide)).1)
  have r403 : W hq 2 43 800 #[.val (.long x), .second, .val (.int a1), .val (.int d1), .val (.ref pa), .val (.int (Int32.ofNat k)), .val (.int (Int32.ofNat t)), .val (.long whole), .second, .val (.long num), .second, .val (.ref ta), .val (.int (Int32.ofNat (t + k))), .val (.int (1 : Int32))] [] := (H.istore at_798 (H.goto (pc' := 798) at_794 (H.iconst (z := (1 : Int32)) at_793 r402 rfl) (by decide) (by decide)) rfl)
  have r404 : W hq 2 43 802 #[.val (.long x), .second, .val (.int a1), .val (.int d1), .val (.ref pa), .val (.int (Int32.ofNat k)), .val (.int (Int32.ofNat t)), .val (.long whole), .second, .val (.long num), .second, .val (.ref ta), .val (.int (Int32.ofNat (t + k))), .val (.int (1 : Int32))] [(.int (1 : Int32))] := (H.iload at_800 r403 rfl)
  exact ⟨_, _, H.retZ rfl rfl (by decide) (by decide) at_802 r404, rfl⟩
--SETUP
theorem own_sz {c : Cell} (h1 : c.slots.size < 2 ^ 31) (h2 : c.slots.size.toInt32 = 100) : c.slots.size = 100 := by
  have h3 := congrArg Int32.toInt h2
  rw [len_toInt h1, show (100 : Int32).toInt = 100 from rfl] at h3
  omega
theorem own_el {s : State} {a : Addr} {c : Cell} (hf : Fit s) (A : Arr s s.heap a c .byte) (p : Nat) (hb : p < 100) (hp : p < c.slots.size) : ∃ v, c.slots[p]? = some (.int v) := by
  have hi := idx_ok (own_ofNat (i := p) (by omega))
  obtain ⟨w, h1, h2⟩ := elem_fit (j := Int32.ofNat p) hf A (by rw [hi.1]; exact fun u => u.elim hi.2 (fun u => by omega))
  rw [hi.1] at h1
  obtain ⟨v, rfl⟩ := fit_I h2 (by simp)
  exact ⟨v, h1⟩
theorem own_ten : ∀ q : Nat, q < 10 → q = 0 ∨ q = 1 ∨ q = 2 ∨ q = 3 ∨ q = 4 ∨ q = 5 ∨ q = 6 ∨ q = 7 ∨ q = 8 ∨ q = 9 := by first | decide | (intro q h; omega)
section Rows
variable {args : Array Value} {s : State} {t : Term} {a : Addr} {c : Cell}
theorem own_ix (p : Nat) (hp : p < 100) : (Term.index 0).eval args s none [p] s = some (.int (Int32.ofNat p)) := (Term.index_eval _).trans rfl
theorem own_em (et : ∀ idx, t.eval args s none idx s = some (.ref a)) (ha : s.arrayAt? a = some c) (p : Nat) (hp : p < 100) (v : Int32) (hv : c.slots[p]? = some (.int v)) : (Term.elem t (.index 0)).eval args s none [p] s = some (.int v) := by
  rw [elem_f (et _) (own_ix p hp) ha (own_nn (by omega)), (idx_ok (own_ofNat (by omega))).1]; exact hv
theorem own_ltc (p m : Nat) (hp : p < 100) (hm : m ≤ 100) : (Jvm.Cond.lt (.index 0) (.int (Int32.ofNat m))).value args s none s [p] = some (decide (Int32.ofNat p < Int32.ofNat m)) := Cond.lt_ints (own_ix p hp) (Term.int_eval _)
theorem own_lec (p m : Nat) (hp : p < 100) (hm : m ≤ 100) : (Jvm.Cond.le (.int (Int32.ofNat m)) (.index 0)).value args s none s [p] = some (decide (Int32.ofNat m ≤ Int32.ofNat p)) := Cond.le_ints (Term.int_eval _) (own_ix p hp)
theorem own_leN {p m : Nat} (hp : p < 100) (hm : m ≤ 100) : Int32.ofNat m ≤ Int32.ofNat p ↔ m ≤ p := by
  rw [Int32.le_iff_toInt_le, own_ofNat (by omega), own_ofNat (by omega)]; omega
theorem own_lng (et : ∀ idx, t.eval args s none idx s = some (.ref a)) (ha : s.arrayAt? a = some c) (p : Nat) (hp : p < 100) (v : Int32) (hv : c.slots[p]? = some (.int v)) (cst : Int64) : (Jvm.Cond.eq (.op1 .i2l (.elem t (.index 0))) (.op2 .ladd (.op1 .i2l (.index 0)) (.long cst))).value args s none s [p] = some (decide (v.toInt64 = (Int32.ofNat p).toInt64 + cst)) :=
  eq_L (i2l_at (own_em et ha p hp v hv)) (by rw [op2_f (i2l_at (own_ix p hp)) (long_at cst)]; rfl)
theorem own_int (et : ∀ idx, t.eval args s none idx s = some (.ref a)) (ha : s.arrayAt? a = some c) (p : Nat) (hp : p < 100) (v : Int32) (hv : c.slots[p]? = some (.int v)) (cst : Int32) : (Jvm.Cond.eq (.elem t (.index 0)) (.sub (.index 0) (.int cst))).value args s none s [p] = some (decide (v = Int32.ofNat p - cst)) :=
  Cond.eq_ints (own_em et ha p hp v hv) (Term.sub_int (own_ix p hp) (Term.int_eval _))
theorem own_kst (et : ∀ idx, t.eval args s none idx s = some (.ref a)) (ha : s.arrayAt? a = some c) (p : Nat) (hp : p < 100) (v : Int32) (hv : c.slots[p]? = some (.int v)) (cst : Int32) : (Jvm.Cond.eq (.elem t (.index 0)) (.int cst)).value args s none s [p] = some (decide (v = cst)) :=
  Cond.eq_ints (own_em et ha p hp v hv) (Term.int_eval _)
theorem own_toL {v : Int32} {p : Nat} (hp : p < 100) {cst : Int64} {k : Nat} (hk : cst.toInt = k) (hk2 : k ≤ 100) (h : v.toInt64 = (Int32.ofNat p).toInt64 + cst) : v.toInt = ((p + k : Nat) : Int) := by
  have h1 := congrArg Int64.toInt h
  have h2 := c_ladd (Int32.ofNat p).toInt64 cst
  have h3 := rng64 ((Int32.ofNat p).toInt64 + cst)
  rw [c_i2l, own_ofNat (by omega), hk] at h2
  rw [c_i2l] at h1
  omega
theorem own_toI {v : Int32} {p : Nat} (hp : p < 100) {cst : Int32} {k : Nat} (hk : cst.toInt = k) (hk2 : k ≤ p) (h : v = Int32.ofNat p - cst) : v.toInt = ((p - k : Nat) : Int) := by
  have h2 := c_isub (Int32.ofNat p) cst
  have h3 := rng32 (Int32.ofNat p - cst)
  rw [own_ofNat (by omega), hk] at h2
  rw [h]
  omega
theorem own_rowL {lo hi cst : Nat} (et : ∀ idx, t.eval args s none idx s = some (.ref a)) (ha : s.arrayAt? a = some c) (p : Nat) (hp : p < 100) (v : Int32) (hv : c.slots[p]? = some (.int v)) (hsz : p < c.slots.size) (h : (Jvm.Cond.all t (.or (.lt (.index 0) (.int (Int32.ofNat lo))) (.or (.le (.int (Int32.ofNat hi)) (.index 0)) (.eq (.op1 .i2l (.elem t (.index 0))) (.op2 .ladd (.op1 .i2l (.index 0)) (.long (Int64.ofNat cst))))))).value args s none s [] = some true) (h1 : lo ≤ p ∧ lo ≤ 100 ∧ hi ≤ 100 ∧ cst ≤ 100) (h2 : p < hi) : v.toInt = ((p + cst : Nat) : Int) := by
  have q := Cond.all_elim (et []) ha h p hsz
  rcases or3 q (own_ltc p lo hp (by omega)) (own_lec p hi hp (by omega)) (own_lng et ha p hp v hv _) with q | q | q
  · exact absurd ((own_ltN (by omega) (by omega)).mp q) (by omega)
  · exact absurd ((own_ltN (by omega) (by omega)).mpr h2) q
  · exact own_toL hp (Int64.toInt_ofNat_of_lt (by omega)) (by omega) q
theorem own_rowL0 {hi cst : Nat} (et : ∀ idx, t.eval args s none idx s = some (.ref a)) (ha : s.arrayAt? a = some c) (p : Nat) (hp : p < 100) (v : Int32) (hv : c.slots[p]? = some (.int v)) (hsz : p < c.slots.size) (h : (Jvm.Cond.all t (.or (.le (.int (Int32.ofNat hi)) (.index 0)) (.eq (.op1 .i2l (.elem t (.index 0))) (.op2 .ladd (.op1 .i2l (.index 0)) (.long (Int64.ofNat cst)))))).value args s none s [] = some true) (h2 : p < hi ∧ hi ≤ 100 ∧ cst ≤ 100) : v.toInt = ((p + cst : Nat) : Int) := by
  have q := Cond.all_elim (et []) ha h p hsz
  rcases or_e2 (own_lec p hi hp (by omega)) (own_lng et ha p hp v hv _) q with q | q
  · exact absurd ((own_leN hp (by omega)).mp q) (by omega)
  · exact own_toL hp (Int64.toInt_ofNat_of_lt (by omega)) (by omega) q
theorem own_rowI {lo hi cst : Nat} (et : ∀ idx, t.eval args s none idx s = some (.ref a)) (ha : s.arrayAt? a = some c) (p : Nat) (hp : p < 100) (v : Int32) (hv : c.slots[p]? = some (.int v)) (hsz : p < c.slots.size) (h : (Jvm.Cond.all t (.or (.lt (.index 0) (.int (Int32.ofNat lo))) (.or (.le (.int (Int32.ofNat hi)) (.index 0)) (.eq (.elem t (.index 0)) (.sub (.index 0) (.int (Int32.ofNat cst))))))).value args s none s [] = some true) (h1 : lo ≤ p ∧ lo ≤ 100 ∧ hi ≤ 100 ∧ cst ≤ lo) (h2 : p < hi) : v.toInt = ((p - cst : Nat) : Int) := by
  have q := Cond.all_elim (et []) ha h p hsz
  rcases or3 q (own_ltc p lo hp (by omega)) (own_lec p hi hp (by omega)) (own_int et ha p hp v hv _) with q | q | q
  · exact absurd ((own_ltN (by omega) (by omega)).mp q) (by omega)
  · exact absurd ((own_ltN (by omega) (by omega)).mpr h2) q
  · exact own_toI hp (own_ofNat (by omega)) (by omega) q
theorem own_rowI9 {lo cst : Nat} (et : ∀ idx, t.eval args s none idx s = some (.ref a)) (ha : s.arrayAt? a = some c) (p : Nat) (hp : p < 100) (v : Int32) (hv : c.slots[p]? = some (.int v)) (hsz : p < c.slots.size) (h : (Jvm.Cond.all t (.or (.lt (.index 0) (.int (Int32.ofNat lo))) (.eq (.elem t (.index 0)) (.sub (.index 0) (.int (Int32.ofNat cst)))))).value args s none s [] = some true) (h1 : lo ≤ p ∧ lo ≤ 100 ∧ cst ≤ lo) : v.toInt = ((p - cst : Nat) : Int) := by
  have q := Cond.all_elim (et []) ha h p hsz
  rcases or_e2 (own_ltc p lo hp (by omega)) (own_int et ha p hp v hv _) q with q | q
  · exact absurd ((own_ltN (by omega) (by omega)).mp q) (by omega)
  · exact own_toI hp (own_ofNat (by omega)) (by omega) q
theorem own_rowK {lo hi cst : Nat} (et : ∀ idx, t.eval args s none idx s = some (.ref a)) (ha : s.arrayAt? a = some c) (p : Nat) (hp : p < 100) (v : Int32) (hv : c.slots[p]? = some (.int v)) (hsz : p < c.slots.size) (h : (Jvm.Cond.all t (.or (.lt (.index 0) (.int (Int32.ofNat lo))) (.or (.le (.int (Int32.ofNat hi)) (.index 0)) (.eq (.elem t (.index 0)) (.int (Int32.ofNat cst)))))).value args s none s [] = some true) (h1 : lo ≤ p ∧ lo ≤ 100 ∧ hi ≤ 100 ∧ cst ≤ 100) (h2 : p < hi) : v.toInt = (cst : Int) := by
  have q := Cond.all_elim (et []) ha h p hsz
  rcases or3 q (own_ltc p lo hp (by omega)) (own_lec p hi hp (by omega)) (own_kst et ha p hp v hv _) with q | q | q
  · exact absurd ((own_ltN (by omega) (by omega)).mp q) (by omega)
  · exact absurd ((own_ltN (by omega) (by omega)).mpr h2) q
  · rw [q]; exact own_ofNat (by omega)
theorem own_rowK0 {hi cst : Nat} (et : ∀ idx, t.eval args s none idx s = some (.ref a)) (ha : s.arrayAt? a = some c) (p : Nat) (hp : p < 100) (v : Int32) (hv : c.slots[p]? = some (.int v)) (hsz : p < c.slots.size) (h : (Jvm.Cond.all t (.or (.le (.int (Int32.ofNat hi)) (.index 0)) (.eq (.elem t (.index 0)) (.int (Int32.ofNat cst))))).value args s none s [] = some true) (h2 : p < hi ∧ hi ≤ 100 ∧ cst ≤ 100) : v.toInt = (cst : Int) := by
  have q := Cond.all_elim (et []) ha h p hsz
  rcases or_e2 (own_lec p hi hp (by omega)) (own_kst et ha p hp v hv _) q with q | q
  · exact absurd ((own_leN hp (by omega)).mp q) (by omega)
  · rw [q]; exact own_ofNat (by omega)
theorem own_rowK9 {lo cst : Nat} (et : ∀ idx, t.eval args s none idx s = some (.ref a)) (ha : s.arrayAt? a = some c) (p : Nat) (hp : p < 100) (v : Int32) (hv : c.slots[p]? = some (.int v)) (hsz : p < c.slots.size) (h : (Jvm.Cond.all t (.or (.lt (.index 0) (.int (Int32.ofNat lo))) (.eq (.elem t (.index 0)) (.int (Int32.ofNat cst))))).value args s none s [] = some true) (h1 : lo ≤ p ∧ lo ≤ 100 ∧ cst ≤ 100) : v.toInt = (cst : Int) := by
  have q := Cond.all_elim (et []) ha h p hsz
  rcases or_e2 (own_ltc p lo hp (by omega)) (own_kst et ha p hp v hv _) q with q | q
  · exact absurd ((own_ltN (by omega) (by omega)).mp q) (by omega)
  · rw [q]; exact own_ofNat (by omega)
end Rows
set_option maxRecDepth 65536 in
set_option maxHeartbeats 40000000 in
theorem comes_1 {Post : Tables → Env → Array Value → State → Outcome → State → Prop} (hpost : ∀ tb e args s v u, (limb_1_1.after args s (.returned v) u = true ∧ limb_1_2.after args s (.returned v) u = true ∧ True) → FrameEnd s (.returned v) u (Jvm.fieldLocs frame_1_writes args s ++ Jvm.arrayLocs frame_1_arrays args s ++ Jvm.staticLocs frame_1_statics s) 16 192 → Post tb e args s (.returned v) u) :
    ArmFor flags0 classFile x code maxLocals ret World_1 tables_1 room_1 Calls_1 rest_1 Pre_1 Post := by
  intro l hfl _ _ p e ha hc hk s m args below hf hA hF happ hP
  obtain ⟨hcalls, hrest, hpre⟩ := hP
  obtain ⟨-, -, -, hnamed, -, -, -, hat⟩ := (Spec.applies_iff hf).mp happ
  obtain ⟨hg, hn⟩ := and_e (Cond.before_iff.mp (show (Jvm.Cond.and given_1 narrow_1).before args s = true from hpre))
  obtain ⟨hcnt, hg0⟩ := and_e hg
  obtain ⟨ha0, hg1⟩ := and_e hg0
  obtain ⟨ha1, hg2⟩ := and_e hg1
  obtain ⟨w0, w1, w2, rfl⟩ : ∃ w0 w1 w2 : Value, args = #[w0, w1, w2] := by
    have hs : args.size = 3 := by simpa [Cond.value, given_1] using hcnt
    obtain ⟨L⟩ := args
    match L, hs with
    | [w0, w1, w2], _ => exact ⟨w0, w1, w2, rfl⟩
  have hw := fun d (hd : d ∈ tables_1) => atoms_spec (ws := Jvm.Cond.code x code maxLocals ret :: tables_1) hat d (List.mem_cons_of_mem _ hd)
  have hfit : Fit s := fun {y c} hc i hi => by
    obtain ⟨ha, rfl⟩ := Array.getElem?_eq_some_iff.mp hc
    have q := List.all_eq_true.mp ((Array.all_eq_true_iff_forall_mem.mp hF) _ (Array.getElem_mem ha)) i (List.mem_range.mpr hi)
    simpa [Array.getElem?_eq_getElem hi] using q
  obtain ⟨i0, ei0⟩ := isL_v ha0
  obtain rfl : w0 = (.long i0) := Option.some.inj ei0
  obtain ⟨i1, ei1⟩ := is_v ha1
  obtain rfl : w1 = (.int i1) := Option.some.inj ei1
  obtain ⟨i2, ei2⟩ := is_v hg2
  obtain rfl : w2 = (.int i2) := Option.some.inj ei2
  obtain ⟨hA, hr0⟩ := and_e hn
  obtain ⟨hLA, hr1⟩ := and_e hr0
  obtain ⟨hB, hr2⟩ := and_e hr1
  obtain ⟨hLB, hr3⟩ := and_e hr2
  obtain ⟨ho0, hr4⟩ := and_e hr3
  obtain ⟨ho1, hr5⟩ := and_e hr4
  obtain ⟨ho2, hr6⟩ := and_e hr5
  obtain ⟨ho3, hr7⟩ := and_e hr6
  obtain ⟨ho4, hr8⟩ := and_e hr7
  obtain ⟨ho5, hr9⟩ := and_e hr8
  obtain ⟨ho6, hr10⟩ := and_e hr9
  obtain ⟨ho7, hr11⟩ := and_e hr10
  obtain ⟨ho8, hr12⟩ := and_e hr11
  obtain ⟨ho9, hr13⟩ := and_e hr12
  obtain ⟨ht0, hr14⟩ := and_e hr13
  obtain ⟨ht1, hr15⟩ := and_e hr14
  obtain ⟨ht2, hr16⟩ := and_e hr15
  obtain ⟨ht3, hr17⟩ := and_e hr16
  obtain ⟨ht4, hr18⟩ := and_e hr17
  obtain ⟨ht5, hr19⟩ := and_e hr18
  obtain ⟨ht6, hr20⟩ := and_e hr19
  obtain ⟨ht7, hr21⟩ := and_e hr20
  obtain ⟨ht8, hr22⟩ := and_e hr21
  have ht9 := hr22
  obtain ⟨oa, eoa0⟩ := arr_v hA
  have eoa : ∀ idx, (Term.static "io/tagwire/codec/Decimal" "ONES" "[B").eval #[.long i0, .int i1, .int i2] s none idx s = some (.ref oa) := fun _ => by first | exact eoa0 | (simpa [Term.eval] using eoa0)
  have Soa : Sta s s.heap "io/tagwire/codec/Decimal" "ONES" "[B" (.ref oa) := Sta.start eoa0 (Or.inr ⟨(hw _ (List.mem_of_getElem? (i := 28) rfl)), (hw _ (List.mem_of_getElem? (i := 32) rfl))⟩)
  obtain ⟨coa, Aoa⟩ := Arr.start eoa0 hA
  obtain ⟨zoa1, zoa2⟩ := Jvm.Free.IntBox.length_fwd (Cond.before_iff.mpr hLA) eoa0 Aoa.1 Aoa.2.1 Aoa.2.2
  have zoa : coa.slots.size = 100 := own_sz zoa1 zoa2
  have voa : ∀ p, p < 100 → ∃ v, coa.slots[p]? = some (.int v) := fun p hp => own_el hfit Aoa p hp (by rw [zoa]; exact hp)
  obtain ⟨na, ena0⟩ := arr_v hB
  have ena : ∀ idx, (Term.static "io/tagwire/codec/Decimal" "TENS" "[B").eval #[.long i0, .int i1, .int i2] s none idx s = some (.ref na) := fun _ => by first | exact ena0 | (simpa [Term.eval] using ena0)
  have Sna : Sta s s.heap "io/tagwire/codec/Decimal" "TENS" "[B" (.ref na) := Sta.start ena0 (Or.inr ⟨(hw _ (List.mem_of_getElem? (i := 28) rfl)), (hw _ (List.mem_of_getElem? (i := 34) rfl))⟩)
  obtain ⟨cna, Ana⟩ := Arr.start ena0 hB
  obtain ⟨zna1, zna2⟩ := Jvm.Free.IntBox.length_fwd (Cond.before_iff.mpr hLB) ena0 Ana.1 Ana.2.1 Ana.2.2
  have zna : cna.slots.size = 100 := own_sz zna1 zna2
  have vna : ∀ p, p < 100 → ∃ v, cna.slots[p]? = some (.int v) := fun p hp => own_el hfit Ana p hp (by rw [zna]; exact hp)
  have TONES : own_tab s "ONES" oa (fun p => Int32.ofNat (48 + p % 10)) := ⟨Soa, coa, Aoa, zoa, fun p hp => by
    obtain ⟨v, hv⟩ := voa p hp
    have hat := Aoa.fin (Vm.Alike.refl _)
    have hsz : p < coa.slots.size := by rw [zoa]; exact hp
    rw [hv]
    refine congrArg (fun x => some (Value.int x)) (Int32.toInt_inj.mp ?_)
    show v.toInt = (Int32.ofNat (48 + p % 10)).toInt
    rw [own_ofNat (by omega)]
    obtain hj | hj | hj | hj | hj | hj | hj | hj | hj | hj : p / 10 = 0 ∨ p / 10 = 1 ∨ p / 10 = 2 ∨ p / 10 = 3 ∨ p / 10 = 4 ∨ p / 10 = 5 ∨ p / 10 = 6 ∨ p / 10 = 7 ∨ p / 10 = 8 ∨ p / 10 = 9 := own_ten (p / 10) (by omega)
    · have q := own_rowL0 (hi := 10) (cst := 48) eoa hat p hp v hv hsz ho0 (by omega); omega
    · have q := own_rowL (lo := 10) (hi := 20) (cst := 38) eoa hat p hp v hv hsz ho1 (by omega) (by omega); omega
    · have q := own_rowL (lo := 20) (hi := 30) (cst := 28) eoa hat p hp v hv hsz ho2 (by omega) (by omega); omega
    · have q := own_rowL (lo := 30) (hi := 40) (cst := 18) eoa hat p hp v hv hsz ho3 (by omega) (by omega); omega
    · have q := own_rowL (lo := 40) (hi := 50) (cst := 8) eoa hat p hp v hv hsz ho4 (by omega) (by omega); omega
    · have q := own_rowI (lo := 50) (hi := 60) (cst := 2) eoa hat p hp v hv hsz ho5 (by omega) (by omega); omega
    · have q := own_rowI (lo := 60) (hi := 70) (cst := 12) eoa hat p hp v hv hsz ho6 (by omega) (by omega); omega
    · have q := own_rowI (lo := 70) (hi := 80) (cst := 22) eoa hat p hp v hv hsz ho7 (by omega) (by omega); omega
    · have q := own_rowI (lo := 80) (hi := 90) (cst := 32) eoa hat p hp v hv hsz ho8 (by omega) (by omega); omega
    · have q := own_rowI9 (lo := 90) (cst := 42) eoa hat p hp v hv hsz ho9 (by omega); omega⟩
  have TTENS : own_tab s "TENS" na (fun p => Int32.ofNat (48 + p / 10)) := ⟨Sna, cna, Ana, zna, fun p hp => by
    obtain ⟨v, hv⟩ := vna p hp
    have hat := Ana.fin (Vm.Alike.refl _)
    have hsz : p < cna.slots.size := by rw [zna]; exact hp
    rw [hv]
    refine congrArg (fun x => some (Value.int x)) (Int32.toInt_inj.mp ?_)
    show v.toInt = (Int32.ofNat (48 + p / 10)).toInt
    rw [own_ofNat (by omega)]
    obtain hj | hj | hj | hj | hj | hj | hj | hj | hj | hj : p / 10 = 0 ∨ p / 10 = 1 ∨ p / 10 = 2 ∨ p / 10 = 3 ∨ p / 10 = 4 ∨ p / 10 = 5 ∨ p / 10 = 6 ∨ p / 10 = 7 ∨ p / 10 = 8 ∨ p / 10 = 9 := own_ten (p / 10) (by omega)
    · have q := own_rowK0 (hi := 10) (cst := 48) ena hat p hp v hv hsz ht0 (by omega); omega
    · have q := own_rowK (lo := 10) (hi := 20) (cst := 49) ena hat p hp v hv hsz ht1 (by omega) (by omega); omega
    · have q := own_rowK (lo := 20) (hi := 30) (cst := 50) ena hat p hp v hv hsz ht2 (by omega) (by omega); omega
    · have q := own_rowK (lo := 30) (hi := 40) (cst := 51) ena hat p hp v hv hsz ht3 (by omega) (by omega); omega
    · have q := own_rowK (lo := 40) (hi := 50) (cst := 52) ena hat p hp v hv hsz ht4 (by omega) (by omega); omega
    · have q := own_rowK (lo := 50) (hi := 60) (cst := 53) ena hat p hp v hv hsz ht5 (by omega) (by omega); omega
    · have q := own_rowK (lo := 60) (hi := 70) (cst := 54) ena hat p hp v hv hsz ht6 (by omega) (by omega); omega
    · have q := own_rowK (lo := 70) (hi := 80) (cst := 55) ena hat p hp v hv hsz ht7 (by omega) (by omega); omega
    · have q := own_rowK (lo := 80) (hi := 90) (cst := 56) ena hat p hp v hv hsz ht8 (by omega) (by omega); omega
    · have q := own_rowK9 (lo := 90) (cst := 57) ena hat p hp v hv hsz ht9 (by omega); omega⟩
  obtain ⟨n, o, h1, h2, h3, _, L, rfl, ⟨rfl, N⟩, hq⟩ := law_ct (l := l) hw i0 i1 i2 oa na _ _ TONES TTENS (fun _ _ => rfl) (fun _ _ => rfl) s.heap s.heap.size (Nat.le_refl _) (Old.start s) tables_1 p e ha hc hk s m _ below hf ((Spec.applies_iff_loose hf).mp happ).1 ⟨rfl, State.Warmed39.refl s, rfl⟩ trivial
  refine ⟨n, _, h1, h2, h3, hpost _ _ _ _ _ _ ⟨Cond.after_iff.mpr rfl, Cond.after_iff.mpr (eq_i res_at (Term.int_eval (1)) rfl), trivial⟩ ⟨hq.1, hq.2.1, (hq.2.2.sift fun y hy => Or.inr (N y hy)).mono (by decide) (by decide)⟩⟩
theorem main_1_1 : Claimed_1_1 := comes_1 fun _ _ _ _ _ _ h hF => ⟨h.1, hF⟩
theorem main_1_2 : Claimed_1_2 := comes_1 fun _ _ _ _ _ _ h hF => ⟨h.2.1, hF⟩
end Jvm.Pilot.@@N@@
namespace Jvm.Pilot.@@N@@
open Jvm Jvm.ClassFile Sem Op Lib Jvm.Free Jvm.Stand Jvm.Pilot.@@N@@.Jvm.D
/-! MADE BY PROGRAM (witnessworld.py) out of the Statement's table words and the real class files: 11 classes; the members and pool entries that the words name. The judged class is class 1, her method 3. -/
namespace start1
open Jvm.ClassFile
def u (s : String) : CpInfo := .utf8 (stringToUtf16 s)
/-- a pool by its gaps: so many unusable entries, then the entry; so many at the end -/
def gap : Nat → List CpInfo → List CpInfo
  | 0, r => r
  | n + 1, r => .unusable :: gap n r
def poolList (es : List (Nat × CpInfo)) (last : Nat) : List CpInfo := es.foldr (fun e r => gap e.1 (e.2 :: r)) (gap last [])
def pool (es : List (Nat × CpInfo)) (last : Nat) : Array CpInfo := ⟨poolList es last⟩
def fileOf (pool : Array CpInfo) (this : Nat) (attrs : Array Attribute := #[]) (ms : Array MethodInfo := #[]) (fl : Nat := 33) (sup : Nat := 0) (ifs : Array Nat := #[]) (fds : Array FieldInfo := #[]) : ClassFile where
  minorVersion := 0
  majorVersion := 65
  constantPool := pool
  accessFlags := fl
  thisClass := this
  superClass := sup
  interfaces := ifs
  fields := fds
  methods := ms
  attributes := attrs
def plain (name : String) (sup : Option ClassId) : Class where
  name := name
  kind := .ordinary
  loader := none
  accessFlags := 33
  super := sup
  interfaces := #[]
  cf := none
  fields := #[]
  methods := #[]
  instanceTypes := #[]
  staticTypes := #[]
  resolved := #[]
  callSites := []
  init := .initialized
  statics := none
  mirror := none

def pool0 : Array CpInfo := pool [(5, u "<init>"), (0, u "()V"), (1, .class_ 10), (1, u "java/lang/Object")] 113

def k0m0 : Method := { name := "<init>", desc := "()V", sig := { parameters := [], returnType := none }, accessFlags := 1, code := none }
/-- java/lang/Object -/
def k0 : Class := { plain "java/lang/Object" none with
  accessFlags := 33
  interfaces := #[]
  cf := some (fileOf pool0 8 #[] #[{ accessFlags := 1, nameIndex := 5, descriptorIndex := 6, attributes := #[] }] 33 0 #[] #[])
  fields := #[]
  methods := #[k0m0]
  instanceTypes := #[]
  staticTypes := #[]
  resolved := Array.replicate 124 none
  statics := none }

def pool1 : Array CpInfo := pool [(2, .class_ 4), (1, u "java/lang/Object"), (0, u "<init>"), (0, u "()V"), (0, .long 10), (1, .long 100), (1, .long 1000), (1, .long 10000), (1, .long 100000), (1, .long 1000000), (1, .long 10000000), (1, .long 100000000), (1, .long 1000000000), (1, .long 10000000000), (1, .long 100000000000), (1, .long 1000000000000), (1, .long 10000000000000), (1, .long 100000000000000), (1, .long 1000000000000000), (1, .long 10000000000000000), (1, .long 100000000000000000), (1, .long 1000000000000000000), (1, .long 48), (1, .methodref 46 47), (0, .class_ 48), (0, .nameAndType 49 50), (0, u "io/tagwire/codec/DecimalPutPinLaw"), (0, u "powers"), (0, u "()[J"), (0, .integer 2147483647), (2, .long 9223372036854775807), (1, .methodref 57 58), (0, .class_ 59), (0, .nameAndType 60 61), (0, u "io/tagwire/codec/Decimal"), (0, u "put"), (0, u "([BIJI)I"), (0, .methodref 46 63), (0, .nameAndType 64 65), (0, u "cell"), (0, u "([BIIIJ[J)Z"), (3, u "law"), (0, u "(JII)Z")] 6

def k1m0 : Method := { name := "<init>", desc := "()V", sig := { parameters := [], returnType := none }, accessFlags := 1, code := none }
def k1c1 : Code := { maxStack := 5, maxLocals := 0, code := method_2_code, exceptionTable := #[], attributes := #[] }
def k1m1 : Method := { name := "powers", desc := "()[J", sig := { parameters := [], returnType := some (.array .long) }, accessFlags := 10, code := some k1c1 }
def k1c2 : Code := { maxStack := 5, maxLocals := 10, code := method_3_code, exceptionTable := #[], attributes := #[] }
def k1m2 : Method := { name := "cell", desc := "([BIIIJ[J)Z", sig := { parameters := [(.array .byte), .int, .int, .int, .long, (.array .long)], returnType := some .boolean }, accessFlags := 10, code := some k1c2 }
def k1c3 : Code := { maxStack := 7, maxLocals := 14, code := code, exceptionTable := #[], attributes := #[] }
def k1m3 : Method := { name := "law", desc := "(JII)Z", sig := { parameters := [.long, .int, .int], returnType := some .boolean }, accessFlags := 9, code := some k1c3 }
/-- io/tagwire/codec/DecimalPutPinLaw -/
def k1 : Class := { plain "io/tagwire/codec/DecimalPutPinLaw" (some 0) with
  accessFlags := 49
  interfaces := #[]
  cf := some (fileOf pool1 46 #[] #[{ accessFlags := 1, nameIndex := 5, descriptorIndex := 6, attributes := #[] }, { accessFlags := 10, nameIndex := 49, descriptorIndex := 50, attributes := #[] }, { accessFlags := 10, nameIndex := 64, descriptorIndex := 65, attributes := #[] }, { accessFlags := 9, nameIndex := 69, descriptorIndex := 70, attributes := #[] }] 49 2 #[] #[])
  fields := #[]
  methods := #[k1m0, k1m1, k1m2, k1m3]
  instanceTypes := #[]
  staticTypes := #[]
  resolved := Array.replicate 77 none
  statics := none }

def pool2 : Array CpInfo := pool [(2, .class_ 4), (1, u "java/lang/Object"), (0, u "<init>"), (0, u "()V"), (0, .long 10), (1, .class_ 10), (0, u "io/tagwire/codec/Decimal"), (2, .long 2147483647), (1, .long 48), (1, .fieldref 9 18), (0, .nameAndType 19 20), (0, u "ONES"), (0, u "[B"), (0, .fieldref 9 22), (0, .nameAndType 23 20), (0, u "TENS"), (0, u "MAX_DIGITS"), (0, u "I"), (7, u "put"), (0, u "([BIJI)I")] 3

def k2m0 : Method := { name := "<init>", desc := "()V", sig := { parameters := [], returnType := none }, accessFlags := 2, code := none }
def k2c1 : Code := { maxStack := 8, maxLocals := 11, code := prog_20_method_3_code, exceptionTable := #[], attributes := #[] }
def k2m1 : Method := { name := "put", desc := "([BIJI)I", sig := { parameters := [(.array .byte), .int, .long, .int], returnType := some .int }, accessFlags := 9, code := some k2c1 }
/-- io/tagwire/codec/Decimal -/
def k2 : Class := { plain "io/tagwire/codec/Decimal" (some 0) with
  accessFlags := 49
  interfaces := #[]
  cf := some (fileOf pool2 9 #[] #[{ accessFlags := 2, nameIndex := 5, descriptorIndex := 6, attributes := #[] }, { accessFlags := 9, nameIndex := 33, descriptorIndex := 34, attributes := #[] }] 49 2 #[] #[{ accessFlags := 26, nameIndex := 24, descriptorIndex := 25, attributes := #[] }, { accessFlags := 26, nameIndex := 23, descriptorIndex := 20, attributes := #[] }, { accessFlags := 26, nameIndex := 19, descriptorIndex := 20, attributes := #[] }])
  fields := #[{ name := "MAX_DIGITS", type := .int, accessFlags := 26, slot := 0, constantValue := 0 }, { name := "TENS", type := (.array .byte), accessFlags := 26, slot := 1, constantValue := 0 }, { name := "ONES", type := (.array .byte), accessFlags := 26, slot := 2, constantValue := 0 }]
  methods := #[k2m0, k2m1]
  instanceTypes := #[]
  staticTypes := #[.int, (.array .byte), (.array .byte)]
  resolved := Array.replicate 38 none
  statics := some 0 }

def pool3 : Array CpInfo := pool [(1, u "java/lang/Cloneable"), (0, .class_ 1), (0, u "java/lang/Object"), (0, .class_ 3)] 3

/-- java/lang/Cloneable -/
def k3 : Class := { plain "java/lang/Cloneable" (some 0) with
  accessFlags := 1537
  interfaces := #[]
  cf := some (fileOf pool3 2 #[] #[] 1537 4 #[] #[])
  fields := #[]
  methods := #[]
  instanceTypes := #[]
  staticTypes := #[]
  resolved := Array.replicate 8 none
  statics := none }

def pool4 : Array CpInfo := pool [(1, u "java/io/Serializable"), (0, .class_ 1), (0, u "java/lang/Object"), (0, .class_ 3)] 3

/-- java/io/Serializable -/
def k4 : Class := { plain "java/io/Serializable" (some 0) with
  accessFlags := 1537
  interfaces := #[]
  cf := some (fileOf pool4 2 #[] #[] 1537 4 #[] #[])
  fields := #[]
  methods := #[]
  instanceTypes := #[]
  staticTypes := #[]
  resolved := Array.replicate 8 none
  statics := none }

/-- the primitive byte -/
def k5 : Class := { plain "byte" none with kind := .primitive 'B', accessFlags := 0x411 }
/-- [B -/
def k6 : Class := { plain "[B" (some 0) with kind := .array 5 .byte, interfaces := #[3, 4], accessFlags := 1041 }

/-- the primitive int -/
def k7 : Class := { plain "int" none with kind := .primitive 'I', accessFlags := 0x411 }
/-- [I -/
def k8 : Class := { plain "[I" (some 0) with kind := .array 7 .int, interfaces := #[3, 4], accessFlags := 1041 }

/-- the primitive long -/
def k9 : Class := { plain "long" none with kind := .primitive 'J', accessFlags := 0x411 }
/-- [J -/
def k10 : Class := { plain "[J" (some 0) with kind := .array 9 .long, interfaces := #[3, 4], accessFlags := 1041 }

def heap : Heap := #[{ cls := 2, slots := #[.int 0, .ref 2, .ref 1], vm := .statics 2 },
  { cls := 6, slots := #[.int 48, .int 49, .int 50, .int 51, .int 52, .int 53, .int 54, .int 55, .int 56, .int 57, .int 48, .int 49, .int 50, .int 51, .int 52, .int 53, .int 54, .int 55, .int 56, .int 57, .int 48, .int 49, .int 50, .int 51, .int 52, .int 53, .int 54, .int 55, .int 56, .int 57, .int 48, .int 49, .int 50, .int 51, .int 52, .int 53, .int 54, .int 55, .int 56, .int 57, .int 48, .int 49, .int 50, .int 51, .int 52, .int 53, .int 54, .int 55, .int 56, .int 57, .int 48, .int 49, .int 50, .int 51, .int 52, .int 53, .int 54, .int 55, .int 56, .int 57, .int 48, .int 49, .int 50, .int 51, .int 52, .int 53, .int 54, .int 55, .int 56, .int 57, .int 48, .int 49, .int 50, .int 51, .int 52, .int 53, .int 54, .int 55, .int 56, .int 57, .int 48, .int 49, .int 50, .int 51, .int 52, .int 53, .int 54, .int 55, .int 56, .int 57, .int 48, .int 49, .int 50, .int 51, .int 52, .int 53, .int 54, .int 55, .int 56, .int 57], vm := .none },
  { cls := 6, slots := #[.int 48, .int 48, .int 48, .int 48, .int 48, .int 48, .int 48, .int 48, .int 48, .int 48, .int 49, .int 49, .int 49, .int 49, .int 49, .int 49, .int 49, .int 49, .int 49, .int 49, .int 50, .int 50, .int 50, .int 50, .int 50, .int 50, .int 50, .int 50, .int 50, .int 50, .int 51, .int 51, .int 51, .int 51, .int 51, .int 51, .int 51, .int 51, .int 51, .int 51, .int 52, .int 52, .int 52, .int 52, .int 52, .int 52, .int 52, .int 52, .int 52, .int 52, .int 53, .int 53, .int 53, .int 53, .int 53, .int 53, .int 53, .int 53, .int 53, .int 53, .int 54, .int 54, .int 54, .int 54, .int 54, .int 54, .int 54, .int 54, .int 54, .int 54, .int 55, .int 55, .int 55, .int 55, .int 55, .int 55, .int 55, .int 55, .int 55, .int 55, .int 56, .int 56, .int 56, .int 56, .int 56, .int 56, .int 56, .int 56, .int 56, .int 56, .int 57, .int 57, .int 57, .int 57, .int 57, .int 57, .int 57, .int 57, .int 57, .int 57], vm := .none }]
def classes : Array Class := #[k0, k1, k2, k3, k4, k5, k6, k7, k8, k9, k10]
def interned : List (Array UInt16 × Addr) := []
def slotsUsed : Nat := 203
def theMethod : MethodId := ⟨1, 3⟩
def args0 : Array Value := #[.long 5, .int 2, .int 3]
def aboutOver (below : List Frame) : State where
  vm := { classes := classes, interned := interned.toArray }
  heap := heap
  slotsUsed := slotsUsed
  threads := #[{ frames := .invoking theMethod args0 :: below }]
def below0 : List Frame := [.native { method := ⟨0, 0⟩, args := #[] }]
def about1 : State := aboutOver below0
def p0 : Program := .bare "" "" ""
def e0 : Env := launch0.env 0 0 0
theorem w_frames : about1.frames = Frame.invoking theMethod args0 :: below0 := rfl
set_option maxRecDepth 65536 in
theorem w_args : argsFit about1.vm theMethod args0 = true := by decide +kernel
set_option maxRecDepth 65536 in
theorem w_heap : heapFits about1 = true := by decide +kernel
set_option maxRecDepth 65536 in
theorem w_runnable : about1.curStatus? = some .runnable := by decide +kernel
set_option maxRecDepth 65536 in
theorem w_alone : about1.alone = true := by decide +kernel
set_option maxRecDepth 65536 in
theorem w_named : about1.methodNamed? x = some theMethod := by decide +kernel
set_option maxRecDepth 65536 in
theorem w_hears : about1.hears theMethod below0 = true := by decide +kernel
set_option maxRecDepth 65536 in
theorem w_ripe : about1.ripe theMethod args0 below0 = true := by decide +kernel
theorem w_running : about1.status = .running := rfl
set_option maxRecDepth 65536 in
theorem w_room : about1.hasRoom e0.platform room_1 = true :=
  launch0.hasRoom_least _ room_1 (by decide +kernel) (by decide +kernel) (by decide +kernel) (by decide +kernel) (by decide +kernel) (by decide +kernel)
theorem allAtoms_all (ts : List Jvm.Cond) (a : Array Jvm.Value) (st : Jvm.State) : (allAtoms ts).before a st = ts.all (fun c => c.before a st) := by
  induction ts with
  | nil => rfl
  | cons c t ih =>
    show (Jvm.Cond.and c (allAtoms t)).before a st = _
    rw [Jvm.Cond.before_and, ih, List.all_cons]
def words1 : List Jvm.Cond := Jvm.Cond.code x code maxLocals ret :: tables_1
/-- a 'code' word, met by the world's own term for the bytes: nothing is compared byte by byte -/
theorem code_word {y : MethodName} {bytes : ByteArray} {mx : Nat} {rt : Option FieldType} {a : Array Value} {s : State} {m : MethodId} {meth : Method} {c : Code} (h1 : s.methodNamed? y = some m) (h2 : s.vm.method? m = some meth) (h3 : meth.code = some c) (h4 : c.code = bytes)
    (h5 : (c.maxLocals == mx && c.exceptionTable.isEmpty && decide (c.maxStack ≤ mostOperands) && decide (meth.sig.returnType = rt) && !meth.locks && decide (parseMethodDescriptor y.desc = some meth.sig)) = true) : (Jvm.Cond.code y bytes mx rt).before a s = true := by
  simp only [Bool.and_eq_true, beq_iff_eq, Bool.not_eq_true', decide_eq_true_eq] at h5
  obtain ⟨⟨⟨⟨⟨g1, g2⟩, g3⟩, g4⟩, g5⟩, g6⟩ := h5
  simp [Cond.before, Cond.holds, Cond.value, h1, h2, h3, h4, g1, g2, g3, g4, g5, g6]
def isCode : Jvm.Cond → Bool
  | .code _ _ _ _ => true
  | _ => false
theorem all_split {L : List Jvm.Cond} {P : Jvm.Cond → Bool} (h1 : L.all (fun c => isCode c || P c) = true) (h2 : ∀ c ∈ L.filter isCode, P c = true) : L.all P = true := by
  refine List.all_eq_true.mpr fun c hc => ?_
  have h := List.all_eq_true.mp h1 c hc
  rcases Bool.eq_false_or_eq_true (isCode c) with hi | hi
  · exact h2 c (List.mem_filter.mpr ⟨hc, hi⟩)
  · simpa [hi] using h
set_option maxRecDepth 65536 in
theorem w_c0 : (Jvm.Cond.code x code maxLocals ret).before args0 about1 = true := code_word (m := ⟨1, 3⟩) (meth := k1m3) (c := k1c3) (by decide +kernel) rfl rfl rfl (by decide +kernel)
set_option maxRecDepth 65536 in
theorem w_c1 : (Jvm.Cond.code ({ cls := "io/tagwire/codec/DecimalPutPinLaw", name := "powers", desc := "()[J" } : Jvm.MethodName) method_2_code (0 : Nat) (Option.some (Jvm.ClassFile.FieldType.array Jvm.ClassFile.FieldType.long))).before args0 about1 = true := code_word (m := ⟨1, 1⟩) (meth := k1m1) (c := k1c1) (by decide +kernel) rfl rfl rfl (by decide +kernel)
set_option maxRecDepth 65536 in
theorem w_c2 : (Jvm.Cond.code ({ cls := "io/tagwire/codec/Decimal", name := "put", desc := "([BIJI)I" } : Jvm.MethodName) prog_20_method_3_code (11 : Nat) (Option.some Jvm.ClassFile.FieldType.int)).before args0 about1 = true := code_word (m := ⟨2, 1⟩) (meth := k2m1) (c := k2c1) (by decide +kernel) rfl rfl rfl (by decide +kernel)
set_option maxRecDepth 65536 in
theorem w_c3 : (Jvm.Cond.code ({ cls := "io/tagwire/codec/DecimalPutPinLaw", name := "cell", desc := "([BIIIJ[J)Z" } : Jvm.MethodName) method_3_code (10 : Nat) (Option.some Jvm.ClassFile.FieldType.boolean)).before args0 about1 = true := code_word (m := ⟨1, 2⟩) (meth := k1m2) (c := k1c2) (by decide +kernel) rfl rfl rfl (by decide +kernel)
def codes1 : List Jvm.Cond := [Jvm.Cond.code x code maxLocals ret, Jvm.Cond.code ({ cls := "io/tagwire/codec/DecimalPutPinLaw", name := "powers", desc := "()[J" } : Jvm.MethodName) method_2_code (0 : Nat) (Option.some (Jvm.ClassFile.FieldType.array Jvm.ClassFile.FieldType.long)), Jvm.Cond.code ({ cls := "io/tagwire/codec/Decimal", name := "put", desc := "([BIJI)I" } : Jvm.MethodName) prog_20_method_3_code (11 : Nat) (Option.some Jvm.ClassFile.FieldType.int), Jvm.Cond.code ({ cls := "io/tagwire/codec/DecimalPutPinLaw", name := "cell", desc := "([BIIIJ[J)Z" } : Jvm.MethodName) method_3_code (10 : Nat) (Option.some Jvm.ClassFile.FieldType.boolean)]
set_option maxRecDepth 65536 in
theorem codes_eq : words1.filter isCode = codes1 := rfl
theorem w_codes : ∀ c ∈ words1.filter isCode, c.before args0 about1 = true := by
  rw [codes_eq]
  intro c hc
  simp only [codes1, List.mem_cons, List.not_mem_nil, or_false] at hc
  rcases hc with rfl | rfl | rfl | rfl
  · exact w_c0
  · exact w_c1
  · exact w_c2
  · exact w_c3
set_option maxRecDepth 65536 in
theorem w_t1 : (words1.take 24).all (fun c => isCode c || c.before args0 about1) = true := by decide +kernel
set_option maxRecDepth 65536 in
theorem w_t2 : (words1.drop 24).all (fun c => isCode c || c.before args0 about1) = true := by decide +kernel
theorem w_tables : (allAtoms (Jvm.Cond.code x code maxLocals ret :: tables_1)).before args0 about1 = true := by
  rw [allAtoms_all]
  show words1.all (fun c => c.before args0 about1) = true
  refine all_split ?_ w_codes
  rw [← List.take_append_drop 24 words1, List.all_append, w_t1, w_t2]
  rfl
set_option maxRecDepth 65536 in
theorem w_case : (Jvm.Cond.and given_1 narrow_1).before args0 about1 = true := by decide +kernel
theorem w_applies : (headSpec (Jvm.Cond.code x code maxLocals ret :: tables_1) room_1).applies x e0.platform about1 = true :=
  (Spec.applies_iff w_frames).mpr ⟨w_running, w_runnable, w_alone, w_named, w_hears, w_ripe, w_room, w_tables⟩
theorem atStart : AtStart classFile x code maxLocals ret World_1 tables_1 room_1 Calls_1 rest_1 Pre_1 launch0 p0 e0 about1 theMethod args0 below0 :=
  ⟨lists_1, trivial, launch0.admits_env _ _ _, launch0.least_env, fairChoices_fair.cas, fairChoices_fair.clock, w_frames, w_args, w_heap, w_applies, trivial, trivial, w_case⟩
end start1
theorem witness_1 : WitnessClaimed_1 := ⟨start1.p0, start1.e0, start1.about1, start1.theMethod, start1.args0, start1.below0, start1.atStart⟩
end Jvm.Pilot.@@N@@
