import JvmDerived
import JvmDerived.Pilot.@@N@@Statement
import JvmDerived.Pilot.@@N@@Code
set_option linter.unusedVariables false
set_option linter.unusedSimpArgs false
namespace Jvm.OwnW
open Jvm Jvm.ClassFile Sem Op Lib Jvm.Free Jvm.Stand Jvm.LawKit Jvm.RoadKit Bundle
/-- the walk stands at pc, over the heap h; k cells and n slots have come; nothing that stood at the start is written -/
def At0 (p : Program) (l : Launch) (e : Env) (R : Room) (s : State) (m : MethodId) (args : Array Value) (below : List Frame) (meth : Method) (c : Code) (n0 : Nat) (S0 : State) (h : Heap) (k n pc : Nat) (Ls : Array Slot) (st : List Value) : Prop :=
  ∃ (T : State) (locs : List Loc), Stand p l e R s m args below meth c T locs k n ∧ T.heap = h ∧ Fr n0 locs ∧ ∀ t, Steps p.tables e below (T.setTop (mkF m pc Ls st)) t → Steps p.tables e below S0 t
/-- the walk has returned v, over the heap h -/
def End0 (p : Program) (e : Env) (R : Room) (s : State) (below : List Frame) (n0 : Nat) (S0 : State) (v : Option Value) (h : Heap) : Prop :=
  ∃ (s₂ : State) (L : List Loc), Steps p.tables e below S0 s₂ ∧ s₂.status = .running ∧ Ended s₂ below (.returned v) ∧ s₂.heap = h ∧ Fr n0 L ∧ FrameEnd s (.returned v) s₂ L R.cells R.slots
abbrev WT := Heap → Nat → Nat → Nat → Array Slot → List Value → Prop
abbrev VT := Option Value → Heap → Prop
/-- W and V are of one walk of the body of y -/
def Wk (l : Launch) (Z : State) (y : MethodName) (code : ByteArray) (mx : Nat) (ret : Option FieldType) (R : Room) (n0 : Nat) (W : WT) (V : VT) : Prop :=
  ∃ (p : Program) (e : Env) (s : State) (m : MethodId) (args : Array Value) (below : List Frame) (meth : Method) (c : Code) (S0 : State),
    p.tables.exec = Jvm.exec ∧ c.code = code ∧ c.maxLocals = mx ∧ s.vm.findClass y.cls = some m.cls ∧ Z.Warmed39 s.vm ∧ meth.name = y.name ∧ meth.sig.returnType = ret ∧ meth.locks = false ∧
    W = At0 p l e R s m args below meth c n0 S0 ∧ V = End0 p e R s below n0 S0
/-- a contract: called with 'as' over the heap h the method returns v and leaves h' with Q v h' -/
def Ct (l : Launch) (Z : State) (y : MethodName) (bytes : ByteArray) (mx : Nat) (ret : Option FieldType) (rm : Room) (n0 : Nat) (as : Array Value) (h : Heap) (Q : Option Value → Heap → Prop) : Prop :=
  ∀ ws : List Jvm.Cond, MetFree l y (head1 (Jvm.Cond.code y bytes mx ret :: ws) rm) (fun a U => a = as ∧ Z.Warmed39 U.vm ∧ U.heap = h) (fun _ _ _ _ _ => True) (fun _ U o U' => ∃ v L, o = .returned v ∧ (Q v U'.heap ∧ Fr n0 L) ∧ FrameEnd U o U' L rm.cells rm.slots)
theorem Ct.of {l : Launch} {Z : State} {y : MethodName} {bytes : ByteArray} {mx : Nat} {ret : Option FieldType} {rm : Room} {n0 : Nat} {as : Array Value} {h : Heap} {Q : Option Value → Heap → Prop} {Ls : Array Slot} (hpn : plainFor y = true) (hef : ∀ m, entryFrame m as mx = mkF m 0 Ls [])
    (body : ∀ W V, Wk l Z y bytes mx ret rm n0 W V → W h 0 0 0 Ls [] → ∃ v h', V v h' ∧ Q v h') : Ct l Z y bytes mx ret rm n0 as h Q := by
  intro ws
  refine MetFree.of_bodySF hpn hisR ?_
  intro p e s m args below meth c s₁ Bd hml0 hP hK
  obtain ⟨rfl, hZ, hh⟩ := hP
  have X0 : Stand p l e rm s m args below meth c s₁ [] 0 0 := Stand.of_body Bd
  have e0 : s₁.heap = h := by rw [← hh, Bd.state]; rfl
  obtain ⟨v, h', ⟨s₂, L, g1, g2, g3, g4, g5, g6⟩, hQ⟩ := body _ _ ⟨p, e, s, m, args, below, meth, c, s₁.setTop (entryFrame m args mx), Bd.exec, Bd.bytes, hml0, findClass_of_methodNamed Bd.named, hZ, (name_of_methodNamed Bd.named Bd.method).1, Bd.returns, Bd.notSynchronized, rfl, rfl⟩
    ⟨s₁, [], X0, e0, Fr.nil n0, fun t k => castTop (hef m) k⟩
  exact ⟨s₂, _, g1, g2, g3, v, L, rfl, ⟨by rw [g4]; exact hQ, g5⟩, g6⟩
theorem Ct.imp {l : Launch} {Z : State} {y : MethodName} {bytes : ByteArray} {mx : Nat} {ret : Option FieldType} {rm : Room} {n0 : Nat} {as : Array Value} {h : Heap} {Q Q' : Option Value → Heap → Prop} (hM : Ct l Z y bytes mx ret rm n0 as h Q) (hi : ∀ v h', Q v h' → Q' v h') : Ct l Z y bytes mx ret rm n0 as h Q' := by
  intro ws p e ha hc hk s m args below hf happ hP hK
  obtain ⟨n, o, h1, h2, h3, v, L, g1, ⟨g2, g3⟩, g4⟩ := hM ws p e ha hc hk s m args below hf happ hP hK
  exact ⟨n, o, h1, h2, h3, v, L, g1, ⟨hi _ _ g2, g3⟩, g4⟩
/-- the class that declares z is no interface, by a word of the sheet -/
def NF (Z : State) (a0 : Array Value) (z : MethodName) : Prop := (∃ C z2, (Jvm.Cond.selects C z2 z2).before a0 Z = true ∧ z2.cls = z.cls) ∨ (∃ S, (Jvm.Cond.superclass z.cls S).before a0 Z = true) ∨ (Jvm.Cond.noSuperclass z.cls).before a0 Z = true
theorem NF.at {Z s : State} {a0 : Array Value} {z : MethodName} (hZ : Z.Warmed39 s.vm) (f : NF Z a0 z) : NotFace s z := by
  rcases f with ⟨C, z2, w, e⟩ | ⟨S, w⟩ | w
  · intro r0 h0
    obtain ⟨c2, r2, m2, q1, q2, q3, q4, kP, hkP, hkPi⟩ := Cond.selects_spec (mvT (args := #[]) hZ w)
    have a := findClass_of_methodNamed h0
    have b := findClass_of_methodNamed q3
    rw [e] at b
    have d : r0.cls = m2.cls := Option.some.inj (a.symm.trans b)
    exact ⟨kP, by rw [d]; exact hkP, hkPi⟩
  · exact nf_super (args := #[]) (mvT hZ w)
  · exact nf_top (args := #[]) (mvT hZ w)
section Steps
variable {l : Launch} {Z : State} {y : MethodName} {code : ByteArray} {mx : Nat} {ret : Option FieldType} {R : Room} {n0 : Nat} {W : WT} {V : VT} {h : Heap} {k n pc pc' : Nat} {Ls Ls' : Array Slot} {st st' : List Value} {a0 : Array Value}
/-- a plain step, by the library's law for it -/
theorem Wk.step (H : Wk l Z y code mx ret R n0 W V) (r : W h k n pc Ls st)
    (f : ∀ {tb : Tables} [Ours tb] {e : Env} {below : List Frame} {T t : State} {m : MethodId} {c : Code}, At T m c below → tb.exec = Jvm.exec → c.code = code → Steps tb e below (T.setTop (mkF m pc' Ls' st')) t → Steps tb e below (T.setTop (mkF m pc Ls st)) t) : W h k n pc' Ls' st' := by
  obtain ⟨p, e, s, m, args, below, meth, c, S0, hx, hby, hml, hown, hZ, hnm, hret, hlk, rfl, rfl⟩ := H
  obtain ⟨T, locs, X, eh, N, sp⟩ := r
  exact ⟨T, locs, X, eh, N, fun t q => sp t (f X.here hx hby q)⟩
/-- the account of cells and slots may be widened -/
theorem Wk.more (H : Wk l Z y code mx ret R n0 W V) {k' n' : Nat} (hk : k ≤ k') (hn : n ≤ n') (r : W h k n pc Ls st) : W h k' n' pc Ls st := by
  obtain ⟨p, e, s, m, args, below, meth, c, S0, hx, hby, hml, hown, hZ, hnm, hret, hlk, rfl, rfl⟩ := H
  obtain ⟨T, locs, X, eh, N, sp⟩ := r
  exact ⟨T, locs, X.mono hk hn, eh, N, sp⟩
/-- a step that reads the tables or the heap -/
theorem Wk.stepX (H : Wk l Z y code mx ret R n0 W V) (r : W h k n pc Ls st)
    (f : ∀ {p : Program} {e : Env} {s : State} {m : MethodId} {args : Array Value} {below : List Frame} {meth : Method} {c : Code} {T : State} {locs : List Loc}, Stand p l e R s m args below meth c T locs k n → p.tables.exec = Jvm.exec → c.code = code → c.maxLocals = mx → s.vm.findClass y.cls = some m.cls → Z.Warmed39 s.vm → T.heap = h → ∃ T', Stand p l e R s m args below meth c T' locs k n ∧ T'.heap = h ∧ ∀ t, Steps p.tables e below (T'.setTop (mkF m pc' Ls' st')) t → Steps p.tables e below (T.setTop (mkF m pc Ls st)) t) : W h k n pc' Ls' st' := by
  obtain ⟨p, e, s, m, args, below, meth, c, S0, hx, hby, hml, hown, hZ, hnm, hret, hlk, rfl, rfl⟩ := H
  obtain ⟨T, locs, X, eh, N, sp⟩ := r
  obtain ⟨T', X', e', q⟩ := f X hx hby hml hown hZ eh
  exact ⟨T', locs, X', e', N, fun t u => sp t (q t u)⟩
theorem Wk.aloadN (H : Wk l Z y code mx ret R n0 W V) {i : Fin 4} {v : Value} (hd : decode code pc = .ok (.aload_n i, 1)) (r : W h k n pc Ls (st)) (hl : Ls[i.val]? = some (.val v)) (hv : v.isRef = true) : W h k n (pc + 1) Ls (v :: st) :=
  H.step r fun A hx hby q => XS.aloadN A hx rfl (hb hby hd) hl hv q
theorem Wk.aload (H : Wk l Z y code mx ret R n0 W V) {i : Nat} {v : Value} (hd : decode code pc = .ok (.aload i, 2)) (r : W h k n pc Ls (st)) (hl : Ls[i]? = some (.val v)) (hv : v.isRef = true) : W h k n (pc + 2) Ls (v :: st) :=
  H.step r fun A hx hby q => XS.aload A hx rfl (hb hby hd) hl hv q
theorem Wk.iloadN (H : Wk l Z y code mx ret R n0 W V) {i : Fin 4} {v : Int32} (hd : decode code pc = .ok (.iload_n i, 1)) (r : W h k n pc Ls (st)) (hl : Ls[i.val]? = some (.val (.int v))) : W h k n (pc + 1) Ls (.int v :: st) :=
  H.step r fun A hx hby q => XS.iloadN A hx rfl (hb hby hd) hl q
theorem Wk.iload (H : Wk l Z y code mx ret R n0 W V) {i : Nat} {v : Int32} (hd : decode code pc = .ok (.iload i, 2)) (r : W h k n pc Ls (st)) (hl : Ls[i]? = some (.val (.int v))) : W h k n (pc + 2) Ls (.int v :: st) :=
  H.step r fun A hx hby q => XS.iload A hx rfl (hb hby hd) hl q
theorem Wk.lloadN (H : Wk l Z y code mx ret R n0 W V) {i : Fin 4} {v : Int64} (hd : decode code pc = .ok (.lload_n i, 1)) (r : W h k n pc Ls (st)) (hl : Ls[i.val]? = some (.val (.long v))) : W h k n (pc + 1) Ls (.long v :: st) :=
  H.step r fun A hx hby q => XS.lloadN A hx rfl (hb hby hd) hl q
theorem Wk.lload (H : Wk l Z y code mx ret R n0 W V) {i : Nat} {v : Int64} (hd : decode code pc = .ok (.lload i, 2)) (r : W h k n pc Ls (st)) (hl : Ls[i]? = some (.val (.long v))) : W h k n (pc + 2) Ls (.long v :: st) :=
  H.step r fun A hx hby q => XS.lload A hx rfl (hb hby hd) hl q
theorem Wk.floadN (H : Wk l Z y code mx ret R n0 W V) {i : Fin 4} {v : UInt32} (hd : decode code pc = .ok (.fload_n i, 1)) (r : W h k n pc Ls (st)) (hl : Ls[i.val]? = some (.val (.float v))) : W h k n (pc + 1) Ls (.float v :: st) :=
  H.step r fun A hx hby q => XS.floadN A hx rfl (hb hby hd) hl q
theorem Wk.iconst (H : Wk l Z y code mx ret R n0 W V) {i : Int} {z : Int32} (hd : decode code pc = .ok (.iconst i, 1)) (r : W h k n pc Ls st) (hz : Int32.ofInt i = z) : W h k n (pc + 1) Ls (.int z :: st) := by
  subst hz
  exact H.step r fun A hx hby q => XS.iconst A hx rfl (hb hby hd) q
theorem Wk.bipush (H : Wk l Z y code mx ret R n0 W V) {i : Int} {z : Int32} (hd : decode code pc = .ok (.bipush i, 2)) (r : W h k n pc Ls st) (hz : (Int8.ofInt i).toInt32 = z) : W h k n (pc + 2) Ls (.int z :: st) := by
  subst hz
  exact H.step r fun A hx hby q => XS.bipush A hx rfl (hb hby hd) q
theorem Wk.sipush (H : Wk l Z y code mx ret R n0 W V) {i : Int} {z : Int32} (hd : decode code pc = .ok (.sipush i, 3)) (r : W h k n pc Ls st) (hz : (Int16.ofInt i).toInt32 = z) : W h k n (pc + 3) Ls (.int z :: st) := by
  subst hz
  exact H.step r fun A hx hby q => XS.sipush A hx rfl (hb hby hd) q
theorem Wk.lconst (H : Wk l Z y code mx ret R n0 W V) {i : Fin 2} {z : Int64} (hd : decode code pc = .ok (.lconst i, 1)) (r : W h k n pc Ls st) (hz : Int64.ofNat i = z) : W h k n (pc + 1) Ls (.long z :: st) := by
  subst hz
  exact H.step r fun A hx hby q => XS.lconst A hx rfl (hb hby hd) q
theorem Wk.fconst0 (H : Wk l Z y code mx ret R n0 W V) {v : UInt32} (hd : decode code pc = .ok (.fconst 0, 1)) (r : W h k n pc Ls st) (hv : FP.fconst0 = v) : W h k n (pc + 1) Ls (.float v :: st) :=
  H.step r fun A hx hby q => XS.fconst0 A hx rfl (hb hby hd) hv q
theorem Wk.fcmp (H : Wk l Z y code mx ret R n0 W V) {o : CmpOp} {x z : UInt32} {v : Int32} (hd : decode code pc = .ok (.fcmp o, 1)) (r : W h k n pc Ls (.float z :: .float x :: st)) (hv : cmpValue (FP.fcmp x z) o = v) : W h k n (pc + 1) Ls (.int v :: st) :=
  H.step r fun A hx hby q => XS.fcmpS A hx rfl (hb hby hd) rfl hv q
theorem Wk.aconstNull (H : Wk l Z y code mx ret R n0 W V) (hd : decode code pc = .ok (.aconst_null, 1)) (r : W h k n pc Ls (st)) : W h k n (pc + 1) Ls (.null :: st) :=
  H.step r fun A hx hby q => XS.aconstNull A hx rfl (hb hby hd)  q
theorem Wk.iadd (H : Wk l Z y code mx ret R n0 W V) {a b : Int32} (hd : decode code pc = .ok (.iadd, 1)) (r : W h k n pc Ls (.int b :: .int a :: st)) : W h k n (pc + 1) Ls (.int (a + b) :: st) :=
  H.step r fun A hx hby q => XS.iadd A hx rfl (hb hby hd) rfl q
theorem Wk.isub (H : Wk l Z y code mx ret R n0 W V) {a b : Int32} (hd : decode code pc = .ok (.isub, 1)) (r : W h k n pc Ls (.int b :: .int a :: st)) : W h k n (pc + 1) Ls (.int (a - b) :: st) :=
  H.step r fun A hx hby q => XS.isub A hx rfl (hb hby hd) rfl q
theorem Wk.iand (H : Wk l Z y code mx ret R n0 W V) {a b : Int32} (hd : decode code pc = .ok (.iand, 1)) (r : W h k n pc Ls (.int b :: .int a :: st)) : W h k n (pc + 1) Ls (.int (a &&& b) :: st) :=
  H.step r fun A hx hby q => XS.iand A hx rfl (hb hby hd) rfl q
theorem Wk.imul (H : Wk l Z y code mx ret R n0 W V) {a b : Int32} (hd : decode code pc = .ok (.imul, 1)) (r : W h k n pc Ls (.int b :: .int a :: st)) : W h k n (pc + 1) Ls (.int (a * b) :: st) :=
  H.step r fun A hx hby q => XS.imul A hx rfl (hb hby hd) rfl q
theorem Wk.ior (H : Wk l Z y code mx ret R n0 W V) {a b : Int32} (hd : decode code pc = .ok (.ior, 1)) (r : W h k n pc Ls (.int b :: .int a :: st)) : W h k n (pc + 1) Ls (.int (a ||| b) :: st) :=
  H.step r fun A hx hby q => XS.ior A hx rfl (hb hby hd) rfl q
theorem Wk.ixor (H : Wk l Z y code mx ret R n0 W V) {a b : Int32} (hd : decode code pc = .ok (.ixor, 1)) (r : W h k n pc Ls (.int b :: .int a :: st)) : W h k n (pc + 1) Ls (.int (a ^^^ b) :: st) :=
  H.step r fun A hx hby q => XS.ixor A hx rfl (hb hby hd) rfl q
theorem Wk.ishl (H : Wk l Z y code mx ret R n0 W V) {a b : Int32} (hd : decode code pc = .ok (.ishl, 1)) (r : W h k n pc Ls (.int b :: .int a :: st)) : W h k n (pc + 1) Ls (.int (a <<< (b &&& 31)) :: st) :=
  H.step r fun A hx hby q => XS.ishl A hx rfl (hb hby hd) rfl q
theorem Wk.ishr (H : Wk l Z y code mx ret R n0 W V) {a b : Int32} (hd : decode code pc = .ok (.ishr, 1)) (r : W h k n pc Ls (.int b :: .int a :: st)) : W h k n (pc + 1) Ls (.int (a >>> (b &&& 31)) :: st) :=
  H.step r fun A hx hby q => XS.ishr A hx rfl (hb hby hd) rfl q
theorem Wk.iushr (H : Wk l Z y code mx ret R n0 W V) {a b : Int32} (hd : decode code pc = .ok (.iushr, 1)) (r : W h k n pc Ls (.int b :: .int a :: st)) : W h k n (pc + 1) Ls (.int ((a.toUInt32 >>> (b &&& 31).toUInt32).toInt32) :: st) :=
  H.step r fun A hx hby q => XS.iushr A hx rfl (hb hby hd) rfl q
theorem Wk.ladd (H : Wk l Z y code mx ret R n0 W V) {a b : Int64} (hd : decode code pc = .ok (.ladd, 1)) (r : W h k n pc Ls (.long b :: .long a :: st)) : W h k n (pc + 1) Ls (.long (a + b) :: st) :=
  H.step r fun A hx hby q => XS.ladd A hx rfl (hb hby hd) rfl q
theorem Wk.lsub (H : Wk l Z y code mx ret R n0 W V) {a b : Int64} (hd : decode code pc = .ok (.lsub, 1)) (r : W h k n pc Ls (.long b :: .long a :: st)) : W h k n (pc + 1) Ls (.long (a - b) :: st) :=
  H.step r fun A hx hby q => XS.lsub A hx rfl (hb hby hd) rfl q
theorem Wk.lmul (H : Wk l Z y code mx ret R n0 W V) {a b : Int64} (hd : decode code pc = .ok (.lmul, 1)) (r : W h k n pc Ls (.long b :: .long a :: st)) : W h k n (pc + 1) Ls (.long (a * b) :: st) :=
  H.step r fun A hx hby q => XS.lmul A hx rfl (hb hby hd) rfl q
theorem Wk.land (H : Wk l Z y code mx ret R n0 W V) {a b : Int64} (hd : decode code pc = .ok (.land, 1)) (r : W h k n pc Ls (.long b :: .long a :: st)) : W h k n (pc + 1) Ls (.long (a &&& b) :: st) :=
  H.step r fun A hx hby q => XS.land A hx rfl (hb hby hd) rfl q
theorem Wk.lor (H : Wk l Z y code mx ret R n0 W V) {a b : Int64} (hd : decode code pc = .ok (.lor, 1)) (r : W h k n pc Ls (.long b :: .long a :: st)) : W h k n (pc + 1) Ls (.long (a ||| b) :: st) :=
  H.step r fun A hx hby q => XS.lor A hx rfl (hb hby hd) rfl q
theorem Wk.lxor (H : Wk l Z y code mx ret R n0 W V) {a b : Int64} (hd : decode code pc = .ok (.lxor, 1)) (r : W h k n pc Ls (.long b :: .long a :: st)) : W h k n (pc + 1) Ls (.long (a ^^^ b) :: st) :=
  H.step r fun A hx hby q => XS.lxor A hx rfl (hb hby hd) rfl q
theorem Wk.lshl (H : Wk l Z y code mx ret R n0 W V) {a : Int64} {b : Int32} (hd : decode code pc = .ok (.lshl, 1)) (r : W h k n pc Ls (.int b :: .long a :: st)) : W h k n (pc + 1) Ls (.long (a <<< (b &&& 0x3f).toInt64) :: st) :=
  H.step r fun A hx hby q => XS.lshl A hx rfl (hb hby hd) rfl q
theorem Wk.lshr (H : Wk l Z y code mx ret R n0 W V) {a : Int64} {b : Int32} (hd : decode code pc = .ok (.lshr, 1)) (r : W h k n pc Ls (.int b :: .long a :: st)) : W h k n (pc + 1) Ls (.long (a >>> (b &&& 0x3f).toInt64) :: st) :=
  H.step r fun A hx hby q => XS.lshr A hx rfl (hb hby hd) rfl q
theorem Wk.lushr (H : Wk l Z y code mx ret R n0 W V) {a : Int64} {b : Int32} (hd : decode code pc = .ok (.lushr, 1)) (r : W h k n pc Ls (.int b :: .long a :: st)) : W h k n (pc + 1) Ls (.long ((a.toUInt64 >>> (b &&& 0x3f).toInt64.toUInt64).toInt64) :: st) :=
  H.step r fun A hx hby q => XS.lushr A hx rfl (hb hby hd) rfl q
theorem Wk.ldiv (H : Wk l Z y code mx ret R n0 W V) {a b : Int64} (hd : decode code pc = .ok (.ldiv, 1)) (r : W h k n pc Ls (.long b :: .long a :: st)) (hy : b ≠ 0) : W h k n (pc + 1) Ls (.long (a / b) :: st) :=
  H.step r fun A hx hby q => XS.ldiv A hx rfl (hb hby hd) rfl hy q
theorem Wk.idiv (H : Wk l Z y code mx ret R n0 W V) {a b : Int32} (hd : decode code pc = .ok (.idiv, 1)) (r : W h k n pc Ls (.int b :: .int a :: st)) (hy : b ≠ 0) : W h k n (pc + 1) Ls (.int (a / b) :: st) :=
  H.step r fun A hx hby q => XS.idiv A hx rfl (hb hby hd) rfl hy q
theorem Wk.lrem (H : Wk l Z y code mx ret R n0 W V) {a b : Int64} (hd : decode code pc = .ok (.lrem, 1)) (r : W h k n pc Ls (.long b :: .long a :: st)) (hy : b ≠ 0) : W h k n (pc + 1) Ls (.long (a % b) :: st) := by
  rw [← lrem_mod a b]
  exact H.step r fun A hx hby q => XS.lrem A hx rfl (hb hby hd) rfl hy q
theorem Wk.irem (H : Wk l Z y code mx ret R n0 W V) {a b : Int32} (hd : decode code pc = .ok (.irem, 1)) (r : W h k n pc Ls (.int b :: .int a :: st)) (hy : b ≠ 0) : W h k n (pc + 1) Ls (.int (a % b) :: st) :=
  H.stepX r fun X hx hby hml hown hZ eT => ⟨_, X, eT, fun t q => iremM X hx rfl (hb hby hd) rfl hy q⟩
theorem Wk.i2b (H : Wk l Z y code mx ret R n0 W V) {a : Int32} (hd : decode code pc = .ok (.i2b, 1)) (r : W h k n pc Ls (.int a :: st)) : W h k n (pc + 1) Ls (.int (a.toInt8.toInt32) :: st) :=
  H.step r fun A hx hby q => XS.i2b A hx rfl (hb hby hd) rfl q
theorem Wk.i2c (H : Wk l Z y code mx ret R n0 W V) {a : Int32} (hd : decode code pc = .ok (.i2c, 1)) (r : W h k n pc Ls (.int a :: st)) : W h k n (pc + 1) Ls (.int (a.toUInt32.toUInt16.toUInt32.toInt32) :: st) :=
  H.step r fun A hx hby q => XS.i2c A hx rfl (hb hby hd) rfl q
theorem Wk.i2s (H : Wk l Z y code mx ret R n0 W V) {a : Int32} (hd : decode code pc = .ok (.i2s, 1)) (r : W h k n pc Ls (.int a :: st)) : W h k n (pc + 1) Ls (.int (a.toInt16.toInt32) :: st) :=
  H.step r fun A hx hby q => XS.i2s A hx rfl (hb hby hd) rfl q
theorem Wk.i2l (H : Wk l Z y code mx ret R n0 W V) {a : Int32} (hd : decode code pc = .ok (.i2l, 1)) (r : W h k n pc Ls (.int a :: st)) : W h k n (pc + 1) Ls (.long (a.toInt64) :: st) :=
  H.step r fun A hx hby q => XS.i2l A hx rfl (hb hby hd) rfl q
theorem Wk.l2i (H : Wk l Z y code mx ret R n0 W V) {a : Int64} (hd : decode code pc = .ok (.l2i, 1)) (r : W h k n pc Ls (.long a :: st)) : W h k n (pc + 1) Ls (.int (a.toInt32) :: st) :=
  H.step r fun A hx hby q => XS.l2i A hx rfl (hb hby hd) rfl q
theorem Wk.ineg (H : Wk l Z y code mx ret R n0 W V) {a : Int32} (hd : decode code pc = .ok (.ineg, 1)) (r : W h k n pc Ls (.int a :: st)) : W h k n (pc + 1) Ls (.int (-a) :: st) :=
  H.step r fun A hx hby q => XS.ineg A hx rfl (hb hby hd) rfl q
theorem Wk.lcmp (H : Wk l Z y code mx ret R n0 W V) {a b : Int64} (hd : decode code pc = .ok (.lcmp, 1)) (r : W h k n pc Ls (.long b :: .long a :: st)) : W h k n (pc + 1) Ls (.int (lcmpW a b) :: st) :=
  H.step r fun A hx hby q => XS.lcmp A hx rfl (hb hby hd) rfl q
theorem Wk.dup (H : Wk l Z y code mx ret R n0 W V) {v : Value} (hd : decode code pc = .ok (.dup, 1)) (r : W h k n pc Ls (v :: st)) (hc : v.category = 1) : W h k n (pc + 1) Ls (v :: v :: st) :=
  H.step r fun A hx hby q => XS.dup A hx rfl (hb hby hd) rfl hc q
theorem Wk.pop (H : Wk l Z y code mx ret R n0 W V) {v : Value} (hd : decode code pc = .ok (.pop, 1)) (r : W h k n pc Ls (v :: st)) (hc : v.category = 1) : W h k n (pc + 1) Ls (st) :=
  H.step r fun A hx hby q => XS.pop A hx rfl (hb hby hd) rfl hc q
theorem Wk.dupX1 (H : Wk l Z y code mx ret R n0 W V) {v w : Value} (hd : decode code pc = .ok (.dup_x1, 1)) (r : W h k n pc Ls (v :: w :: st)) (hc : v.category = 1) (hc2 : w.category = 1) : W h k n (pc + 1) Ls (v :: w :: v :: st) :=
  H.step r fun A hx hby q => XS.dupX1 A hx rfl (hb hby hd) rfl hc hc2 q
theorem Wk.istoreN (H : Wk l Z y code mx ret R n0 W V) {i : Fin 4} {v : Int32} (hd : decode code pc = .ok (.istore_n i, 1)) (r : W h k n pc Ls (.int v :: st)) (hl : storeLocals Ls i.val (.int v) = some Ls') : W h k n (pc + 1) Ls' (st) :=
  H.step r fun A hx hby q => XS.istoreN A hx rfl (hb hby hd) rfl hl q
theorem Wk.istore (H : Wk l Z y code mx ret R n0 W V) {i : Nat} {v : Int32} (hd : decode code pc = .ok (.istore i, 2)) (r : W h k n pc Ls (.int v :: st)) (hl : storeLocals Ls i (.int v) = some Ls') : W h k n (pc + 2) Ls' (st) :=
  H.step r fun A hx hby q => XS.istore A hx rfl (hb hby hd) rfl hl q
theorem Wk.lstoreN (H : Wk l Z y code mx ret R n0 W V) {i : Fin 4} {v : Int64} (hd : decode code pc = .ok (.lstore_n i, 1)) (r : W h k n pc Ls (.long v :: st)) (hl : storeLocals Ls i.val (.long v) = some Ls') : W h k n (pc + 1) Ls' (st) :=
  H.step r fun A hx hby q => XS.lstoreN A hx rfl (hb hby hd) rfl hl q
theorem Wk.lstore (H : Wk l Z y code mx ret R n0 W V) {i : Nat} {v : Int64} (hd : decode code pc = .ok (.lstore i, 2)) (r : W h k n pc Ls (.long v :: st)) (hl : storeLocals Ls i (.long v) = some Ls') : W h k n (pc + 2) Ls' (st) :=
  H.step r fun A hx hby q => XS.lstore A hx rfl (hb hby hd) rfl hl q
theorem Wk.astoreN (H : Wk l Z y code mx ret R n0 W V) {i : Fin 4} {v : Value} (hd : decode code pc = .ok (.astore_n i, 1)) (r : W h k n pc Ls (v :: st)) (hv : v.isRef = true) (hl : storeLocals Ls i.val v = some Ls') : W h k n (pc + 1) Ls' (st) :=
  H.step r fun A hx hby q => XS.astoreN A hx rfl (hb hby hd) rfl hv hl q
theorem Wk.astore (H : Wk l Z y code mx ret R n0 W V) {i : Nat} {v : Value} (hd : decode code pc = .ok (.astore i, 2)) (r : W h k n pc Ls (v :: st)) (hv : v.isRef = true) (hl : storeLocals Ls i v = some Ls') : W h k n (pc + 2) Ls' (st) :=
  H.step r fun A hx hby q => XS.astore A hx rfl (hb hby hd) rfl hv hl q
theorem Wk.istoreNS (H : Wk l Z y code mx ret R n0 W V) {i : Fin 4} {v : Int32} {o : Slot} (hd : decode code pc = .ok (.istore_n i, 1)) (r : W h k n pc Ls (.int v :: st)) (hold : Ls[i.val]? = some o) (ho : One o) : W h k n (pc + 1) (Ls.setIfInBounds i.val (.val (.int v))) st :=
  H.step r fun A hx hby q => XS.istoreNS A hx rfl (hb hby hd) rfl hold ho q
theorem Wk.istoreS (H : Wk l Z y code mx ret R n0 W V) {i : Nat} {v : Int32} {o : Slot} (hd : decode code pc = .ok (.istore i, 2)) (r : W h k n pc Ls (.int v :: st)) (hold : Ls[i]? = some o) (ho : One o) : W h k n (pc + 2) (Ls.setIfInBounds i (.val (.int v))) st :=
  H.step r fun A hx hby q => XS.istoreS A hx rfl (hb hby hd) rfl hold ho q
theorem Wk.iinc (H : Wk l Z y code mx ret R n0 W V) {i : Nat} {cst : Int} {v z : Int32} (hd : decode code pc = .ok (.iinc i cst, 3)) (r : W h k n pc Ls (st)) (hz : v + Int32.ofInt cst = z) (hl : Ls[i]? = some (.val (.int v))) (hl' : storeLocals Ls i (.int z) = some Ls') : W h k n (pc + 3) Ls' (st) :=
  H.step r fun A hx hby q => XS.iinc A hx rfl (hb hby hd) hl (hz ▸ hl') q
theorem Wk.goto (H : Wk l Z y code mx ret R n0 W V) {o : Int} (hd : decode code pc = .ok (.goto o, 3)) (r : W h k n pc Ls st) (ho : 0 ≤ (pc : Int) + o) (hp : ((pc : Int) + o).toNat = pc') : W h k n pc' Ls st :=
  H.step r fun A hx hby q => XS.goto A hx rfl rfl (hb hby hd) ho hp q
theorem Wk.ifYes (H : Wk l Z y code mx ret R n0 W V) {cd : ClassFile.Cond} {a : Int32} {o : Int} (hd : decode code pc = .ok (.ifCond cd o, 3)) (r : W h k n pc Ls (.int a :: st)) (ho : 0 ≤ (pc : Int) + o) (hp : ((pc : Int) + o).toNat = pc') (hc : if_icmp.holds cd a 0 = true) : W h k n pc' Ls st :=
  H.step r fun A hx hby q => XS.ifYes A hx rfl rfl (hb hby hd) rfl ((if0 cd a).trans hc) ho hp q
theorem Wk.ifNo (H : Wk l Z y code mx ret R n0 W V) {cd : ClassFile.Cond} {a : Int32} {o : Int} (hd : decode code pc = .ok (.ifCond cd o, 3)) (r : W h k n pc Ls (.int a :: st)) (hc : if_icmp.holds cd a 0 = false) : W h k n (pc + 3) Ls st :=
  H.step r fun A hx hby q => XS.ifNo A hx rfl (hb hby hd) rfl ((if0 cd a).trans hc) q
theorem Wk.icmpYes (H : Wk l Z y code mx ret R n0 W V) {cd : ClassFile.Cond} {a b : Int32} {o : Int} (hd : decode code pc = .ok (.if_icmp cd o, 3)) (r : W h k n pc Ls (.int b :: .int a :: st)) (ho : 0 ≤ (pc : Int) + o) (hp : ((pc : Int) + o).toNat = pc') (hc : if_icmp.holds cd a b = true) : W h k n pc' Ls st :=
  H.step r fun A hx hby q => XS.icmpYes A hx rfl rfl (hb hby hd) rfl hc ho hp q
theorem Wk.icmpNo (H : Wk l Z y code mx ret R n0 W V) {cd : ClassFile.Cond} {a b : Int32} {o : Int} (hd : decode code pc = .ok (.if_icmp cd o, 3)) (r : W h k n pc Ls (.int b :: .int a :: st)) (hc : if_icmp.holds cd a b = false) : W h k n (pc + 3) Ls st :=
  H.step r fun A hx hby q => XS.icmpNo A hx rfl (hb hby hd) rfl hc q
theorem Wk.ifnullYes (H : Wk l Z y code mx ret R n0 W V) {o : Int} (hd : decode code pc = .ok (.ifnull o, 3)) (r : W h k n pc Ls (.null :: st)) (ho : 0 ≤ (pc : Int) + o) (hp : ((pc : Int) + o).toNat = pc') : W h k n pc' Ls st :=
  H.step r fun A hx hby q => XS.ifnullYes A hx rfl rfl (hb hby hd) rfl ho hp q
theorem Wk.ifnullNo (H : Wk l Z y code mx ret R n0 W V) {a : Addr} {o : Int} (hd : decode code pc = .ok (.ifnull o, 3)) (r : W h k n pc Ls (.ref a :: st)) : W h k n (pc + 3) Ls st :=
  H.step r fun A hx hby q => XS.ifnullNo A hx rfl (hb hby hd) rfl q
theorem Wk.ifnonnullYes (H : Wk l Z y code mx ret R n0 W V) {a : Addr} {o : Int} (hd : decode code pc = .ok (.ifnonnull o, 3)) (r : W h k n pc Ls (.ref a :: st)) (ho : 0 ≤ (pc : Int) + o) (hp : ((pc : Int) + o).toNat = pc') : W h k n pc' Ls st :=
  H.step r fun A hx hby q => XS.ifnonnullYes A hx rfl rfl (hb hby hd) rfl ho hp q
theorem Wk.ifnonnullNo (H : Wk l Z y code mx ret R n0 W V) {o : Int} (hd : decode code pc = .ok (.ifnonnull o, 3)) (r : W h k n pc Ls (.null :: st)) : W h k n (pc + 3) Ls st :=
  H.step r fun A hx hby q => XS.ifnonnullNo A hx rfl (hb hby hd) rfl q
theorem Wk.acmpYes (H : Wk l Z y code mx ret R n0 W V) {cd : ClassFile.ACond} {a b : Value} {o : Int} (hd : decode code pc = .ok (.if_acmp cd o, 3)) (r : W h k n pc Ls (b :: a :: st)) (ho : 0 ≤ (pc : Int) + o) (hp : ((pc : Int) + o).toNat = pc') (ha : a.isRef = true) (hb' : b.isRef = true) (hc : XT.acmp cd a b = true) : W h k n pc' Ls st :=
  H.step r fun A hx hby q => XT.acmpYes A hx rfl rfl (hb hby hd) rfl ha hb' hc ho hp q
theorem Wk.acmpNo (H : Wk l Z y code mx ret R n0 W V) {cd : ClassFile.ACond} {a b : Value} {o : Int} (hd : decode code pc = .ok (.if_acmp cd o, 3)) (r : W h k n pc Ls (b :: a :: st)) (ha : a.isRef = true) (hb' : b.isRef = true) (hc : XT.acmp cd a b = false) : W h k n (pc + 3) Ls st :=
  H.step r fun A hx hby q => XT.acmpNo A hx rfl (hb hby hd) rfl ha hb' hc q
theorem Wk.lookHit (H : Wk l Z y code mx ret R n0 W V) {z : Int32} {dflt : Int} {pairs : Array (Int × Int)} {len : Nat} {a off : Int} (hsorted : (pairs.toList.zip (pairs.toList.drop 1)).all (fun (a, next) => a.1 < next.1) = true) (hfind : pairs.find? (·.1 == z.toInt) = some (a, off)) (ho : 0 ≤ (pc : Int) + off) (hp : ((pc : Int) + off).toNat = pc') (hd : decode code pc = .ok (.lookupswitch dflt pairs, len)) (r : W h k n pc Ls (.int z :: st)) : W h k n pc' Ls st := by
  subst hp
  exact H.stepX r fun X hx hby hml hown hZ eT => ⟨_, X, eT, fun t q => X.lookupswitchHit hx (g := mkF _ pc Ls (.int z :: st)) rfl rfl (hb hby hd) hsorted hfind ho t q⟩
theorem Wk.lookMiss (H : Wk l Z y code mx ret R n0 W V) {z : Int32} {dflt : Int} {pairs : Array (Int × Int)} {len : Nat} (hsorted : (pairs.toList.zip (pairs.toList.drop 1)).all (fun (a, next) => a.1 < next.1) = true) (hfind : pairs.find? (·.1 == z.toInt) = none) (ho : 0 ≤ (pc : Int) + dflt) (hp : ((pc : Int) + dflt).toNat = pc') (hd : decode code pc = .ok (.lookupswitch dflt pairs, len)) (r : W h k n pc Ls (.int z :: st)) : W h k n pc' Ls st := by
  subst hp
  exact H.stepX r fun X hx hby hml hown hZ eT => ⟨_, X, eT, fun t q => X.lookupswitchMiss hx (g := mkF _ pc Ls (.int z :: st)) rfl rfl (hb hby hd) hsorted hfind ho t q⟩
theorem Wk.getS (H : Wk l Z y code mx ret R n0 W V) {i : Nat} {O nm d : String} {v : Value} (w : (Jvm.Cond.fieldLink y.cls i O nm d).before a0 Z = true) (F : Sta Z h O nm d v) (hd : decode code pc = .ok (.getstatic i, 3)) (r : W h k n pc Ls st) : W h k n (pc + 3) Ls (v :: st) :=
  H.stepX r fun X hx hby hml hown hZ eT => RoadKit.getS X hx hZ (host := "") hown w Via.refl eT F (g := mkF _ pc Ls st) rfl (hb hby hd)
theorem Wk.instY (H : Wk l Z y code mx ret R n0 W V) {i : Nat} {K : String} {a : Addr} (w : (Jvm.Cond.classLink y.cls i K).before a0 Z = true) (F : Ins Z h a K true) (hd : decode code pc = .ok (.instanceof i, 3)) (r : W h k n pc Ls (.ref a :: st)) : W h k n (pc + 3) Ls (.int 1 :: st) :=
  H.stepX r fun X hx hby hml hown hZ eT => RoadKit.instY X hx hZ hown w eT F (g := mkF _ pc Ls (.ref a :: st)) rfl rfl (hb hby hd)
theorem Wk.instNo (H : Wk l Z y code mx ret R n0 W V) {i : Nat} {K C : String} {a : Addr} (w : (Jvm.Cond.classLink y.cls i K).before a0 Z = true) (E : Exa Z h a C) (F : ∃ c t, Z.vm.findClass C = some c ∧ Z.vm.findClass K = some t ∧ Z.vm.assignable c t = false) (hd : decode code pc = .ok (.instanceof i, 3)) (r : W h k n pc Ls (.ref a :: st)) : W h k n (pc + 3) Ls (.int 0 :: st) :=
  H.stepX r fun X hx hby hml hown hZ eT => RoadKit.instNo X hx hZ hown w eT E F (g := mkF _ pc Ls (.ref a :: st)) rfl rfl (hb hby hd)
theorem Wk.instNull (H : Wk l Z y code mx ret R n0 W V) {i : Nat} (hd : decode code pc = .ok (.instanceof i, 3)) (r : W h k n pc Ls (.null :: st)) : W h k n (pc + 3) Ls (.int 0 :: st) :=
  H.stepX r fun X hx hby hml hown hZ eT => ⟨_, X, eT, X.instanceofNull hx (g := mkF _ pc Ls (.null :: st)) rfl rfl (hb hby hd)⟩
theorem Wk.castY (H : Wk l Z y code mx ret R n0 W V) {i : Nat} {K : String} {a : Addr} (w : (Jvm.Cond.classLink y.cls i K).before a0 Z = true) (F : Ins Z h a K true) (hd : decode code pc = .ok (.checkcast i, 3)) (r : W h k n pc Ls (.ref a :: st)) : W h k n (pc + 3) Ls (.ref a :: st) :=
  H.stepX r fun X hx hby hml hown hZ eT => RoadKit.castY X hx hZ hown w eT F (g := mkF _ pc Ls (.ref a :: st)) rfl rfl (hb hby hd)
theorem Wk.castNull (H : Wk l Z y code mx ret R n0 W V) {i : Nat} (hd : decode code pc = .ok (.checkcast i, 3)) (r : W h k n pc Ls (.null :: st)) : W h k n (pc + 3) Ls (.null :: st) :=
  H.stepX r fun X hx hby hml hown hZ eT => ⟨_, X, eT, X.checkcastNull hx (g := mkF _ pc Ls (.null :: st)) rfl rfl (hb hby hd)⟩
theorem Wk.ldcInt (H : Wk l Z y code mx ret R n0 W V) {i : Nat} {v : Int32} (hd : decode code pc = .ok (.ldc i, 2)) (r : W h k n pc Ls st) (w : (Jvm.Cond.constant y.cls i v).before a0 Z = true) : W h k n (pc + 2) Ls (.int v :: st) :=
  H.stepX r fun X hx hby hml hown hZ eT => ⟨_, X, eT, X.ldcInt hx hown (mvT hZ w) (g := mkF _ pc Ls st) rfl (hb hby hd)⟩
theorem Wk.ldcWInt (H : Wk l Z y code mx ret R n0 W V) {i : Nat} {v : Int32} (hd : decode code pc = .ok (.ldc_w i, 3)) (r : W h k n pc Ls st) (w : (Jvm.Cond.constant y.cls i v).before a0 Z = true) : W h k n (pc + 3) Ls (.int v :: st) :=
  H.stepX r fun {p e s m args below meth c T locs} X hx hby hml hown hZ eT => ⟨T, X, eT, fun t q => by
    obtain ⟨kc, cf, bytes, hk, hcf, hcp, hb'⟩ := Cond.constant_spec hown (mvT (args := args) hZ w)
    obtain ⟨k', hk', he⟩ := X.warmed.alike.2.2 _ _ hk
    have hdg := hb hby hd
    show Steps p.tables e below (T.setTop (mkF m pc Ls st)) t
    jvm_step X.here [hx, hdg, ldc_w.wp_int (s := T) (f := mkF m pc Ls st) X.here.top hk' (by rw [he]; exact hcf) hcp, hb']
    exact q⟩
theorem Wk.ldcFloat (H : Wk l Z y code mx ret R n0 W V) {i : Nat} {v : UInt32} (w : (Jvm.Cond.constantFloat y.cls i v).before a0 Z = true) (hd : decode code pc = .ok (.ldc i, 2)) (r : W h k n pc Ls st) : W h k n (pc + 2) Ls (.float v :: st) :=
  H.stepX r fun X hx hby hml hown hZ eT => ⟨_, X, eT, X.ldcFloatC hx hown (mvT hZ w) (g := mkF _ pc Ls st) rfl (hb hby hd)⟩
theorem Wk.ldcLong (H : Wk l Z y code mx ret R n0 W V) {i : Nat} {v : Int64} (hd : decode code pc = .ok (.ldc2_w i, 3)) (r : W h k n pc Ls st) (w : (Jvm.Cond.constantLong y.cls i v).before a0 Z = true) : W h k n (pc + 3) Ls (.long v :: st) :=
  H.stepX r fun X hx hby hml hown hZ eT => ⟨_, X, eT, X.ldc2Long hx hown (mvT hZ w) (g := mkF _ pc Ls st) rfl (hb hby hd)⟩
theorem Wk.getF (H : Wk l Z y code mx ret R n0 W V) {i : Nat} {R0 O nm d host : String} {a : Addr} {v : Value} (w : (Jvm.Cond.fieldLink y.cls i R0 nm d).before a0 Z = true ∨ (Jvm.Cond.fieldLinkNest y.cls i R0 nm d host).before a0 Z = true) (via : Via Z R0 O nm d) (F : Fld Z h a O nm d v) (hd : decode code pc = .ok (.getfield i, 3)) (r : W h k n pc Ls (.ref a :: st)) : W h k n (pc + 3) Ls (v :: st) :=
  H.stepX r fun X hx hby hml hown hZ eT => RoadKit.getF X hx hZ hown w via eT F (g := mkF _ pc Ls (.ref a :: st)) rfl rfl (hb hby hd)
theorem Wk.getF' (H : Wk l Z y code mx ret R n0 W V) {i : Nat} {O nm d : String} {a : Addr} {v : Value} (w : (Jvm.Cond.fieldLink y.cls i O nm d).before a0 Z = true) (F : Fld Z h a O nm d v) (hd : decode code pc = .ok (.getfield i, 3)) (r : W h k n pc Ls (.ref a :: st)) : W h k n (pc + 3) Ls (v :: st) :=
  H.getF (host := "") (Or.inl w) Via.refl F hd r
theorem Wk.putF (H : Wk l Z y code mx ret R n0 W V) {i kk : Nat} {R0 O nm d host C : String} {ty : FieldType} {a : Addr} {v old : Value} (w : (Jvm.Cond.fieldLink y.cls i R0 nm d).before a0 Z = true ∨ (Jvm.Cond.fieldLinkNest y.cls i R0 nm d host).before a0 Z = true) (via : Via Z R0 O nm d) (F : Fld Z h a O nm d old) (E : Exa Z h a C) (L : (Jvm.Cond.lays C O nm d).before a0 Z = true ∨ ((Jvm.Cond.laysFinal C O nm d).before a0 Z = true ∧ y.cls = O ∧ y.name = "<init>")) (wi : (Jvm.Cond.instantiable C kk).before a0 Z = true)
    (hty : parseFieldDescriptor d = some ty) (hn : narrow ty v = v) (hf : fits ty v = true) (hn0 : n0 ≤ a) (hd : decode code pc = .ok (.putfield i, 3)) (r : W h k n pc Ls (v :: .ref a :: st)) : ∃ h', Wr h h' a (Jvm.RoadKit.slotOf Z O nm d) v ∧ W h' k n (pc + 3) Ls st := by
  obtain ⟨p, e, s, m, args, below, meth, c, S0, hx, hby, hml, hown, hZ, hnm, hret, hlk, rfl, rfl⟩ := H
  obtain ⟨T, locs, X, eh, N, sp⟩ := r
  obtain ⟨T', h', X', e', W', q⟩ := RoadKit.putF X hx hZ hown w via eh F E (L.imp id fun u => ⟨u.1, u.2.1, by rw [hnm]; exact u.2.2⟩) wi hty hn hf (g := mkF m pc Ls (v :: .ref a :: st)) rfl rfl (hb hby hd)
  exact ⟨h', W', T', _, X', e', Fr.snoc X' N hn0, fun t u => sp t (q t u)⟩
theorem Wk.newO (H : Wk l Z y code mx ret R n0 W V) {i q : Nat} {C : String} (w : (Jvm.Cond.classLink y.cls i C).before a0 Z = true) (wi : (Jvm.Cond.instantiable C q).before a0 Z = true) (wz : (Jvm.Cond.initialized C).before a0 Z = true) (hc : k + 1 ≤ R.cells) (hl : n + q ≤ R.slots) (hd : decode code pc = .ok (.new i, 3)) (r : W h k n pc Ls st) :
    ∃ h' a, a = h.size ∧ Ext h h' ∧ Exa Z h' a C ∧ (∀ {O nm d : String} {ty : FieldType}, Laid Z a0 C O nm d → parseFieldDescriptor d = some ty → Fld Z h' a O nm d (defaultValue ty)) ∧ (∃ cell : Cell, h'[a]? = some cell ∧ cell.vm = .none ∧ cell.monitor = {}) ∧ W h' (k + 1) (n + q) (pc + 3) Ls (.ref a :: st) := by
  obtain ⟨p, e, s, m, args, below, meth, c, S0, hx, hby, hml, hown, hZ, hnm, hret, hlk, rfl, rfl⟩ := H
  obtain ⟨T, locs, X, eh, N, sp⟩ := r
  obtain ⟨T', h', X', e', E', A', D', U', q'⟩ := RoadKit.newO X hx hZ hown w wi wz eh (g := mkF m pc Ls st) rfl (hb hby hd) hc hl
  exact ⟨h', _, rfl, E', A', D', U', T', _, X', e', N, fun t u => sp t (q' t u)⟩
theorem Wk.newP (H : Wk l Z y code mx ret R n0 W V) {aty : ArrayType} {ty : FieldType} {z : Int32} {cap : Nat} (hty : newarray.typeOf aty = ty) (w : (Jvm.Cond.arrayClass ty).before a0 Z = true) (hn : ¬ z < 0) (hcap : z.toNatClampNeg ≤ cap) (hb8 : cap * 8 ≤ 536870912) (hc : k + 1 ≤ R.cells) (hl : n + cap ≤ R.slots) (hd : decode code pc = .ok (.newarray aty, 2)) (r : W h k n pc Ls (.int z :: st)) :
    ∃ h' a cA, a = h.size ∧ Ext h h' ∧ Arr Z h' a (newA cA ty z) ty ∧ W h' (k + 1) (n + cap) (pc + 2) Ls (.ref a :: st) := by
  subst hty
  obtain ⟨p, e, s, m, args, below, meth, c, S0, hx, hby, hml, hown, hZ, hnm, hret, hlk, rfl, rfl⟩ := H
  obtain ⟨T, locs, X, eh, N, sp⟩ := r
  obtain ⟨T', h', cA, X', e', E', A', q'⟩ := RoadKit.newP X hx hZ w eh (g := mkF m pc Ls (.int z :: st)) rfl (hb hby hd) rfl hn hcap hb8 hc hl
  exact ⟨h', _, cA, rfl, E', A', T', _, X', e', N, fun t u => sp t (q' t u)⟩
theorem Wk.arrLen (H : Wk l Z y code mx ret R n0 W V) {a : Addr} {cl : Cell} {ty : FieldType} {z : Int32} (A : Arr Z h a cl ty) (hz : cl.slots.size.toInt32 = z) (hd : decode code pc = .ok (.arraylength, 1)) (r : W h k n pc Ls (.ref a :: st)) : W h k n (pc + 1) Ls (.int z :: st) := by
  subst hz
  exact H.stepX r fun X hx hby hml hown hZ eT => ⟨_, X, eT, X.arraylength hx (by rw [eT]; exact A.1) (State.isArrayOf_alike hZ.alike A.2.1) (g := mkF _ pc Ls (.ref a :: st)) rfl rfl (hb hby hd)⟩
theorem Wk.iaload (H : Wk l Z y code mx ret R n0 W V) {a : Addr} {cl : Cell} {j : Int32} {v : Value} (A : Arr Z h a cl .int) (hin : ¬ (j < 0 ∨ cl.slots.size ≤ j.toNatClampNeg)) (hv : cl.slots[j.toNatClampNeg]? = some v) (hd : decode code pc = .ok (.iaload, 1)) (r : W h k n pc Ls (.int j :: .ref a :: st)) : W h k n (pc + 1) Ls (v :: st) :=
  H.stepX r fun X hx hby hml hown hZ eT => ⟨_, X, eT, X.iaload hx (by rw [eT]; exact A.1) (State.isArrayOf_alike hZ.alike A.2.1) A.2.2 hin hv (g := mkF _ pc Ls (.int j :: .ref a :: st)) rfl rfl (hb hby hd)⟩
theorem Wk.laload (H : Wk l Z y code mx ret R n0 W V) {a : Addr} {cl : Cell} {j : Int32} {v : Value} (A : Arr Z h a cl .long) (hin : ¬ (j < 0 ∨ cl.slots.size ≤ j.toNatClampNeg)) (hv : cl.slots[j.toNatClampNeg]? = some v) (hd : decode code pc = .ok (.laload, 1)) (r : W h k n pc Ls (.int j :: .ref a :: st)) : W h k n (pc + 1) Ls (v :: st) :=
  H.stepX r fun X hx hby hml hown hZ eT => ⟨_, X, eT, X.laload hx (by rw [eT]; exact A.1) (State.isArrayOf_alike hZ.alike A.2.1) A.2.2 hin hv (g := mkF _ pc Ls (.int j :: .ref a :: st)) rfl rfl (hb hby hd)⟩
theorem Wk.caload (H : Wk l Z y code mx ret R n0 W V) {a : Addr} {cl : Cell} {j : Int32} {v : Value} (A : Arr Z h a cl .char) (hin : ¬ (j < 0 ∨ cl.slots.size ≤ j.toNatClampNeg)) (hv : cl.slots[j.toNatClampNeg]? = some v) (hd : decode code pc = .ok (.caload, 1)) (r : W h k n pc Ls (.int j :: .ref a :: st)) : W h k n (pc + 1) Ls (v :: st) :=
  H.stepX r fun X hx hby hml hown hZ eT => ⟨_, X, eT, X.caload hx (by rw [eT]; exact A.1) (State.isArrayOf_alike hZ.alike A.2.1) A.2.2 hin hv (g := mkF _ pc Ls (.int j :: .ref a :: st)) rfl rfl (hb hby hd)⟩
theorem Wk.baload (H : Wk l Z y code mx ret R n0 W V) {a : Addr} {cl : Cell} {j : Int32} {v : Value} (A : Arr Z h a cl .byte) (hin : ¬ (j < 0 ∨ cl.slots.size ≤ j.toNatClampNeg)) (hv : cl.slots[j.toNatClampNeg]? = some v) (hd : decode code pc = .ok (.baload, 1)) (r : W h k n pc Ls (.int j :: .ref a :: st)) : W h k n (pc + 1) Ls (v :: st) :=
  H.stepX r fun X hx hby hml hown hZ eT => ⟨_, X, eT, X.baloadBytes hx (by rw [eT]; exact A.1) (State.isArrayOf_alike hZ.alike A.2.1) A.2.2 hin hv (g := mkF _ pc Ls (.int j :: .ref a :: st)) rfl rfl (hb hby hd)⟩
theorem Wk.aaload (H : Wk l Z y code mx ret R n0 W V) {a : Addr} {cl : Cell} {ty : FieldType} {j : Int32} {v : Value} (A : Arr Z h a cl ty) (hty : ty.isReference = true) (hin : ¬ (j < 0 ∨ cl.slots.size ≤ j.toNatClampNeg)) (hv : cl.slots[j.toNatClampNeg]? = some v) (hd : decode code pc = .ok (.aaload, 1)) (r : W h k n pc Ls (.int j :: .ref a :: st)) : W h k n (pc + 1) Ls (v :: st) :=
  H.stepX r fun X hx hby hml hown hZ eT => ⟨_, X, eT, X.aaload hx (by rw [eT]; exact A.1) (State.isArrayOf_alike hZ.alike A.2.1) hty A.2.2 hin hv (g := mkF _ pc Ls (.int j :: .ref a :: st)) rfl rfl (hb hby hd)⟩
theorem Wk.stI (H : Wk l Z y code mx ret R n0 W V) {a : Addr} {cl : Cell} {j : Int32} {x : Int32} (A : Arr Z h a cl .int) (hin : ¬ (j < 0 ∨ cl.slots.size ≤ j.toNatClampNeg)) (hn0 : n0 ≤ a) (hd : decode code pc = .ok (.iastore, 1)) (r : W h k n pc Ls (.int x :: .int j :: .ref a :: st)) : ∃ h', Wr h h' a j.toNatClampNeg (.int x) ∧ W h' k n (pc + 1) Ls st := by
  obtain ⟨p, e, s, m, args, below, meth, c, S0, hx, hby, hml, hown, hZ, hnm, hret, hlk, rfl, rfl⟩ := H
  obtain ⟨T, locs, X, eh, N, sp⟩ := r
  obtain ⟨T', h', X', e', W', q⟩ := RoadKit.stI X hx hZ eh A hin (g := mkF m pc Ls (.int x :: .int j :: .ref a :: st)) rfl rfl (hb hby hd)
  exact ⟨h', W', T', _, X', e', Fr.snoc X' N hn0, fun t u => sp t (q t u)⟩
theorem Wk.stJ (H : Wk l Z y code mx ret R n0 W V) {a : Addr} {cl : Cell} {j : Int32} {x : Int64} (A : Arr Z h a cl .long) (hin : ¬ (j < 0 ∨ cl.slots.size ≤ j.toNatClampNeg)) (hn0 : n0 ≤ a) (hd : decode code pc = .ok (.lastore, 1)) (r : W h k n pc Ls (.long x :: .int j :: .ref a :: st)) : ∃ h', Wr h h' a j.toNatClampNeg (.long x) ∧ W h' k n (pc + 1) Ls st := by
  obtain ⟨p, e, s, m, args, below, meth, c, S0, hx, hby, hml, hown, hZ, hnm, hret, hlk, rfl, rfl⟩ := H
  obtain ⟨T, locs, X, eh, N, sp⟩ := r
  obtain ⟨T', h', X', e', W', q⟩ := RoadKit.stJ X hx hZ eh A hin (g := mkF m pc Ls (.long x :: .int j :: .ref a :: st)) rfl rfl (hb hby hd)
  exact ⟨h', W', T', _, X', e', Fr.snoc X' N hn0, fun t u => sp t (q t u)⟩
theorem Wk.stC (H : Wk l Z y code mx ret R n0 W V) {a : Addr} {cl : Cell} {j : Int32} {x : Int32} (A : Arr Z h a cl .char) (hin : ¬ (j < 0 ∨ cl.slots.size ≤ j.toNatClampNeg)) (hn0 : n0 ≤ a) (hd : decode code pc = .ok (.castore, 1)) (r : W h k n pc Ls (.int x :: .int j :: .ref a :: st)) : ∃ h', Wr h h' a j.toNatClampNeg (.int (nar .char x)) ∧ W h' k n (pc + 1) Ls st := by
  obtain ⟨p, e, s, m, args, below, meth, c, S0, hx, hby, hml, hown, hZ, hnm, hret, hlk, rfl, rfl⟩ := H
  obtain ⟨T, locs, X, eh, N, sp⟩ := r
  obtain ⟨T', h', X', e', W', q⟩ := RoadKit.stC X hx hZ eh A hin (g := mkF m pc Ls (.int x :: .int j :: .ref a :: st)) rfl rfl (hb hby hd)
  exact ⟨h', W', T', _, X', e', Fr.snoc X' N hn0, fun t u => sp t (q t u)⟩
theorem Wk.stB (H : Wk l Z y code mx ret R n0 W V) {a : Addr} {cl : Cell} {j : Int32} {x : Int32} (A : Arr Z h a cl .byte) (hin : ¬ (j < 0 ∨ cl.slots.size ≤ j.toNatClampNeg)) (hn0 : n0 ≤ a) (hd : decode code pc = .ok (.bastore, 1)) (r : W h k n pc Ls (.int x :: .int j :: .ref a :: st)) : ∃ h', Wr h h' a j.toNatClampNeg (.int (nar .byte x)) ∧ W h' k n (pc + 1) Ls st := by
  obtain ⟨p, e, s, m, args, below, meth, c, S0, hx, hby, hml, hown, hZ, hnm, hret, hlk, rfl, rfl⟩ := H
  obtain ⟨T, locs, X, eh, N, sp⟩ := r
  obtain ⟨T', h', X', e', W', q⟩ := RoadKit.stB X hx hZ eh A hin (g := mkF m pc Ls (.int x :: .int j :: .ref a :: st)) rfl rfl (hb hby hd)
  exact ⟨h', W', T', _, X', e', Fr.snoc X' N hn0, fun t u => sp t (q t u)⟩
theorem Wk.initO (H : Wk l Z y code mx ret R n0 W V) {i w : Nat} {a : Addr} (w1 : (Jvm.Cond.methodLink y.cls i Lib.objectInit).before a0 Z = true) (w2 : (Jvm.Cond.instanceMethod Lib.objectInit).before a0 Z = true) (w3 : (Jvm.Cond.code Lib.objectInit ⟨#[0xb1]⟩ 1 none).before a0 Z = true) (hsz : Ls.size = mx) (hf : 1 ≤ R.frames) (hw : (st.map fun v => v.category).sum ≤ w) (hl : w + 12 ≤ R.locals) (hd : decode code pc = .ok (.invokespecial i, 3)) (r : W h k n pc Ls (.ref a :: st)) : W h k n (pc + 3) Ls st :=
  H.stepX r fun X hx hby hml hown hZ eT => RoadKit.initO X hx hZ hown w1 w2 w3 eT (g := mkF _ pc Ls (.ref a :: st)) rfl (by rw [hml]; exact hsz) rfl (hb hby hd) hf (by show 2 * 0 + _ ≤ _; omega) hl
variable {y' : MethodName} {bytes' : ByteArray} {mx' : Nat} {ret' : Option FieldType} {rm' : Room} {as' : Array Value} {Q : Option Value → Heap → Prop} {i w : Nat} {ps : List FieldType} {rt : Option FieldType} {argsL rest : List Value}
theorem Wk.callS (H : Wk l Z y code mx ret R n0 W V) (w1 : (Jvm.Cond.methodLink y.cls i y').before a0 Z = true) (w2 : (Jvm.Cond.static y').before a0 Z = true) (w3 : (Jvm.Cond.initialized y'.cls).before a0 Z = true) (w4 : (Jvm.Cond.code y' bytes' mx' ret').before a0 Z = true) (hy : y'.cls ≠ "java/lang/invoke/MethodHandle" ∧ y'.cls ≠ "java/lang/invoke/VarHandle")
    (hpd : parseMethodDescriptor y'.desc = some ⟨ps, rt⟩) (hf : rm'.frames + 1 ≤ R.frames) (hl : w + (mx' + 11) + rm'.locals ≤ R.locals) (hc : k + rm'.cells ≤ R.cells) (hn : n + rm'.slots ≤ R.slots) (hM : Ct l Z y' bytes' mx' ret' rm' n0 argsL.toArray h Q) (hlen : argsL.length = ps.length) (hsz : Ls.size = mx) (hw : (rest.map fun v => v.category).sum ≤ w) (hst : st = argsL.reverse ++ rest) (hd : decode code pc = .ok (.invokestatic i, 3)) (r : W h k n pc Ls st) :
    ∃ v h', Q v h' ∧ W h' (k + rm'.cells) (n + rm'.slots) (pc + 3) Ls (v.toList ++ rest) := by
  subst hst
  obtain ⟨p, e, s, m, args, below, meth, c, S0, hx, hby, hml, hown, hZ, hnm, hret, hlk, rfl, rfl⟩ := H
  obtain ⟨T, locs, X, eh, N, sp⟩ := r
  obtain ⟨v, _, ⟨T1, L1, k1, n1⟩, -, X1, ⟨Lc, hQ, g1, g2, g3⟩, st1⟩ := Jvm.LawKit.callS X hx (y := y') hown (mvT hZ w1) (mvT hZ w2) (mvT hZ w3) (mvT hZ w4) hy (backOf (W := w) (Q := fun v hh L => Q v hh ∧ Fr n0 L) (hM []) hZ w4 w3 hf hl) (g := mkF m pc Ls (argsL.reverse ++ rest)) rfl (by rw [hml]; exact hsz) (argsL := argsL) (rest := rest) (lenOf hpd hlen) rfl (by show 2 * 0 + _ ≤ _; omega) (hb hby hd) (fun _ _ => ⟨rfl, eh, hc, hn⟩)
  dsimp only [Pt.U, Pt.locs, Pt.cells, Pt.slots] at X1 g1 g2 g3 st1 hQ
  subst g1 g2 g3
  exact ⟨v, T1.heap, hQ.1, T1, _, X1, rfl, Fr.app N hQ.2, fun t u => sp t (st1 t u)⟩
theorem Wk.callI (H : Wk l Z y code mx ret R n0 W V) {a : Addr} (hi : y'.name = "<init>") (w1 : (Jvm.Cond.methodLink y.cls i y').before a0 Z = true) (w2 : (Jvm.Cond.instanceMethod y').before a0 Z = true) (w3 : (Jvm.Cond.initialized y'.cls).before a0 Z = true) (w4 : (Jvm.Cond.code y' bytes' mx' none).before a0 Z = true) (hy : y'.cls ≠ "java/lang/invoke/MethodHandle" ∧ y'.cls ≠ "java/lang/invoke/VarHandle")
    (hpd : parseMethodDescriptor y'.desc = some ⟨ps, rt⟩) (hf : rm'.frames + 1 ≤ R.frames) (hl : w + (mx' + 11) + rm'.locals ≤ R.locals) (hc : k + rm'.cells ≤ R.cells) (hn : n + rm'.slots ≤ R.slots) (hM : Ct l Z y' bytes' mx' none rm' n0 (.ref a :: argsL).toArray h Q) (hlen : argsL.length = ps.length) (hsz : Ls.size = mx) (hw : (rest.map fun v => v.category).sum ≤ w) (hst : st = argsL.reverse ++ .ref a :: rest) (hd : decode code pc = .ok (.invokespecial i, 3)) (r : W h k n pc Ls st) :
    ∃ v h', Q v h' ∧ W h' (k + rm'.cells) (n + rm'.slots) (pc + 3) Ls (v.toList ++ rest) := by
  subst hst
  obtain ⟨p, e, s, m, args, below, meth, c, S0, hx, hby, hml, hown, hZ, hnm, hret, hlk, rfl, rfl⟩ := H
  obtain ⟨T, locs, X, eh, N, sp⟩ := r
  obtain ⟨v, _, ⟨T1, L1, k1, n1⟩, -, X1, ⟨Lc, hQ, g1, g2, g3⟩, st1⟩ := X.specialBack hx (y := y') hi hown (mvT hZ w1) (mvT hZ w2) (mvT hZ w4) hy (backOf (W := w) (Q := fun v hh L => Q v hh ∧ Fr n0 L) (hM []) hZ w4 w3 hf hl) (g := mkF m pc Ls (argsL.reverse ++ .ref a :: rest)) rfl (by rw [hml]; exact hsz) (Steps.refl _) (a := a) (argsL := argsL) (rest := rest) (lenOf hpd hlen) rfl (by show 2 * 0 + _ ≤ _; omega) (hb hby hd) (fun _ _ => ⟨rfl, eh, hc, hn⟩)
  dsimp only [Pt.U, Pt.locs, Pt.cells, Pt.slots] at X1 g1 g2 g3 st1 hQ
  subst g1 g2 g3
  exact ⟨v, T1.heap, hQ.1, T1, _, X1, rfl, Fr.app N hQ.2, fun t u => sp t (st1.trans u)⟩
theorem Wk.callV (H : Wk l Z y code mx ret R n0 W V) {a : Addr} {C : String} {z' : MethodName} (w1 : (Jvm.Cond.methodLink y.cls i z').before a0 Z = true) (w2 : (Jvm.Cond.declares z').before a0 Z = true) (nf : NF Z a0 z') (w5 : (Jvm.Cond.selects C z' y').before a0 Z = true) (w6 : (Jvm.Cond.instanceMethod y').before a0 Z = true) (w3 : (Jvm.Cond.initialized y'.cls).before a0 Z = true) (w4 : (Jvm.Cond.code y' bytes' mx' ret').before a0 Z = true) (hy : z'.cls ≠ "java/lang/invoke/MethodHandle" ∧ z'.cls ≠ "java/lang/invoke/VarHandle")
    (hpd : parseMethodDescriptor z'.desc = some ⟨ps, rt⟩) (hf : rm'.frames + 1 ≤ R.frames) (hl : w + (mx' + 11) + rm'.locals ≤ R.locals) (hc : k + rm'.cells ≤ R.cells) (hn : n + rm'.slots ≤ R.slots) (E : Exa Z h a C) (hM : Ct l Z y' bytes' mx' ret' rm' n0 (.ref a :: argsL).toArray h Q) (hlen : argsL.length = ps.length) (hsz : Ls.size = mx) (hw : (rest.map fun v => v.category).sum ≤ w) (hst : st = argsL.reverse ++ .ref a :: rest) (hd : decode code pc = .ok (.invokevirtual i, 3)) (r : W h k n pc Ls st) :
    ∃ v h', Q v h' ∧ W h' (k + rm'.cells) (n + rm'.slots) (pc + 3) Ls (v.toList ++ rest) := by
  subst hst
  obtain ⟨p, e, s, m, args, below, meth, c, S0, hx, hby, hml, hown, hZ, hnm, hret, hlk, rfl, rfl⟩ := H
  obtain ⟨T, locs, X, eh, N, sp⟩ := r
  obtain ⟨cq, kq, qa, qb, qc⟩ := isOf (s := s) (T := T) hZ eh E
  obtain ⟨v, _, ⟨T1, L1, k1, n1⟩, -, X1, ⟨Lc, hQ, g1, g2, g3⟩, st1⟩ := X.virtualBack hx (y := z') (z := y') hown (mvT hZ w1) (mvT hZ w2) (nf.at hZ) (mvT hZ w5) (mvT hZ w6) hy (backOf (W := w) (Q := fun v hh L => Q v hh ∧ Fr n0 L) (hM []) hZ w4 w3 hf hl) qa qc (g := mkF m pc Ls (argsL.reverse ++ .ref a :: rest)) rfl (by rw [hml]; exact hsz) (Steps.refl _) (argsL := argsL) (rest := rest) (lenOf hpd hlen) rfl (by show 2 * 0 + _ ≤ _; omega) (hb hby hd) (fun _ _ => ⟨rfl, eh, hc, hn⟩)
  dsimp only [Pt.U, Pt.locs, Pt.cells, Pt.slots] at X1 g1 g2 g3 st1 hQ
  subst g1 g2 g3
  exact ⟨v, T1.heap, hQ.1, T1, _, X1, rfl, Fr.app N hQ.2, fun t u => sp t (st1.trans u)⟩
theorem Wk.callSP (H : Wk l Z y code mx ret R n0 W V) {v0 : Option Value} (w1 : (Jvm.Cond.methodLink y.cls i y').before a0 Z = true) (w2 : (Jvm.Cond.static y').before a0 Z = true) (w3 : (Jvm.Cond.initialized y'.cls).before a0 Z = true) (w4 : (Jvm.Cond.code y' bytes' mx' ret').before a0 Z = true) (hy : y'.cls ≠ "java/lang/invoke/MethodHandle" ∧ y'.cls ≠ "java/lang/invoke/VarHandle")
    (hpd : parseMethodDescriptor y'.desc = some ⟨ps, rt⟩) (hf : rm'.frames + 1 ≤ R.frames) (hl : w + (mx' + 11) + rm'.locals ≤ R.locals) (hc : k + rm'.cells ≤ R.cells) (hn : n + rm'.slots ≤ R.slots) (hM : Ct l Z y' bytes' mx' ret' rm' n0 argsL.toArray h (fun v h' => v = v0 ∧ h' = h)) (hlen : argsL.length = ps.length) (hsz : Ls.size = mx) (hw : (rest.map fun v => v.category).sum ≤ w) (hst : st = argsL.reverse ++ rest) (hd : decode code pc = .ok (.invokestatic i, 3)) (r : W h k n pc Ls st) :
    W h (k + rm'.cells) (n + rm'.slots) (pc + 3) Ls (v0.toList ++ rest) := by
  obtain ⟨v, h', ⟨e1, e2⟩, r'⟩ := H.callS w1 w2 w3 w4 hy hpd hf hl hc hn hM hlen hsz hw hst hd r
  rw [← e1, ← e2]
  rw [e2] at r' ⊢
  exact r'
theorem Wk.callVP (H : Wk l Z y code mx ret R n0 W V) {v0 : Option Value} {a : Addr} {C : String} {z' : MethodName} (w1 : (Jvm.Cond.methodLink y.cls i z').before a0 Z = true) (w2 : (Jvm.Cond.declares z').before a0 Z = true) (nf : NF Z a0 z') (w5 : (Jvm.Cond.selects C z' y').before a0 Z = true) (w6 : (Jvm.Cond.instanceMethod y').before a0 Z = true) (w3 : (Jvm.Cond.initialized y'.cls).before a0 Z = true) (w4 : (Jvm.Cond.code y' bytes' mx' ret').before a0 Z = true) (hy : z'.cls ≠ "java/lang/invoke/MethodHandle" ∧ z'.cls ≠ "java/lang/invoke/VarHandle")
    (hpd : parseMethodDescriptor z'.desc = some ⟨ps, rt⟩) (hf : rm'.frames + 1 ≤ R.frames) (hl : w + (mx' + 11) + rm'.locals ≤ R.locals) (hc : k + rm'.cells ≤ R.cells) (hn : n + rm'.slots ≤ R.slots) (E : Exa Z h a C) (hM : Ct l Z y' bytes' mx' ret' rm' n0 (.ref a :: argsL).toArray h (fun v h' => v = v0 ∧ h' = h)) (hlen : argsL.length = ps.length) (hsz : Ls.size = mx) (hw : (rest.map fun v => v.category).sum ≤ w) (hst : st = argsL.reverse ++ .ref a :: rest) (hd : decode code pc = .ok (.invokevirtual i, 3)) (r : W h k n pc Ls st) :
    W h (k + rm'.cells) (n + rm'.slots) (pc + 3) Ls (v0.toList ++ rest) := by
  obtain ⟨v, h', ⟨e1, e2⟩, r'⟩ := H.callV w1 w2 nf w5 w6 w3 w4 hy hpd hf hl hc hn E hM hlen hsz hw hst hd r
  rw [← e1, ← e2]
  rw [e2] at r' ⊢
  exact r'
theorem Wk.retV (H : Wk l Z y code mx ret R n0 W V) {v : Value} {t : FieldType} {ins : Instr} (ht : ret = some t) (hn' : narrow t v = v) (hi : (ins = .ireturn ∧ (t = .int ∨ t = .boolean ∨ t = .byte ∨ t = .char ∨ t = .short) ∧ ∃ z, v = .int z) ∨ (ins = .lreturn ∧ t = .long ∧ ∃ z, v = .long z) ∨ (ins = .dreturn ∧ t = .double ∧ ∃ z, v = .double z) ∨ (ins = .freturn ∧ t = .float ∧ ∃ z, v = .float z) ∨ (ins = .areturn ∧ t.isReference = true ∧ v.isRef = true))
    (hk : k ≤ R.cells) (hn : n ≤ R.slots) (hd : decode code pc = .ok (ins, 1)) (r : W h k n pc Ls (v :: st)) : V (some v) h := by
  obtain ⟨p, e, s, m, args, below, meth, c, S0, hx, hby, hml, hown, hZ, hnm, hret, hlk, rfl, rfl⟩ := H
  obtain ⟨T, locs, X, eh, N, sp⟩ := r
  have hrt : meth.sig.returnType = some t := hret.trans ht
  obtain ⟨fs, hr, hrun, hended, hW, hsame⟩ := X.leave (v := some v) (fun q => by rw [hrt] at q; cases q) hlk
  exact ⟨_, locs, sp _ (retOut X hx hrt hn' hi (hb hby hd) hr), hrun, hended, eh, N, ⟨_, rfl⟩, hW, hsame.mono hk hn⟩
theorem Wk.retI (H : Wk l Z y code mx ret R n0 W V) {z : Int32} (ht : ret = some .int) (hk : k ≤ R.cells) (hn : n ≤ R.slots) (hd : decode code pc = .ok (.ireturn, 1)) (r : W h k n pc Ls (.int z :: st)) : V (some (.int z)) h :=
  H.retV ht rfl (Or.inl ⟨rfl, Or.inl rfl, z, rfl⟩) hk hn hd r
theorem Wk.retJ (H : Wk l Z y code mx ret R n0 W V) {z : Int64} (ht : ret = some .long) (hk : k ≤ R.cells) (hn : n ≤ R.slots) (hd : decode code pc = .ok (.lreturn, 1)) (r : W h k n pc Ls (.long z :: st)) : V (some (.long z)) h :=
  H.retV ht rfl (Or.inr (Or.inl ⟨rfl, rfl, z, rfl⟩)) hk hn hd r
theorem Wk.retZ (H : Wk l Z y code mx ret R n0 W V) {z z' : Int32} (hz : z &&& 1 = z') (ht : ret = some .boolean) (hk : k ≤ R.cells) (hn : n ≤ R.slots) (hd : decode code pc = .ok (.ireturn, 1)) (r : W h k n pc Ls (.int z :: st)) : V (some (.int z')) h := by
  subst hz
  obtain ⟨p, e, s, m, args, below, meth, c, S0, hx, hby, hml, hown, hZ, hnm, hret, hlk, rfl, rfl⟩ := H
  obtain ⟨T, locs, X, eh, N, sp⟩ := r
  have hrt : meth.sig.returnType = some .boolean := hret.trans ht
  obtain ⟨fs, hr, hrun, hended, hW, hsame⟩ := X.leave (v := some (.int (nar .boolean z))) (fun q => by rw [hrt] at q; cases q) hlk
  exact ⟨_, locs, sp _ (retN X hx hrt (by simp) (hb hby hd) hr), hrun, hended, eh, N, ⟨_, rfl⟩, hW, hsame.mono hk hn⟩
theorem Wk.retB (H : Wk l Z y code mx ret R n0 W V) {z z' : Int32} (hz : z.toInt8.toInt32 = z') (ht : ret = some .byte) (hk : k ≤ R.cells) (hn : n ≤ R.slots) (hd : decode code pc = .ok (.ireturn, 1)) (r : W h k n pc Ls (.int z :: st)) : V (some (.int z')) h := by
  subst hz
  obtain ⟨p, e, s, m, args, below, meth, c, S0, hx, hby, hml, hown, hZ, hnm, hret, hlk, rfl, rfl⟩ := H
  obtain ⟨T, locs, X, eh, N, sp⟩ := r
  have hrt : meth.sig.returnType = some .byte := hret.trans ht
  obtain ⟨fs, hr, hrun, hended, hW, hsame⟩ := X.leave (v := some (.int (nar .byte z))) (fun q => by rw [hrt] at q; cases q) hlk
  exact ⟨_, locs, sp _ (retN X hx hrt (by simp) (hb hby hd) hr), hrun, hended, eh, N, ⟨_, rfl⟩, hW, hsame.mono hk hn⟩
theorem Wk.retC (H : Wk l Z y code mx ret R n0 W V) {z z' : Int32} (hz : z.toUInt32.toUInt16.toUInt32.toInt32 = z') (ht : ret = some .char) (hk : k ≤ R.cells) (hn : n ≤ R.slots) (hd : decode code pc = .ok (.ireturn, 1)) (r : W h k n pc Ls (.int z :: st)) : V (some (.int z')) h := by
  subst hz
  obtain ⟨p, e, s, m, args, below, meth, c, S0, hx, hby, hml, hown, hZ, hnm, hret, hlk, rfl, rfl⟩ := H
  obtain ⟨T, locs, X, eh, N, sp⟩ := r
  have hrt : meth.sig.returnType = some .char := hret.trans ht
  obtain ⟨fs, hr, hrun, hended, hW, hsame⟩ := X.leave (v := some (.int (nar .char z))) (fun q => by rw [hrt] at q; cases q) hlk
  exact ⟨_, locs, sp _ (retN X hx hrt (by simp) (hb hby hd) hr), hrun, hended, eh, N, ⟨_, rfl⟩, hW, hsame.mono hk hn⟩
theorem Wk.retR (H : Wk l Z y code mx ret R n0 W V) {v : Value} {t : FieldType} (ht : ret = some t) (htr : t.isReference = true) (hv : v.isRef = true) (hk : k ≤ R.cells) (hn : n ≤ R.slots) (hd : decode code pc = .ok (.areturn, 1)) (r : W h k n pc Ls (v :: st)) : V (some v) h :=
  H.retV ht (by cases v <;> simp [Value.isRef] at hv <;> cases t <;> simp [FieldType.isReference] at htr <;> rfl) (Or.inr (Or.inr (Or.inr (Or.inr ⟨rfl, htr, hv⟩)))) hk hn hd r
theorem Wk.retN (H : Wk l Z y code mx ret R n0 W V) (ht : ret = none) (hk : k ≤ R.cells) (hn : n ≤ R.slots) (hd : decode code pc = .ok (.return_, 1)) (r : W h k n pc Ls []) : V none h := by
  obtain ⟨p, e, s, m, args, below, meth, c, S0, hx, hby, hml, hown, hZ, hnm, hret, hlk, rfl, rfl⟩ := H
  obtain ⟨T, locs, X, eh, N, sp⟩ := r
  have hrt : meth.sig.returnType = none := hret.trans ht
  obtain ⟨fs, hr, hrun, hended, hW, hsame⟩ := X.leave (v := none) (fun _ => rfl) hlk
  exact ⟨_, locs, sp _ (X.returnOut hx hrt (hb hby hd) hr), hrun, hended, eh, N, ⟨_, rfl⟩, hW, hsame.mono hk hn⟩
end Steps
end Jvm.OwnW
namespace Jvm.OwnW
open Jvm Jvm.ClassFile Sem Op Lib Jvm.Free Jvm.Stand Jvm.LawKit Jvm.RoadKit Bundle
/-- an array at a, of components ty, that holds just vs -/
def Ary (Z : State) (h : Heap) (a : Addr) (ty : FieldType) (vs : List Value) : Prop := ∃ c : Cell, Arr Z h a c ty ∧ c.slots = vs.toArray
section Arrays
variable {l : Launch} {Z : State} {y : MethodName} {code : ByteArray} {mx : Nat} {ret : Option FieldType} {R : Room} {n0 : Nat} {W : WT} {V : VT} {h h' : Heap} {k n pc : Nat} {Ls : Array Slot} {st : List Value} {a0 : Array Value} {a b : Addr} {ty : FieldType} {vs : List Value} {ws : List Addr} {sl : Nat} {v : Value}
theorem Ary.lt (A : Ary Z h a ty vs) : a < h.size := by obtain ⟨c, A, -⟩ := A; exact A.lt
theorem Ary.ext (A : Ary Z h a ty vs) (E : Ext h h') : Ary Z h' a ty vs := by obtain ⟨c, A, q⟩ := A; exact ⟨c, A.ext E, q⟩
theorem Ary.other (A : Ary Z h b ty vs) (w : Wr h h' a sl v) (ne : b ≠ a) : Ary Z h' b ty vs := by obtain ⟨c, A, q⟩ := A; exact ⟨c, A.other w ne, q⟩
theorem Ary.keep (A : Ary Z h a ty vs) (K : Keep h h' ws) (q : a ∉ ws) : Ary Z h' a ty vs := by obtain ⟨c, A, r⟩ := A; exact ⟨c, ⟨K.2.1 a c A.1 q, A.2⟩, r⟩
theorem Ary.same (A : Ary Z h a ty vs) (w : Wr h h' a sl v) : Ary Z h' a ty (vs.set sl v) := by
  obtain ⟨c, A, q⟩ := A
  refine ⟨_, A.same w, ?_⟩
  show c.slots.setIfInBounds sl v = _
  rw [q, List.setIfInBounds_toArray]
theorem idx_ok {j : Int32} {i : Nat} (hj : j.toInt = i) : j.toNatClampNeg = i ∧ ¬ j < 0 := by
  refine ⟨?_, ?_⟩
  · show j.toInt.toNat = i
    rw [hj]; rfl
  · rw [Int32.lt_iff_toInt_lt, hj, Int32.toInt_zero]
    omega
theorem idx_in' {j : Int32} {i : Nat} (hj : j.toInt = i) {c : Cell} (q : c.slots = vs.toArray) (hi : i < vs.length) : ¬ (j < 0 ∨ c.slots.size ≤ j.toNatClampNeg) := by
  obtain ⟨h1, h2⟩ := idx_ok hj
  rw [h1, q, List.size_toArray]
  exact fun u => u.elim h2 (fun u => by omega)
theorem Wk.newA (H : Wk l Z y code mx ret R n0 W V) {aty : ArrayType} {z : Int32} {cap i : Nat} {d : Value} (hty : newarray.typeOf aty = ty) (hdv : defaultValue ty = d) (w : (Jvm.Cond.arrayClass ty).before a0 Z = true) (hz : z.toInt = i) (hcap : i ≤ cap) (hb8 : cap * 8 ≤ 536870912) (hc : k + 1 ≤ R.cells) (hl : n + cap ≤ R.slots) (hd : decode code pc = .ok (.newarray aty, 2)) (r : W h k n pc Ls (.int z :: st)) :
    ∃ h' a, a = h.size ∧ Ext h h' ∧ Ary Z h' a ty (List.replicate i d) ∧ W h' (k + 1) (n + cap) (pc + 2) Ls (.ref a :: st) := by
  obtain ⟨h1, h2⟩ := idx_ok hz
  obtain ⟨h', a, cA, e, E, A, r'⟩ := H.newP hty w h2 (by rw [h1]; exact hcap) hb8 hc hl hd r
  refine ⟨h', a, e, E, ⟨_, A, ?_⟩, r'⟩
  show Array.replicate z.toNatClampNeg (defaultValue ty) = _
  rw [h1, hdv, List.toArray_replicate]
theorem Wk.newAE (H : Wk l Z y code mx ret R n0 W V) {aty : ArrayType} {z : Int32} {cap i : Nat} {d : Value} {ad : String} (hty : newarray.typeOf aty = ty) (hdv : defaultValue ty = d) (had : "[" ++ ty.toString = ad) (w : (Jvm.Cond.arrayClass ty).before a0 Z = true) (hz : z.toInt = i) (hcap : i ≤ cap) (hb8 : cap * 8 ≤ 536870912) (hc : k + 1 ≤ R.cells) (hl : n + cap ≤ R.slots) (hd : decode code pc = .ok (.newarray aty, 2)) (r : W h k n pc Ls (.int z :: st)) :
    ∃ h' a, a = h.size ∧ Ext h h' ∧ Ary Z h' a ty (List.replicate i d) ∧ Exa Z h' a ad ∧ W h' (k + 1) (n + cap) (pc + 2) Ls (.ref a :: st) := by
  obtain ⟨h1, h2⟩ := idx_ok hz
  subst hty
  obtain ⟨p, e, s, m, args, below, meth, c, S0, hx, hby, hml, hown, hZ, hnm, hret, hlk, rfl, rfl⟩ := H
  obtain ⟨T, locs, X, eh, N, sp⟩ := r
  obtain ⟨T', h', cA, X', e', E', A', EX, q'⟩ := RoadKit.newPE X hx hZ w eh (g := mkF m pc Ls (.int z :: st)) rfl (hb hby hd) rfl h2 (by rw [h1]; exact hcap) hb8 hc hl had
  refine ⟨h', _, rfl, E', ⟨_, A', ?_⟩, EX, T', _, X', e', N, fun t u => sp t (q' t u)⟩
  show Array.replicate z.toNatClampNeg (defaultValue (newarray.typeOf aty)) = _
  rw [h1, hdv, List.toArray_replicate]
theorem Wk.cloneA (H : Wk l Z y code mx ret R n0 W V) {i w cap : Nat} {ad : String} (w1 : (Jvm.Cond.methodLink y.cls i ⟨ad, "clone", "()Ljava/lang/Object;"⟩).before a0 Z = true) (w2 : (Jvm.Cond.sameMethod ad "java/lang/Object" "clone" "()Ljava/lang/Object;").before a0 Z = true) (w3 : (Jvm.Cond.native ⟨"java/lang/Object", "clone", "()Ljava/lang/Object;"⟩).before a0 Z = true)
    (w4 : (Jvm.Cond.instanceMethod ⟨"java/lang/Object", "clone", "()Ljava/lang/Object;"⟩).before a0 Z = true) (w5 : (Jvm.Cond.selects ad ⟨ad, "clone", "()Ljava/lang/Object;"⟩ ⟨"java/lang/Object", "clone", "()Ljava/lang/Object;"⟩).before a0 Z = true) (w6 : (Jvm.Cond.castable ad "java/lang/Cloneable").before a0 Z = true)
    (A : Ary Z h a ty vs) (E : Exa Z h a ad) (hfit : ∀ v ∈ vs, fits ty v = true) (hsz : Ls.size = mx) (hf : 1 ≤ R.frames) (hw : (st.map fun v => v.category).sum ≤ w) (hl : w + 14 ≤ R.locals) (hcap : vs.length ≤ cap) (hc : k + 1 ≤ R.cells) (hsl : n + cap ≤ R.slots) (hd : decode code pc = .ok (.invokevirtual i, 3)) (r : W h k n pc Ls (.ref a :: st)) :
    ∃ h' b, b = h.size ∧ Ext h h' ∧ Ary Z h' b ty vs ∧ Exa Z h' b ad ∧ W h' (k + 1) (n + cap) (pc + 3) Ls (.ref b :: st) := by
  obtain ⟨p, e, s, m, args, below, meth, c, S0, hx, hby, hml, hown, hZ, hnm, hret, hlk, rfl, rfl⟩ := H
  obtain ⟨T, locs, X, eh, N, sp⟩ := r
  obtain ⟨cl, Ar, q⟩ := A
  have hF : FitC Z cl := fitC_of Ar (fun j hj v hv => hfit v (by rw [q, List.getElem?_toArray] at hv; exact List.mem_of_getElem? hv))
  obtain ⟨T', h', X', e', E', A', EX, q'⟩ := RoadKit.cloneA X hx hZ hown w1 w2 w3 w4 w5 w6 eh Ar E hF (g := mkF m pc Ls (.ref a :: st)) rfl (by rw [hml]; exact hsz) rfl (hb hby hd) hf (by show 2 * 0 + _ ≤ _; omega) hl (by rw [q, List.size_toArray]; exact hcap) hc hsl
  exact ⟨h', _, rfl, E', ⟨_, A', q⟩, EX, T', _, X', e', N, fun t u => sp t (q' t u)⟩
theorem Wk.lenA (H : Wk l Z y code mx ret R n0 W V) {z : Int32} (A : Ary Z h a ty vs) (hz : vs.length.toInt32 = z) (hd : decode code pc = .ok (.arraylength, 1)) (r : W h k n pc Ls (.ref a :: st)) : W h k n (pc + 1) Ls (.int z :: st) := by
  obtain ⟨c, A, q⟩ := A
  exact H.arrLen A (by rw [q, List.size_toArray]; exact hz) hd r
theorem Wk.ldI (H : Wk l Z y code mx ret R n0 W V) {j : Int32} {i : Nat} (A : Ary Z h a .int vs) (hj : j.toInt = i) (hv : vs[i]? = some v) (hd : decode code pc = .ok (.iaload, 1)) (r : W h k n pc Ls (.int j :: .ref a :: st)) : W h k n (pc + 1) Ls (v :: st) := by
  obtain ⟨c, A, q⟩ := A
  obtain ⟨h1, h2⟩ := idx_ok hj
  exact H.iaload A (idx_in' hj q (List.getElem?_eq_some_iff.mp hv).1) (by rw [h1, q, List.getElem?_toArray]; exact hv) hd r
theorem Wk.ldJ (H : Wk l Z y code mx ret R n0 W V) {j : Int32} {i : Nat} (A : Ary Z h a .long vs) (hj : j.toInt = i) (hv : vs[i]? = some v) (hd : decode code pc = .ok (.laload, 1)) (r : W h k n pc Ls (.int j :: .ref a :: st)) : W h k n (pc + 1) Ls (v :: st) := by
  obtain ⟨c, A, q⟩ := A
  obtain ⟨h1, h2⟩ := idx_ok hj
  exact H.laload A (idx_in' hj q (List.getElem?_eq_some_iff.mp hv).1) (by rw [h1, q, List.getElem?_toArray]; exact hv) hd r
theorem Wk.ldC (H : Wk l Z y code mx ret R n0 W V) {j : Int32} {i : Nat} (A : Ary Z h a .char vs) (hj : j.toInt = i) (hv : vs[i]? = some v) (hd : decode code pc = .ok (.caload, 1)) (r : W h k n pc Ls (.int j :: .ref a :: st)) : W h k n (pc + 1) Ls (v :: st) := by
  obtain ⟨c, A, q⟩ := A
  obtain ⟨h1, h2⟩ := idx_ok hj
  exact H.caload A (idx_in' hj q (List.getElem?_eq_some_iff.mp hv).1) (by rw [h1, q, List.getElem?_toArray]; exact hv) hd r
theorem Wk.ldB (H : Wk l Z y code mx ret R n0 W V) {j : Int32} {i : Nat} (A : Ary Z h a .byte vs) (hj : j.toInt = i) (hv : vs[i]? = some v) (hd : decode code pc = .ok (.baload, 1)) (r : W h k n pc Ls (.int j :: .ref a :: st)) : W h k n (pc + 1) Ls (v :: st) := by
  obtain ⟨c, A, q⟩ := A
  obtain ⟨h1, h2⟩ := idx_ok hj
  exact H.baload A (idx_in' hj q (List.getElem?_eq_some_iff.mp hv).1) (by rw [h1, q, List.getElem?_toArray]; exact hv) hd r
theorem Wk.putI (H : Wk l Z y code mx ret R n0 W V) {j : Int32} {i : Nat} {x : Int32} (A : Ary Z h a .int vs) (hj : j.toInt = i) (hi : i < vs.length) (hn0 : n0 ≤ a) (hd : decode code pc = .ok (.iastore, 1)) (r : W h k n pc Ls (.int x :: .int j :: .ref a :: st)) : ∃ h', Wr h h' a i (.int x) ∧ Ary Z h' a .int (vs.set i (.int x)) ∧ W h' k n (pc + 1) Ls st := by
  obtain ⟨h1, h2⟩ := idx_ok hj
  obtain ⟨c, A', q⟩ := id A
  obtain ⟨h', w, r'⟩ := H.stI A' (idx_in' hj q hi) hn0 hd r
  rw [h1] at w
  exact ⟨h', w, A.same w, r'⟩
theorem Wk.putJ (H : Wk l Z y code mx ret R n0 W V) {j : Int32} {i : Nat} {x : Int64} (A : Ary Z h a .long vs) (hj : j.toInt = i) (hi : i < vs.length) (hn0 : n0 ≤ a) (hd : decode code pc = .ok (.lastore, 1)) (r : W h k n pc Ls (.long x :: .int j :: .ref a :: st)) : ∃ h', Wr h h' a i (.long x) ∧ Ary Z h' a .long (vs.set i (.long x)) ∧ W h' k n (pc + 1) Ls st := by
  obtain ⟨h1, h2⟩ := idx_ok hj
  obtain ⟨c, A', q⟩ := id A
  obtain ⟨h', w, r'⟩ := H.stJ A' (idx_in' hj q hi) hn0 hd r
  rw [h1] at w
  exact ⟨h', w, A.same w, r'⟩
theorem Wk.putC (H : Wk l Z y code mx ret R n0 W V) {j : Int32} {i : Nat} {x : Int32} {z : Int32} (hz : x.toUInt32.toUInt16.toUInt32.toInt32 = z) (A : Ary Z h a .char vs) (hj : j.toInt = i) (hi : i < vs.length) (hn0 : n0 ≤ a) (hd : decode code pc = .ok (.castore, 1)) (r : W h k n pc Ls (.int x :: .int j :: .ref a :: st)) : ∃ h', Wr h h' a i (.int z) ∧ Ary Z h' a .char (vs.set i (.int z)) ∧ W h' k n (pc + 1) Ls st := by
  subst hz
  obtain ⟨h1, h2⟩ := idx_ok hj
  obtain ⟨c, A', q⟩ := id A
  obtain ⟨h', w, r'⟩ := H.stC A' (idx_in' hj q hi) hn0 hd r
  rw [h1] at w
  exact ⟨h', w, A.same w, r'⟩
theorem Wk.putB (H : Wk l Z y code mx ret R n0 W V) {j : Int32} {i : Nat} {x : Int32} {z : Int32} (hz : x.toInt8.toInt32 = z) (A : Ary Z h a .byte vs) (hj : j.toInt = i) (hi : i < vs.length) (hn0 : n0 ≤ a) (hd : decode code pc = .ok (.bastore, 1)) (r : W h k n pc Ls (.int x :: .int j :: .ref a :: st)) : ∃ h', Wr h h' a i (.int z) ∧ Ary Z h' a .byte (vs.set i (.int z)) ∧ W h' k n (pc + 1) Ls st := by
  subst hz
  obtain ⟨h1, h2⟩ := idx_ok hj
  obtain ⟨c, A', q⟩ := id A
  obtain ⟨h', w, r'⟩ := H.stB A' (idx_in' hj q hi) hn0 hd r
  rw [h1] at w
  exact ⟨h', w, A.same w, r'⟩
end Arrays
theorem ns_root {Z : State} {a0 : Array Value} {O K : String} {q : Nat} (w : (Jvm.Cond.noSuperclass O).before a0 Z = true) (wk : (Jvm.Cond.instantiable K q).before a0 Z = true) (hn : O ≠ K) : NS Z O K := by
  obtain ⟨c, k, h1, h2, h3, -, -⟩ := Cond.noSuperclass_spec w
  obtain ⟨t, k', g1, g2, -⟩ := Cond.instantiable_spec wk
  have ne := ids_ne h1 g1 hn
  refine ⟨c, t, h1, g1, fun fuel => ?_⟩
  cases fuel with
  | zero => rfl
  | succ f => simp [Vm.isSubclassAux, ne, h2, h3]
theorem ns_no {Z : State} {a0 : Array Value} {C S K : String} {q : Nat} (w : (Jvm.Cond.superclass C S).before a0 Z = true) (wk : (Jvm.Cond.instantiable K q).before a0 Z = true) (n : NS Z C K) (hn : C ≠ K) : ∃ c t, Z.vm.findClass C = some c ∧ Z.vm.findClass K = some t ∧ Z.vm.assignable c t = false := by
  obtain ⟨c, t, h0, g0, n3⟩ := n
  obtain ⟨p, k, kp, h1, h2, h3, h4, h5, -, h7⟩ := Cond.superclass_spec h0 w
  obtain ⟨t', k', g1, g2, g5, g7, -⟩ := Cond.instantiable_spec wk
  cases g0.symm.trans g1
  have ne := ids_ne h0 g0 hn
  have g8 : k'.isInterface = false := by cases hh : k'.isInterface <;> simp [hh] at g7 ⊢
  refine ⟨c, t, h0, g0, ?_⟩
  show Z.vm.assignableAux (255 + 1) c t = false
  simp [Vm.assignableAux, ne, h2, g2, h5, g5, g8, Vm.isSubclass, n3]
/-- (k & 0x7fffffff) % m as a natural -/
theorem own_modn (k : Int32) (m : Nat) (h0 : 0 < m) (hm : m < 2147483648) : ∃ i : Nat, i < m ∧ (k &&& (2147483647 : Int32)) % Int32.ofNat m = Int32.ofNat i := by
  have h1 : (k &&& (2147483647 : Int32)).toInt = k.toInt % (2 ^ 31 : Nat) := c_mask k _ 31 (by decide) (by decide)
  have hM : (Int32.ofNat m).toInt = (m : Int) := Int32.toInt_ofNat_of_lt (by omega)
  have h2 := (c_irem (k &&& (2147483647 : Int32)) (Int32.ofNat m) m hM).1 (by rw [h1]; omega)
  have h3 : 0 ≤ (k &&& (2147483647 : Int32)).toInt % (m : Int) := Int.emod_nonneg _ (by omega)
  have h4 : (k &&& (2147483647 : Int32)).toInt % (m : Int) < m := Int.emod_lt_of_pos _ (by omega)
  refine ⟨((k &&& (2147483647 : Int32)) % Int32.ofNat m).toInt.toNat, by omega, ?_⟩
  apply Int32.toInt_inj.mp
  rw [Int32.toInt_ofNat_of_lt (by omega)]
  omega
theorem own_ofNat {i : Nat} (hi : i < 2147483648) : (Int32.ofNat i).toInt = (i : Int) := Int32.toInt_ofNat_of_lt (by omega)
theorem own_ltN {i j : Nat} (hi : i < 2147483648) (hj : j < 2147483648) : Int32.ofNat i < Int32.ofNat j ↔ i < j := by
  rw [Int32.lt_iff_toInt_lt, own_ofNat hi, own_ofNat hj]
  omega
theorem own_eqN {i j : Nat} (hi : i < 2147483648) (hj : j < 2147483648) : Int32.ofNat i = Int32.ofNat j ↔ i = j := by
  rw [← Int32.toInt_inj, own_ofNat hi, own_ofNat hj]
  omega
theorem own_nn {n : Nat} (hn : n < 2147483648) : ¬ Int32.ofNat n < 0 := by
  rw [Int32.lt_iff_toInt_lt, own_ofNat hn, show (0 : Int32).toInt = 0 from rfl]
  omega
theorem own_pred {n : Nat} (hp : 0 < n) (hn : n < 2147483648) : (Int32.ofNat n - (1 : Int32)).toInt = ((n - 1 : Nat) : Int) := by
  have h2 := c_isub (Int32.ofNat n) (1 : Int32)
  have r2 := rng32 (Int32.ofNat n - (1 : Int32))
  rw [own_ofNat hn, show (1 : Int32).toInt = 1 from rfl] at h2
  omega
theorem own_succ (i : Nat) : Int32.ofNat i + (1 : Int32) = Int32.ofNat (i + 1) := (Int32.ofNat_add i 1).symm
end Jvm.OwnW

namespace Jvm.Pilot.@@N@@
open Jvm Jvm.ClassFile Sem Op Lib Jvm.Free Jvm.Stand Jvm.LawKit Jvm.RoadKit Bundle Jvm.OwnW Jvm.Pilot.@@N@@.Jvm.D
theorem own_bb (x : Int32) : x.toInt8.toInt32.toInt8.toInt32 = x.toInt8.toInt32 := by
  rw [Int8.toInt8_toInt32]
theorem own_m7 (x : Int32) : ∃ n : Nat, n < 8 ∧ (x &&& (7 : Int32)) = Int32.ofNat n := by
  refine ⟨(x &&& 7).toBitVec.toNat, ?_, ?_⟩
  · simp only [Int32.toBitVec_and, BitVec.toNat_and]
    exact Nat.lt_succ_of_le Nat.and_le_right
  · apply Int32.toBitVec_inj.mp
    show _ = BitVec.ofNat 32 _
    rw [BitVec.ofNat_toNat]; simp
theorem own_m3 (x : Int32) : ∃ n : Nat, n < 4 ∧ (x &&& (3 : Int32)) = Int32.ofNat n := by
  refine ⟨(x &&& 3).toBitVec.toNat, ?_, ?_⟩
  · simp only [Int32.toBitVec_and, BitVec.toNat_and]
    exact Nat.lt_succ_of_le Nat.and_le_right
  · apply Int32.toBitVec_inj.mp
    show _ = BitVec.ofNat 32 _
    rw [BitVec.ofNat_toNat]; simp
theorem own_m255 (x : Int32) : ∃ n : Fin 256, (x &&& (255 : Int32)) = Int32.ofNat n.val := by
  refine ⟨⟨(x &&& 255).toBitVec.toNat, ?_⟩, ?_⟩
  · simp only [Int32.toBitVec_and, BitVec.toNat_and]
    exact Nat.lt_succ_of_le Nat.and_le_right
  · apply Int32.toBitVec_inj.mp
    show _ = BitVec.ofNat 32 _
    rw [BitVec.ofNat_toNat]; simp
/-- what the table of pick holds at place i -/
theorem own_tab (i : Nat) (hi : i < 8) : ∃ z : Int32, ([.int (61 : Int32), .int (47 : Int32), .int (48 : Int32), .int (49 : Int32), .int (57 : Int32), .int (58 : Int32), .int (-79 : Int32), .int (1 : Int32)] : List Value)[i]? = some (.int z) := by
  match i, hi with
  | 0, _ => exact ⟨_, rfl⟩
  | 1, _ => exact ⟨_, rfl⟩
  | 2, _ => exact ⟨_, rfl⟩
  | 3, _ => exact ⟨_, rfl⟩
  | 4, _ => exact ⟨_, rfl⟩
  | 5, _ => exact ⟨_, rfl⟩
  | 6, _ => exact ⟨_, rfl⟩
  | 7, _ => exact ⟨_, rfl⟩
/-- a digit's sign -/
theorem own_dg (u : Int32) : ¬ (((48 : Int32) + (u &&& (255 : Int32)) % (10 : Int32)).toInt8.toInt32) < (48 : Int32) ∧ ¬ (57 : Int32) < (((48 : Int32) + (u &&& (255 : Int32)) % (10 : Int32)).toInt8.toInt32) := by
  obtain ⟨n, hn⟩ := own_m255 u
  rw [hn]
  have : ∀ n : Fin 256, ¬ (((48 : Int32) + Int32.ofNat n.val % (10 : Int32)).toInt8.toInt32) < (48 : Int32) ∧ ¬ (57 : Int32) < (((48 : Int32) + Int32.ofNat n.val % (10 : Int32)).toInt8.toInt32) := by decide +kernel
  exact this n
/-- a digit with its bit 6 turned is none -/
theorem own_turned (z : Int32) (h1 : ¬ z < 48) (h2 : ¬ 57 < z) : (57 : Int32) < (z ^^^ (64 : Int32)).toInt8.toInt32 := by
  rw [Int32.lt_iff_toInt_lt] at h1 h2
  rw [show (48 : Int32).toInt = 48 from rfl] at h1
  rw [show (57 : Int32).toInt = 57 from rfl] at h2
  obtain ⟨n, hn, rfl⟩ : ∃ n : Nat, n < 10 ∧ z = Int32.ofNat (48 + n) := by
    refine ⟨(z.toInt - 48).toNat, by omega, ?_⟩
    apply Int32.toInt_inj.mp
    rw [own_ofNat (by omega)]
    omega
  have : ∀ n : Fin 10, (57 : Int32) < (Int32.ofNat (48 + n.val) ^^^ (64 : Int32)).toInt8.toInt32 := by decide +kernel
  exact this ⟨n, hn⟩
def own_ok (vs : List Value) (s sep : Nat) (b0 sb : Int32) : Prop := vs[s]? = some (.int b0) ∧ (∀ j, s < j → j < sep → ∃ d : Int32, vs[j]? = some (.int d) ∧ ¬ d < 48 ∧ ¬ 57 < d) ∧ vs[sep]? = some (.int sb) ∧ (sb < 48 ∨ 57 < sb)
def own_want (s e sep : Nat) (b0 sb : Int32) : Int32 := if e = s then -1 else if b0 < 49 then -1 else if 57 < b0 then -1 else if sep < e then (if sb = 61 then Int32.ofNat (sep + 1) else -1) else -1
theorem own_nine (s : Nat) (hs : s < 3) : (9 : Int32) - Int32.ofNat s = Int32.ofNat (9 - s) := by
  match s, hs with
  | 0, _ => decide
  | 1, _ => decide
  | 2, _ => decide
theorem own_n0 {m : Nat} (h0 : 0 < m) (hm : m < 2147483648) : Int32.ofNat m ≠ 0 := by
  intro q
  have := congrArg Int32.toInt q
  rw [own_ofNat hm, show (0 : Int32).toInt = 0 from rfl] at this
  omega
theorem own_nd {z : Int32} (h : (if ¬ z < (48 : Int32) ∧ ¬ (57 : Int32) < z then (1 : Int32) else (0 : Int32)) = 0) : z < 48 ∨ 57 < z := by
  by_cases h1 : z < 48
  · exact Or.inl h1
  · by_cases h2 : 57 < z
    · exact Or.inr h2
    · rw [if_pos ⟨h1, h2⟩] at h; exact absurd h (by decide)
theorem own_yd {z : Int32} (h : ¬ (if ¬ z < (48 : Int32) ∧ ¬ (57 : Int32) < z then (1 : Int32) else (0 : Int32)) = 0) : ¬ z < 48 ∧ ¬ 57 < z := Decidable.byContradiction fun q => h (if_neg q)
theorem d1_0 : decode method_3_code 0 = .ok (.lload_n 0, 1) := by decide +kernel
theorem d1_1 : decode method_3_code 1 = .ok (.bipush 8, 2) := by decide +kernel
theorem d1_3 : decode method_3_code 3 = .ok (.iload 4, 2) := by decide +kernel
theorem d1_5 : decode method_3_code 5 = .ok (.imul, 1) := by decide +kernel
theorem d1_6 : decode method_3_code 6 = .ok (.lushr, 1) := by decide +kernel
theorem d1_7 : decode method_3_code 7 = .ok (.ldc2_w 7, 3) := by decide +kernel
theorem d1_10 : decode method_3_code 10 = .ok (.land, 1) := by decide +kernel
theorem d1_11 : decode method_3_code 11 = .ok (.l2i, 1) := by decide +kernel
theorem d1_12 : decode method_3_code 12 = .ok (.lload_n 2, 1) := by decide +kernel
theorem d1_13 : decode method_3_code 13 = .ok (.iload 4, 2) := by decide +kernel
theorem d1_15 : decode method_3_code 15 = .ok (.lushr, 1) := by decide +kernel
theorem d1_16 : decode method_3_code 16 = .ok (.lconst 1, 1) := by decide +kernel
theorem d1_17 : decode method_3_code 17 = .ok (.land, 1) := by decide +kernel
theorem d1_18 : decode method_3_code 18 = .ok (.l2i, 1) := by decide +kernel
theorem d1_19 : decode method_3_code 19 = .ok (.bipush 8, 2) := by decide +kernel
theorem d1_21 : decode method_3_code 21 = .ok (.ishl, 1) := by decide +kernel
theorem d1_22 : decode method_3_code 22 = .ok (.ior, 1) := by decide +kernel
theorem d1_23 : decode method_3_code 23 = .ok (.istore 5, 2) := by decide +kernel
theorem d1_25 : decode method_3_code 25 = .ok (.iload 5, 2) := by decide +kernel
theorem d1_27 : decode method_3_code 27 = .ok (.invokestatic 9, 3) := by decide +kernel
theorem d1_30 : decode method_3_code 30 = .ok (.ireturn, 1) := by decide +kernel
theorem d2_0 : decode method_2_code 0 = .ok (.iload_n 0, 1) := by decide +kernel
theorem d2_1 : decode method_2_code 1 = .ok (.sipush 256, 3) := by decide +kernel
theorem d2_4 : decode method_2_code 4 = .ok (.iand, 1) := by decide +kernel
theorem d2_5 : decode method_2_code 5 = .ok (.ifCond .eq 56, 3) := by decide +kernel
theorem d2_8 : decode method_2_code 8 = .ok (.bipush 8, 2) := by decide +kernel
theorem d2_10 : decode method_2_code 10 = .ok (.newarray .byte, 2) := by decide +kernel
theorem d2_12 : decode method_2_code 12 = .ok (.dup, 1) := by decide +kernel
theorem d2_13 : decode method_2_code 13 = .ok (.iconst 0, 1) := by decide +kernel
theorem d2_14 : decode method_2_code 14 = .ok (.bipush 61, 2) := by decide +kernel
theorem d2_16 : decode method_2_code 16 = .ok (.bastore, 1) := by decide +kernel
theorem d2_17 : decode method_2_code 17 = .ok (.dup, 1) := by decide +kernel
theorem d2_18 : decode method_2_code 18 = .ok (.iconst 1, 1) := by decide +kernel
theorem d2_19 : decode method_2_code 19 = .ok (.bipush 47, 2) := by decide +kernel
theorem d2_21 : decode method_2_code 21 = .ok (.bastore, 1) := by decide +kernel
theorem d2_22 : decode method_2_code 22 = .ok (.dup, 1) := by decide +kernel
theorem d2_23 : decode method_2_code 23 = .ok (.iconst 2, 1) := by decide +kernel
theorem d2_24 : decode method_2_code 24 = .ok (.bipush 48, 2) := by decide +kernel
theorem d2_26 : decode method_2_code 26 = .ok (.bastore, 1) := by decide +kernel
theorem d2_27 : decode method_2_code 27 = .ok (.dup, 1) := by decide +kernel
theorem d2_28 : decode method_2_code 28 = .ok (.iconst 3, 1) := by decide +kernel
theorem d2_29 : decode method_2_code 29 = .ok (.bipush 49, 2) := by decide +kernel
theorem d2_31 : decode method_2_code 31 = .ok (.bastore, 1) := by decide +kernel
theorem d2_32 : decode method_2_code 32 = .ok (.dup, 1) := by decide +kernel
theorem d2_33 : decode method_2_code 33 = .ok (.iconst 4, 1) := by decide +kernel
theorem d2_34 : decode method_2_code 34 = .ok (.bipush 57, 2) := by decide +kernel
theorem d2_36 : decode method_2_code 36 = .ok (.bastore, 1) := by decide +kernel
theorem d2_37 : decode method_2_code 37 = .ok (.dup, 1) := by decide +kernel
theorem d2_38 : decode method_2_code 38 = .ok (.iconst 5, 1) := by decide +kernel
theorem d2_39 : decode method_2_code 39 = .ok (.bipush 58, 2) := by decide +kernel
theorem d2_41 : decode method_2_code 41 = .ok (.bastore, 1) := by decide +kernel
theorem d2_42 : decode method_2_code 42 = .ok (.dup, 1) := by decide +kernel
theorem d2_43 : decode method_2_code 43 = .ok (.bipush 6, 2) := by decide +kernel
theorem d2_45 : decode method_2_code 45 = .ok (.bipush (-79), 2) := by decide +kernel
theorem d2_47 : decode method_2_code 47 = .ok (.bastore, 1) := by decide +kernel
theorem d2_48 : decode method_2_code 48 = .ok (.dup, 1) := by decide +kernel
theorem d2_49 : decode method_2_code 49 = .ok (.bipush 7, 2) := by decide +kernel
theorem d2_51 : decode method_2_code 51 = .ok (.iconst 1, 1) := by decide +kernel
theorem d2_52 : decode method_2_code 52 = .ok (.bastore, 1) := by decide +kernel
theorem d2_53 : decode method_2_code 53 = .ok (.astore_n 1, 1) := by decide +kernel
theorem d2_54 : decode method_2_code 54 = .ok (.aload_n 1, 1) := by decide +kernel
theorem d2_55 : decode method_2_code 55 = .ok (.iload_n 0, 1) := by decide +kernel
theorem d2_56 : decode method_2_code 56 = .ok (.bipush 7, 2) := by decide +kernel
theorem d2_58 : decode method_2_code 58 = .ok (.iand, 1) := by decide +kernel
theorem d2_59 : decode method_2_code 59 = .ok (.baload, 1) := by decide +kernel
theorem d2_60 : decode method_2_code 60 = .ok (.ireturn, 1) := by decide +kernel
theorem d2_61 : decode method_2_code 61 = .ok (.iload_n 0, 1) := by decide +kernel
theorem d2_62 : decode method_2_code 62 = .ok (.i2b, 1) := by decide +kernel
theorem d2_63 : decode method_2_code 63 = .ok (.ireturn, 1) := by decide +kernel
theorem d3_0 : decode method_4_code 0 = .ok (.iload_n 0, 1) := by decide +kernel
theorem d3_1 : decode method_4_code 1 = .ok (.bipush 48, 2) := by decide +kernel
theorem d3_3 : decode method_4_code 3 = .ok (.if_icmp .lt 13, 3) := by decide +kernel
theorem d3_6 : decode method_4_code 6 = .ok (.iload_n 0, 1) := by decide +kernel
theorem d3_7 : decode method_4_code 7 = .ok (.bipush 57, 2) := by decide +kernel
theorem d3_9 : decode method_4_code 9 = .ok (.if_icmp .gt 7, 3) := by decide +kernel
theorem d3_12 : decode method_4_code 12 = .ok (.iconst 1, 1) := by decide +kernel
theorem d3_13 : decode method_4_code 13 = .ok (.goto 4, 3) := by decide +kernel
theorem d3_16 : decode method_4_code 16 = .ok (.iconst 0, 1) := by decide +kernel
theorem d3_17 : decode method_4_code 17 = .ok (.ireturn, 1) := by decide +kernel
theorem d4_0 : decode prog_24_method_11_code 0 = .ok (.iload_n 1, 1) := by decide +kernel
theorem d4_1 : decode prog_24_method_11_code 1 = .ok (.iload_n 2, 1) := by decide +kernel
theorem d4_2 : decode prog_24_method_11_code 2 = .ok (.if_icmp .eq 19, 3) := by decide +kernel
theorem d4_5 : decode prog_24_method_11_code 5 = .ok (.aload_n 0, 1) := by decide +kernel
theorem d4_6 : decode prog_24_method_11_code 6 = .ok (.iload_n 1, 1) := by decide +kernel
theorem d4_7 : decode prog_24_method_11_code 7 = .ok (.baload, 1) := by decide +kernel
theorem d4_8 : decode prog_24_method_11_code 8 = .ok (.bipush 49, 2) := by decide +kernel
theorem d4_10 : decode prog_24_method_11_code 10 = .ok (.if_icmp .lt 11, 3) := by decide +kernel
theorem d4_13 : decode prog_24_method_11_code 13 = .ok (.aload_n 0, 1) := by decide +kernel
theorem d4_14 : decode prog_24_method_11_code 14 = .ok (.iload_n 1, 1) := by decide +kernel
theorem d4_15 : decode prog_24_method_11_code 15 = .ok (.baload, 1) := by decide +kernel
theorem d4_16 : decode prog_24_method_11_code 16 = .ok (.bipush 57, 2) := by decide +kernel
theorem d4_18 : decode prog_24_method_11_code 18 = .ok (.if_icmp .le 5, 3) := by decide +kernel
theorem d4_21 : decode prog_24_method_11_code 21 = .ok (.iconst (-1), 1) := by decide +kernel
theorem d4_22 : decode prog_24_method_11_code 22 = .ok (.ireturn, 1) := by decide +kernel
theorem d4_23 : decode prog_24_method_11_code 23 = .ok (.iload_n 1, 1) := by decide +kernel
theorem d4_24 : decode prog_24_method_11_code 24 = .ok (.iconst 1, 1) := by decide +kernel
theorem d4_25 : decode prog_24_method_11_code 25 = .ok (.iadd, 1) := by decide +kernel
theorem d4_26 : decode prog_24_method_11_code 26 = .ok (.istore_n 3, 1) := by decide +kernel
theorem d4_27 : decode prog_24_method_11_code 27 = .ok (.iload_n 3, 1) := by decide +kernel
theorem d4_28 : decode prog_24_method_11_code 28 = .ok (.iload_n 2, 1) := by decide +kernel
theorem d4_29 : decode prog_24_method_11_code 29 = .ok (.if_icmp .ge 39, 3) := by decide +kernel
theorem d4_32 : decode prog_24_method_11_code 32 = .ok (.aload_n 0, 1) := by decide +kernel
theorem d4_33 : decode prog_24_method_11_code 33 = .ok (.iload_n 3, 1) := by decide +kernel
theorem d4_34 : decode prog_24_method_11_code 34 = .ok (.baload, 1) := by decide +kernel
theorem d4_35 : decode prog_24_method_11_code 35 = .ok (.bipush 61, 2) := by decide +kernel
theorem d4_37 : decode prog_24_method_11_code 37 = .ok (.if_icmp .ne 7, 3) := by decide +kernel
theorem d4_40 : decode prog_24_method_11_code 40 = .ok (.iload_n 3, 1) := by decide +kernel
theorem d4_41 : decode prog_24_method_11_code 41 = .ok (.iconst 1, 1) := by decide +kernel
theorem d4_42 : decode prog_24_method_11_code 42 = .ok (.iadd, 1) := by decide +kernel
theorem d4_43 : decode prog_24_method_11_code 43 = .ok (.ireturn, 1) := by decide +kernel
theorem d4_44 : decode prog_24_method_11_code 44 = .ok (.aload_n 0, 1) := by decide +kernel
theorem d4_45 : decode prog_24_method_11_code 45 = .ok (.iload_n 3, 1) := by decide +kernel
theorem d4_46 : decode prog_24_method_11_code 46 = .ok (.baload, 1) := by decide +kernel
theorem d4_47 : decode prog_24_method_11_code 47 = .ok (.bipush 48, 2) := by decide +kernel
theorem d4_49 : decode prog_24_method_11_code 49 = .ok (.if_icmp .lt 11, 3) := by decide +kernel
theorem d4_52 : decode prog_24_method_11_code 52 = .ok (.aload_n 0, 1) := by decide +kernel
theorem d4_53 : decode prog_24_method_11_code 53 = .ok (.iload_n 3, 1) := by decide +kernel
theorem d4_54 : decode prog_24_method_11_code 54 = .ok (.baload, 1) := by decide +kernel
theorem d4_55 : decode prog_24_method_11_code 55 = .ok (.bipush 57, 2) := by decide +kernel
theorem d4_57 : decode prog_24_method_11_code 57 = .ok (.if_icmp .le 5, 3) := by decide +kernel
theorem d4_60 : decode prog_24_method_11_code 60 = .ok (.iconst (-1), 1) := by decide +kernel
theorem d4_61 : decode prog_24_method_11_code 61 = .ok (.ireturn, 1) := by decide +kernel
theorem d4_62 : decode prog_24_method_11_code 62 = .ok (.iinc 3 1, 3) := by decide +kernel
theorem d4_65 : decode prog_24_method_11_code 65 = .ok (.goto (-38), 3) := by decide +kernel
theorem d4_68 : decode prog_24_method_11_code 68 = .ok (.iconst (-1), 1) := by decide +kernel
theorem d4_69 : decode prog_24_method_11_code 69 = .ok (.ireturn, 1) := by decide +kernel
theorem pd_0 : parseMethodDescriptor "(I)B" = some ⟨[.int], some .byte⟩ := by decide +kernel
theorem pd_1 : parseMethodDescriptor "([BII)I" = some ⟨[(.array .byte), .int, .int], some .int⟩ := by decide +kernel
theorem pd_2 : parseMethodDescriptor "(B)Z" = some ⟨[.byte], some .boolean⟩ := by decide +kernel
theorem pd_3 : parseMethodDescriptor "(JJI)B" = some ⟨[.long, .long, .int], some .byte⟩ := by decide +kernel
theorem pn_0 : plainName "io/tagwire/codec/FramingValueStartPinLaw" = true := by first | (simp [plainName, overriddenIn]; done) | decide +kernel
theorem pn_1 : plainName "io/tagwire/codec/Framing" = true := by first | (simp [plainName, overriddenIn]; done) | decide +kernel
theorem ef_p (x0 : Int32) (m : MethodId) : entryFrame m #[(.int x0)] 2 = mkF m 0 #[.val (.int x0), .unset] [] := by first | (simp [entryFrame, mkF, argsToLocals, Value.category]; done) | rfl
theorem ef_f (x0 : Int64) (x1 : Int64) (x2 : Int32) (m : MethodId) : entryFrame m #[(.long x0), (.long x1), (.int x2)] 6 = mkF m 0 #[.val (.long x0), .second, .val (.long x1), .second, .val (.int x2), .unset] [] := by first | (simp [entryFrame, mkF, argsToLocals, Value.category]; done) | rfl
theorem ef_g (x0 : Int32) (m : MethodId) : entryFrame m #[(.int x0)] 1 = mkF m 0 #[.val (.int x0)] [] := by first | (simp [entryFrame, mkF, argsToLocals, Value.category]; done) | rfl
theorem ef_v (x0 : Addr) (x1 : Int32) (x2 : Int32) (m : MethodId) : entryFrame m #[(.ref x0), (.int x1), (.int x2)] 4 = mkF m 0 #[.val (.ref x0), .val (.int x1), .val (.int x2), .unset] [] := by first | (simp [entryFrame, mkF, argsToLocals, Value.category]; done) | rfl
theorem ef_0 (x0 : Int64) (x1 : Int64) (x2 : Int32) (x3 : Int32) (x4 : Int32) (x5 : Int32) (m : MethodId) : entryFrame m #[(.long x0), (.long x1), (.int x2), (.int x3), (.int x4), (.int x5)] maxLocals = mkF m 0 #[.val (.long x0), .second, .val (.long x1), .second, .val (.int x2), .val (.int x3), .val (.int x4), .val (.int x5), .unset, .unset, .unset, .unset, .unset, .unset, .unset, .unset] [] := by first | (simp [entryFrame, mkF, argsToLocals, Value.category, maxLocals]; done) | rfl
set_option maxRecDepth 65536 in
set_option maxHeartbeats 40000000 in
theorem pick_ct {l : Launch} {Z : State} {a0 : Array Value} (hw : ∀ d ∈ tables_1, d.before a0 Z = true) (z : Int32) (h0 : Heap) (n0 : Nat) (Z0 : n0 ≤ h0.size) :
    Ct l Z (⟨"io/tagwire/codec/FramingValueStartPinLaw", "pick", "(I)B"⟩ : MethodName) method_2_code 2 (some .byte) ({ frames := 0, cells := 1, slots := 8, locals := 0 } : Room) n0 #[(.int z)] h0 (fun v h' => ∃ z : Int32, v = some (.int z) ∧ z.toInt8.toInt32 = z ∧ Keep h0 h' []) := by
  refine Ct.of (plainFor_of_name pn_0) (fun m => ef_p z m) ?_
  intro W V H r0
  have r1 : W h0 0 0 5 #[.val (.int z), .unset] [(.int (z &&& (256 : Int32)))] := (H.iand d2_4 (H.sipush (z := (256 : Int32)) d2_1 (H.iloadN d2_0 r0 rfl) rfl))
  by_cases h1 : (z &&& (256 : Int32)) = (0 : Int32)
  · have r2 : W h0 0 0 61 #[.val (.int z), .unset] [] := (H.ifYes (pc' := 61) d2_5 r1 (by decide) (by decide) (teq h1).1)
    have r4 : W h0 0 0 63 #[.val (.int z), .unset] [(.int (z.toInt8.toInt32))] := (H.i2b d2_62 (H.iloadN d2_61 r2 rfl))
    exact ⟨_, _, H.retB rfl rfl (by decide) (by decide) d2_63 r4, _, rfl, own_bb _, Keep.refl _ _⟩
  · have r3 : W h0 0 0 8 #[.val (.int z), .unset] [] := (H.ifNo d2_5 r1 (feq h1).1)
    have r5 : W h0 0 0 10 #[.val (.int z), .unset] [(.int (8 : Int32))] := (H.bipush (z := (8 : Int32)) d2_8 r3 rfl)
    obtain ⟨h6, ta, ea7, E8, A9, r10⟩ := H.newA (i := 8) (cap := 8) (d := (.int 0)) rfl rfl (hw _ (List.mem_of_getElem? (i := 0) rfl)) (by decide) (by decide) (by decide) (by decide) (by decide) d2_10 r5
    have N11 : n0 ≤ ta := by rw [ea7]; exact Z0
    have Y12 : h0.size ≤ ta := by rw [ea7]; exact (Nat.le_refl _)
    have Z13 : n0 ≤ h6.size := Nat.le_trans Z0 E8.1
    have Y14 : h0.size ≤ h6.size := Nat.le_trans (Nat.le_refl _) E8.1
    have A9l : Ary Z h6 ta .byte [.int 0, .int 0, .int 0, .int 0, .int 0, .int 0, .int 0, .int 0] := A9
    replace r10 : W h6 1 8 12 #[.val (.int z), .unset] [(.ref ta)] := r10
    have r15 : W h6 1 8 16 #[.val (.int z), .unset] [(.int (61 : Int32)), (.int (0 : Int32)), (.ref ta), (.ref ta)] := (H.bipush (z := (61 : Int32)) d2_14 (H.iconst (z := (0 : Int32)) d2_13 (H.dup d2_12 r10 rfl) rfl) rfl)
    obtain ⟨h16, w17, A18, r19⟩ := H.putB (i := 0) (z := (61 : Int32)) (by decide) A9l (by decide) (by decide : 0 < 8) N11 d2_16 r15
    have Z20 : n0 ≤ h16.size := by rw [w17.size]; exact Z13
    have Y21 : h0.size ≤ h16.size := by rw [w17.size]; exact Y14
    replace A18 : Ary Z h16 ta .byte [.int (61 : Int32), .int 0, .int 0, .int 0, .int 0, .int 0, .int 0, .int 0] := A18
    replace r19 : W h16 1 8 17 #[.val (.int z), .unset] [(.ref ta)] := r19
    have r22 : W h16 1 8 21 #[.val (.int z), .unset] [(.int (47 : Int32)), (.int (1 : Int32)), (.ref ta), (.ref ta)] := (H.bipush (z := (47 : Int32)) d2_19 (H.iconst (z := (1 : Int32)) d2_18 (H.dup d2_17 r19 rfl) rfl) rfl)
    obtain ⟨h23, w24, A25, r26⟩ := H.putB (i := 1) (z := (47 : Int32)) (by decide) A18 (by decide) (by decide : 1 < 8) N11 d2_21 r22
    have Z27 : n0 ≤ h23.size := by rw [w24.size]; exact Z20
    have Y28 : h0.size ≤ h23.size := by rw [w24.size]; exact Y21
    replace A25 : Ary Z h23 ta .byte [.int (61 : Int32), .int (47 : Int32), .int 0, .int 0, .int 0, .int 0, .int 0, .int 0] := A25
    replace r26 : W h23 1 8 22 #[.val (.int z), .unset] [(.ref ta)] := r26
    have r29 : W h23 1 8 26 #[.val (.int z), .unset] [(.int (48 : Int32)), (.int (2 : Int32)), (.ref ta), (.ref ta)] := (H.bipush (z := (48 : Int32)) d2_24 (H.iconst (z := (2 : Int32)) d2_23 (H.dup d2_22 r26 rfl) rfl) rfl)
    obtain ⟨h30, w31, A32, r33⟩ := H.putB (i := 2) (z := (48 : Int32)) (by decide) A25 (by decide) (by decide : 2 < 8) N11 d2_26 r29
    have Z34 : n0 ≤ h30.size := by rw [w31.size]; exact Z27
    have Y35 : h0.size ≤ h30.size := by rw [w31.size]; exact Y28
    replace A32 : Ary Z h30 ta .byte [.int (61 : Int32), .int (47 : Int32), .int (48 : Int32), .int 0, .int 0, .int 0, .int 0, .int 0] := A32
    replace r33 : W h30 1 8 27 #[.val (.int z), .unset] [(.ref ta)] := r33
    have r36 : W h30 1 8 31 #[.val (.int z), .unset] [(.int (49 : Int32)), (.int (3 : Int32)), (.ref ta), (.ref ta)] := (H.bipush (z := (49 : Int32)) d2_29 (H.iconst (z := (3 : Int32)) d2_28 (H.dup d2_27 r33 rfl) rfl) rfl)
    obtain ⟨h37, w38, A39, r40⟩ := H.putB (i := 3) (z := (49 : Int32)) (by decide) A32 (by decide) (by decide : 3 < 8) N11 d2_31 r36
    have Z41 : n0 ≤ h37.size := by rw [w38.size]; exact Z34
    have Y42 : h0.size ≤ h37.size := by rw [w38.size]; exact Y35
    replace A39 : Ary Z h37 ta .byte [.int (61 : Int32), .int (47 : Int32), .int (48 : Int32), .int (49 : Int32), .int 0, .int 0, .int 0, .int 0] := A39
    replace r40 : W h37 1 8 32 #[.val (.int z), .unset] [(.ref ta)] := r40
    have r43 : W h37 1 8 36 #[.val (.int z), .unset] [(.int (57 : Int32)), (.int (4 : Int32)), (.ref ta), (.ref ta)] := (H.bipush (z := (57 : Int32)) d2_34 (H.iconst (z := (4 : Int32)) d2_33 (H.dup d2_32 r40 rfl) rfl) rfl)
    obtain ⟨h44, w45, A46, r47⟩ := H.putB (i := 4) (z := (57 : Int32)) (by decide) A39 (by decide) (by decide : 4 < 8) N11 d2_36 r43
    have Z48 : n0 ≤ h44.size := by rw [w45.size]; exact Z41
    have Y49 : h0.size ≤ h44.size := by rw [w45.size]; exact Y42
    replace A46 : Ary Z h44 ta .byte [.int (61 : Int32), .int (47 : Int32), .int (48 : Int32), .int (49 : Int32), .int (57 : Int32), .int 0, .int 0, .int 0] := A46
    replace r47 : W h44 1 8 37 #[.val (.int z), .unset] [(.ref ta)] := r47
    have r50 : W h44 1 8 41 #[.val (.int z), .unset] [(.int (58 : Int32)), (.int (5 : Int32)), (.ref ta), (.ref ta)] := (H.bipush (z := (58 : Int32)) d2_39 (H.iconst (z := (5 : Int32)) d2_38 (H.dup d2_37 r47 rfl) rfl) rfl)
    obtain ⟨h51, w52, A53, r54⟩ := H.putB (i := 5) (z := (58 : Int32)) (by decide) A46 (by decide) (by decide : 5 < 8) N11 d2_41 r50
    have Z55 : n0 ≤ h51.size := by rw [w52.size]; exact Z48
    have Y56 : h0.size ≤ h51.size := by rw [w52.size]; exact Y49
    replace A53 : Ary Z h51 ta .byte [.int (61 : Int32), .int (47 : Int32), .int (48 : Int32), .int (49 : Int32), .int (57 : Int32), .int (58 : Int32), .int 0, .int 0] := A53
    replace r54 : W h51 1 8 42 #[.val (.int z), .unset] [(.ref ta)] := r54
    have r57 : W h51 1 8 47 #[.val (.int z), .unset] [(.int (-79 : Int32)), (.int (6 : Int32)), (.ref ta), (.ref ta)] := (H.bipush (z := (-79 : Int32)) d2_45 (H.bipush (z := (6 : Int32)) d2_43 (H.dup d2_42 r54 rfl) rfl) rfl)
    obtain ⟨h58, w59, A60, r61⟩ := H.putB (i := 6) (z := (-79 : Int32)) (by decide) A53 (by decide) (by decide : 6 < 8) N11 d2_47 r57
    have Z62 : n0 ≤ h58.size := by rw [w59.size]; exact Z55
    have Y63 : h0.size ≤ h58.size := by rw [w59.size]; exact Y56
    replace A60 : Ary Z h58 ta .byte [.int (61 : Int32), .int (47 : Int32), .int (48 : Int32), .int (49 : Int32), .int (57 : Int32), .int (58 : Int32), .int (-79 : Int32), .int 0] := A60
    replace r61 : W h58 1 8 48 #[.val (.int z), .unset] [(.ref ta)] := r61
    have r64 : W h58 1 8 52 #[.val (.int z), .unset] [(.int (1 : Int32)), (.int (7 : Int32)), (.ref ta), (.ref ta)] := (H.iconst (z := (1 : Int32)) d2_51 (H.bipush (z := (7 : Int32)) d2_49 (H.dup d2_48 r61 rfl) rfl) rfl)
    obtain ⟨h65, w66, A67, r68⟩ := H.putB (i := 7) (z := (1 : Int32)) (by decide) A60 (by decide) (by decide : 7 < 8) N11 d2_52 r64
    have Z69 : n0 ≤ h65.size := by rw [w66.size]; exact Z62
    have Y70 : h0.size ≤ h65.size := by rw [w66.size]; exact Y63
    replace A67 : Ary Z h65 ta .byte [.int (61 : Int32), .int (47 : Int32), .int (48 : Int32), .int (49 : Int32), .int (57 : Int32), .int (58 : Int32), .int (-79 : Int32), .int (1 : Int32)] := A67
    replace r68 : W h65 1 8 53 #[.val (.int z), .unset] [(.ref ta)] := r68
    have r71 : W h65 1 8 54 #[.val (.int z), .val (.ref ta)] [] := (H.astoreN d2_53 r68 rfl rfl)
    have r72 : W h65 1 8 59 #[.val (.int z), .val (.ref ta)] [(.int (z &&& (7 : Int32))), (.ref ta)] := (H.iand d2_58 (H.bipush (z := (7 : Int32)) d2_56 (H.iloadN d2_55 (H.aloadN d2_54 r71 rfl rfl) rfl) rfl))
    obtain ⟨i, hi, ei⟩ := own_m7 z
    obtain ⟨u, hu⟩ := own_tab i hi
    rw [ei] at r72
    have r73 : W h65 1 8 60 #[.val (.int z), .val (.ref ta)] [(.int u)] := H.ldB (i := i) (v := (.int u)) A67 (own_ofNat (by omega)) hu d2_59 r72
    exact ⟨_, _, H.retB rfl rfl (by decide) (by decide) d2_60 r73, _, rfl, own_bb _, ((((((((((Keep.refl _ _).ext E8).wr w17 (Or.inr Y12)).wr w24 (Or.inr Y12)).wr w31 (Or.inr Y12)).wr w38 (Or.inr Y12)).wr w45 (Or.inr Y12)).wr w52 (Or.inr Y12)).wr w59 (Or.inr Y12)).wr w66 (Or.inr Y12))⟩
set_option maxRecDepth 65536 in
set_option maxHeartbeats 40000000 in
theorem fill_ct {l : Launch} {Z : State} {a0 : Array Value} (hw : ∀ d ∈ tables_1, d.before a0 Z = true) (q p : Int64) (i : Int32) (h0 : Heap) (n0 : Nat) (Z0 : n0 ≤ h0.size) :
    Ct l Z (⟨"io/tagwire/codec/FramingValueStartPinLaw", "fillByte", "(JJI)B"⟩ : MethodName) method_3_code 6 (some .byte) ({ frames := 1, cells := 1, slots := 8, locals := 20 } : Room) n0 #[(.long q), (.long p), (.int i)] h0 (fun v h' => ∃ z : Int32, v = some (.int z) ∧ z.toInt8.toInt32 = z ∧ Keep h0 h' []) := by
  refine Ct.of (plainFor_of_name pn_0) (fun m => ef_f q p i m) ?_
  intro W V H r0
  have r74 : W h0 0 0 10 #[.val (.long q), .second, .val (.long p), .second, .val (.int i), .unset] [(.long (255 : Int64)), (.long ((q.toUInt64 >>> (((8 : Int32) * i) &&& 0x3f).toInt64.toUInt64).toInt64))] := (H.ldcLong d1_7 (H.lushr d1_6 (H.imul d1_5 (H.iload d1_3 (H.bipush (z := (8 : Int32)) d1_1 (H.lloadN d1_0 r0 rfl) rfl) rfl))) (hw _ (List.mem_of_getElem? (i := 5) rfl)))
  have r75 : W h0 0 0 17 #[.val (.long q), .second, .val (.long p), .second, .val (.int i), .unset] [(.long (1 : Int64)), (.long ((p.toUInt64 >>> (i &&& 0x3f).toInt64.toUInt64).toInt64)), (.int ((((q.toUInt64 >>> (((8 : Int32) * i) &&& 0x3f).toInt64.toUInt64).toInt64) &&& (255 : Int64)).toInt32))] := (H.lconst (z := (1 : Int64)) d1_16 (H.lushr d1_15 (H.iload d1_13 (H.lloadN d1_12 (H.l2i d1_11 (H.land d1_10 r74)) rfl) rfl)) rfl)
  have r76 : W h0 0 0 25 #[.val (.long q), .second, .val (.long p), .second, .val (.int i), .val (.int (((((q.toUInt64 >>> (((8 : Int32) * i) &&& 0x3f).toInt64.toUInt64).toInt64) &&& (255 : Int64)).toInt32) ||| (((((p.toUInt64 >>> (i &&& 0x3f).toInt64.toUInt64).toInt64) &&& (1 : Int64)).toInt32) <<< ((8 : Int32) &&& 31))))] [] := (H.istore d1_23 (H.ior d1_22 (H.ishl d1_21 (H.bipush (z := (8 : Int32)) d1_19 (H.l2i d1_18 (H.land d1_17 r75)) rfl))) rfl)
  have r77 : W h0 0 0 27 #[.val (.long q), .second, .val (.long p), .second, .val (.int i), .val (.int (((((q.toUInt64 >>> (((8 : Int32) * i) &&& 0x3f).toInt64.toUInt64).toInt64) &&& (255 : Int64)).toInt32) ||| (((((p.toUInt64 >>> (i &&& 0x3f).toInt64.toUInt64).toInt64) &&& (1 : Int64)).toInt32) <<< ((8 : Int32) &&& 31))))] [(.int (((((q.toUInt64 >>> (((8 : Int32) * i) &&& 0x3f).toInt64.toUInt64).toInt64) &&& (255 : Int64)).toInt32) ||| (((((p.toUInt64 >>> (i &&& 0x3f).toInt64.toUInt64).toInt64) &&& (1 : Int64)).toInt32) <<< ((8 : Int32) &&& 31))))] := (H.iload d1_25 r76 rfl)
  obtain ⟨_, h1, ⟨z, rfl, hz, K1⟩, r78⟩ := H.callS (w := 0) (argsL := [(.int (((((q.toUInt64 >>> (((8 : Int32) * i) &&& 0x3f).toInt64.toUInt64).toInt64) &&& (255 : Int64)).toInt32) ||| (((((p.toUInt64 >>> (i &&& 0x3f).toInt64.toUInt64).toInt64) &&& (1 : Int64)).toInt32) <<< ((8 : Int32) &&& 31))))]) (rest := []) (hw _ (List.mem_of_getElem? (i := 6) rfl)) (hw _ (List.mem_of_getElem? (i := 7) rfl)) (hw _ (List.mem_of_getElem? (i := 3) rfl)) (hw _ (List.mem_of_getElem? (i := 8) rfl)) (by decide) pd_0 (by decide) (by decide) (by decide) (by decide) (pick_ct hw (((((q.toUInt64 >>> (((8 : Int32) * i) &&& 0x3f).toInt64.toUInt64).toInt64) &&& (255 : Int64)).toInt32) ||| (((((p.toUInt64 >>> (i &&& 0x3f).toInt64.toUInt64).toInt64) &&& (1 : Int64)).toInt32) <<< ((8 : Int32) &&& 31))) h0 n0 Z0) rfl rfl (Nat.le_of_eq rfl) rfl d1_27 r77
  have Z79 : n0 ≤ h1.size := Nat.le_trans Z0 K1.1
  have Y80 : h0.size ≤ h1.size := Nat.le_trans (Nat.le_refl _) K1.1
  replace r78 : W h1 1 8 30 #[.val (.long q), .second, .val (.long p), .second, .val (.int i), .val (.int (((((q.toUInt64 >>> (((8 : Int32) * i) &&& 0x3f).toInt64.toUInt64).toInt64) &&& (255 : Int64)).toInt32) ||| (((((p.toUInt64 >>> (i &&& 0x3f).toInt64.toUInt64).toInt64) &&& (1 : Int64)).toInt32) <<< ((8 : Int32) &&& 31))))] [(.int z)] := r78
  exact ⟨_, _, H.retB hz rfl (Nat.le_refl _) (Nat.le_refl _) d1_30 r78, z, rfl, hz, K1⟩
set_option maxRecDepth 65536 in
set_option maxHeartbeats 40000000 in
theorem isd_ct {l : Launch} {Z : State} {a0 : Array Value} (hw : ∀ d ∈ tables_1, d.before a0 Z = true) (z : Int32) (h0 : Heap) (n0 : Nat) :
    Ct l Z (⟨"io/tagwire/codec/FramingValueStartPinLaw", "isDigit", "(B)Z"⟩ : MethodName) method_4_code 1 (some .boolean) ({ frames := 0, cells := 0, slots := 0, locals := 0 } : Room) n0 #[(.int z)] h0 (fun v h' => v = some (.int (if ¬ z < (48 : Int32) ∧ ¬ (57 : Int32) < z then (1 : Int32) else (0 : Int32))) ∧ h' = h0) := by
  refine Ct.of (plainFor_of_name pn_0) (fun m => ef_g z m) ?_
  intro W V H r0
  have r81 : W h0 0 0 3 #[.val (.int z)] [(.int (48 : Int32)), (.int z)] := (H.bipush (z := (48 : Int32)) d3_1 (H.iloadN d3_0 r0 rfl) rfl)
  by_cases h1 : z < (48 : Int32)
  · have r82 : W h0 0 0 16 #[.val (.int z)] [] := (H.icmpYes (pc' := 16) d3_3 r81 (by decide) (by decide) (tlt h1).1)
    have r84 : W h0 0 0 17 #[.val (.int z)] [(.int (0 : Int32))] := (H.iconst (z := (0 : Int32)) d3_16 r82 rfl)
    exact ⟨_, _, H.retZ (z' := (0 : Int32)) rfl rfl (Nat.le_refl _) (Nat.le_refl _) d3_17 r84, by rw [if_neg (fun u => u.1 h1)], rfl⟩
  · have r83 : W h0 0 0 6 #[.val (.int z)] [] := (H.icmpNo d3_3 r81 (flt h1).1)
    have r85 : W h0 0 0 9 #[.val (.int z)] [(.int (57 : Int32)), (.int z)] := (H.bipush (z := (57 : Int32)) d3_7 (H.iloadN d3_6 r83 rfl) rfl)
    by_cases h2 : (57 : Int32) < z
    · have r86 : W h0 0 0 16 #[.val (.int z)] [] := (H.icmpYes (pc' := 16) d3_9 r85 (by decide) (by decide) (tlt h2).2.2.1)
      have r88 : W h0 0 0 17 #[.val (.int z)] [(.int (0 : Int32))] := (H.iconst (z := (0 : Int32)) d3_16 r86 rfl)
      exact ⟨_, _, H.retZ (z' := (0 : Int32)) rfl rfl (Nat.le_refl _) (Nat.le_refl _) d3_17 r88, by rw [if_neg (fun u => u.2 h2)], rfl⟩
    · have r87 : W h0 0 0 12 #[.val (.int z)] [] := (H.icmpNo d3_9 r85 (flt h2).2.2.1)
      have r89 : W h0 0 0 17 #[.val (.int z)] [(.int (1 : Int32))] := (H.goto (pc' := 17) d3_13 (H.iconst (z := (1 : Int32)) d3_12 r87 rfl) (by decide) (by decide))
      exact ⟨_, _, H.retZ (z' := (1 : Int32)) rfl rfl (Nat.le_refl _) (Nat.le_refl _) d3_17 r89, by rw [if_pos ⟨h1, h2⟩], rfl⟩
set_option maxRecDepth 65536 in
set_option maxHeartbeats 40000000 in
theorem vs_loop {l : Launch} {Z : State} {y : MethodName} {mx : Nat} {ret : Option FieldType} {R : Room} {n0 : Nat} {W : WT} {V : VT} {h0 : Heap} {vs : List Value} {a : Addr} (H : Wk l Z y prog_24_method_11_code mx ret R n0 W V) (hret : ret = some .int) (hk0 : 0 ≤ R.cells) (hn0 : 0 ≤ R.slots) (A0 : Ary Z h0 a .byte vs) (s e sep : Nat) (b0 sb : Int32) (hsep : sep ≤ 6) (he : e ≤ 8) (hok : own_ok vs s sep b0 sb) (hb1 : ¬ b0 < 49) (hb2 : ¬ 57 < b0) :
    ∀ (k i : Nat), i + k = sep → s < i → W h0 0 0 27 #[.val (.ref a), .val (.int (Int32.ofNat s)), .val (.int (Int32.ofNat e)), .val (.int (Int32.ofNat i))] [] → V (some (.int (own_want s e sep b0 sb))) h0 := by
  intro k
  induction k with
  | zero =>
    intro i hik hs r0
    obtain rfl : i = sep := hik
    have r90 : W h0 0 0 29 #[.val (.ref a), .val (.int (Int32.ofNat s)), .val (.int (Int32.ofNat e)), .val (.int (Int32.ofNat i))] [(.int (Int32.ofNat e)), (.int (Int32.ofNat i))] := (H.iloadN d4_28 (H.iloadN d4_27 r0 rfl) rfl)
    by_cases h1 : (Int32.ofNat i) < (Int32.ofNat e)
    · have r91 : W h0 0 0 32 #[.val (.ref a), .val (.int (Int32.ofNat s)), .val (.int (Int32.ofNat e)), .val (.int (Int32.ofNat i))] [] := (H.icmpNo d4_29 r90 (tlt h1).2.1)
      have r93 : W h0 0 0 34 #[.val (.ref a), .val (.int (Int32.ofNat s)), .val (.int (Int32.ofNat e)), .val (.int (Int32.ofNat i))] [(.int (Int32.ofNat i)), (.ref a)] := (H.iloadN d4_33 (H.aloadN d4_32 r91 rfl rfl) rfl)
      have r94 : W h0 0 0 35 #[.val (.ref a), .val (.int (Int32.ofNat s)), .val (.int (Int32.ofNat e)), .val (.int (Int32.ofNat i))] [(.int sb)] := H.ldB (i := i) (v := (.int sb)) A0 (own_ofNat (by omega)) hok.2.2.1 d4_34 r93
      have r95 : W h0 0 0 37 #[.val (.ref a), .val (.int (Int32.ofNat s)), .val (.int (Int32.ofNat e)), .val (.int (Int32.ofNat i))] [(.int (61 : Int32)), (.int sb)] := (H.bipush (z := (61 : Int32)) d4_35 r94 rfl)
      by_cases h2 : sb = (61 : Int32)
      · have r96 : W h0 0 0 40 #[.val (.ref a), .val (.int (Int32.ofNat s)), .val (.int (Int32.ofNat e)), .val (.int (Int32.ofNat i))] [] := (H.icmpNo d4_37 r95 (teq h2).2)
        have r98 : W h0 0 0 43 #[.val (.ref a), .val (.int (Int32.ofNat s)), .val (.int (Int32.ofNat e)), .val (.int (Int32.ofNat i))] [(.int ((Int32.ofNat i) + (1 : Int32)))] := (H.iadd d4_42 (H.iconst (z := (1 : Int32)) d4_41 (H.iloadN d4_40 r96 rfl) rfl))
        rw [own_succ] at r98
        have hse : i < e := (own_ltN (by omega) (by omega)).mp h1
        have hwt : own_want s e i b0 sb = Int32.ofNat (i + 1) := by rw [own_want, if_neg (by omega), if_neg hb1, if_neg hb2, if_pos hse, if_pos h2]
        rw [hwt]
        exact H.retI hret hk0 hn0 d4_43 r98
      · have r97 : W h0 0 0 44 #[.val (.ref a), .val (.int (Int32.ofNat s)), .val (.int (Int32.ofNat e)), .val (.int (Int32.ofNat i))] [] := (H.icmpYes (pc' := 44) d4_37 r95 (by decide) (by decide) (feq h2).2)
        have hse : i < e := (own_ltN (by omega) (by omega)).mp h1
        have hwt : own_want s e i b0 sb = -1 := by rw [own_want, if_neg (by omega), if_neg hb1, if_neg hb2, if_pos hse, if_neg h2]
        rw [hwt]
        have r99 : W h0 0 0 46 #[.val (.ref a), .val (.int (Int32.ofNat s)), .val (.int (Int32.ofNat e)), .val (.int (Int32.ofNat i))] [(.int (Int32.ofNat i)), (.ref a)] := (H.iloadN d4_45 (H.aloadN d4_44 r97 rfl rfl) rfl)
        have r100 : W h0 0 0 47 #[.val (.ref a), .val (.int (Int32.ofNat s)), .val (.int (Int32.ofNat e)), .val (.int (Int32.ofNat i))] [(.int sb)] := H.ldB (i := i) (v := (.int sb)) A0 (own_ofNat (by omega)) hok.2.2.1 d4_46 r99
        have r101 : W h0 0 0 49 #[.val (.ref a), .val (.int (Int32.ofNat s)), .val (.int (Int32.ofNat e)), .val (.int (Int32.ofNat i))] [(.int (48 : Int32)), (.int sb)] := (H.bipush (z := (48 : Int32)) d4_47 r100 rfl)
        by_cases h3 : sb < (48 : Int32)
        · have r102 : W h0 0 0 60 #[.val (.ref a), .val (.int (Int32.ofNat s)), .val (.int (Int32.ofNat e)), .val (.int (Int32.ofNat i))] [] := (H.icmpYes (pc' := 60) d4_49 r101 (by decide) (by decide) (tlt h3).1)
          have r104 : W h0 0 0 61 #[.val (.ref a), .val (.int (Int32.ofNat s)), .val (.int (Int32.ofNat e)), .val (.int (Int32.ofNat i))] [(.int (-1 : Int32))] := (H.iconst (z := (-1 : Int32)) d4_60 r102 rfl)
          exact H.retI hret hk0 hn0 d4_61 r104
        · have r103 : W h0 0 0 52 #[.val (.ref a), .val (.int (Int32.ofNat s)), .val (.int (Int32.ofNat e)), .val (.int (Int32.ofNat i))] [] := (H.icmpNo d4_49 r101 (flt h3).1)
          have r105 : W h0 0 0 54 #[.val (.ref a), .val (.int (Int32.ofNat s)), .val (.int (Int32.ofNat e)), .val (.int (Int32.ofNat i))] [(.int (Int32.ofNat i)), (.ref a)] := (H.iloadN d4_53 (H.aloadN d4_52 r103 rfl rfl) rfl)
          have r106 : W h0 0 0 55 #[.val (.ref a), .val (.int (Int32.ofNat s)), .val (.int (Int32.ofNat e)), .val (.int (Int32.ofNat i))] [(.int sb)] := H.ldB (i := i) (v := (.int sb)) A0 (own_ofNat (by omega)) hok.2.2.1 d4_54 r105
          have r107 : W h0 0 0 60 #[.val (.ref a), .val (.int (Int32.ofNat s)), .val (.int (Int32.ofNat e)), .val (.int (Int32.ofNat i))] [] := (H.icmpNo d4_57 (H.bipush (z := (57 : Int32)) d4_55 r106 rfl) (tlt (hok.2.2.2.resolve_left h3)).2.2.2)
          have r108 : W h0 0 0 61 #[.val (.ref a), .val (.int (Int32.ofNat s)), .val (.int (Int32.ofNat e)), .val (.int (Int32.ofNat i))] [(.int (-1 : Int32))] := (H.iconst (z := (-1 : Int32)) d4_60 r107 rfl)
          exact H.retI hret hk0 hn0 d4_61 r108
    · have r92 : W h0 0 0 68 #[.val (.ref a), .val (.int (Int32.ofNat s)), .val (.int (Int32.ofNat e)), .val (.int (Int32.ofNat i))] [] := (H.icmpYes (pc' := 68) d4_29 r90 (by decide) (by decide) (flt h1).2.1)
      have hse : ¬ i < e := fun u => h1 ((own_ltN (by omega) (by omega)).mpr u)
      have hwt : own_want s e i b0 sb = -1 := by rw [own_want]; split <;> first | rfl | rw [if_neg hb1, if_neg hb2, if_neg hse]
      rw [hwt]
      have r109 : W h0 0 0 69 #[.val (.ref a), .val (.int (Int32.ofNat s)), .val (.int (Int32.ofNat e)), .val (.int (Int32.ofNat i))] [(.int (-1 : Int32))] := (H.iconst (z := (-1 : Int32)) d4_68 r92 rfl)
      exact H.retI hret hk0 hn0 d4_69 r109
  | succ k ih =>
    intro i hik hs r0
    obtain ⟨d, hd, hd1, hd2⟩ := hok.2.1 i hs (by omega)
    have r110 : W h0 0 0 29 #[.val (.ref a), .val (.int (Int32.ofNat s)), .val (.int (Int32.ofNat e)), .val (.int (Int32.ofNat i))] [(.int (Int32.ofNat e)), (.int (Int32.ofNat i))] := (H.iloadN d4_28 (H.iloadN d4_27 r0 rfl) rfl)
    by_cases h1 : (Int32.ofNat i) < (Int32.ofNat e)
    · have r111 : W h0 0 0 32 #[.val (.ref a), .val (.int (Int32.ofNat s)), .val (.int (Int32.ofNat e)), .val (.int (Int32.ofNat i))] [] := (H.icmpNo d4_29 r110 (tlt h1).2.1)
      have r113 : W h0 0 0 34 #[.val (.ref a), .val (.int (Int32.ofNat s)), .val (.int (Int32.ofNat e)), .val (.int (Int32.ofNat i))] [(.int (Int32.ofNat i)), (.ref a)] := (H.iloadN d4_33 (H.aloadN d4_32 r111 rfl rfl) rfl)
      have r114 : W h0 0 0 35 #[.val (.ref a), .val (.int (Int32.ofNat s)), .val (.int (Int32.ofNat e)), .val (.int (Int32.ofNat i))] [(.int d)] := H.ldB (i := i) (v := (.int d)) A0 (own_ofNat (by omega)) hd d4_34 r113
      have r115 : W h0 0 0 44 #[.val (.ref a), .val (.int (Int32.ofNat s)), .val (.int (Int32.ofNat e)), .val (.int (Int32.ofNat i))] [] := (H.icmpYes (pc' := 44) d4_37 (H.bipush (z := (61 : Int32)) d4_35 r114 rfl) (by decide) (by decide) (feq (fun u => hd2 (by rw [u]; decide))).2)
      have r116 : W h0 0 0 46 #[.val (.ref a), .val (.int (Int32.ofNat s)), .val (.int (Int32.ofNat e)), .val (.int (Int32.ofNat i))] [(.int (Int32.ofNat i)), (.ref a)] := (H.iloadN d4_45 (H.aloadN d4_44 r115 rfl rfl) rfl)
      have r117 : W h0 0 0 47 #[.val (.ref a), .val (.int (Int32.ofNat s)), .val (.int (Int32.ofNat e)), .val (.int (Int32.ofNat i))] [(.int d)] := H.ldB (i := i) (v := (.int d)) A0 (own_ofNat (by omega)) hd d4_46 r116
      have r118 : W h0 0 0 52 #[.val (.ref a), .val (.int (Int32.ofNat s)), .val (.int (Int32.ofNat e)), .val (.int (Int32.ofNat i))] [] := (H.icmpNo d4_49 (H.bipush (z := (48 : Int32)) d4_47 r117 rfl) (flt hd1).1)
      have r119 : W h0 0 0 54 #[.val (.ref a), .val (.int (Int32.ofNat s)), .val (.int (Int32.ofNat e)), .val (.int (Int32.ofNat i))] [(.int (Int32.ofNat i)), (.ref a)] := (H.iloadN d4_53 (H.aloadN d4_52 r118 rfl rfl) rfl)
      have r120 : W h0 0 0 55 #[.val (.ref a), .val (.int (Int32.ofNat s)), .val (.int (Int32.ofNat e)), .val (.int (Int32.ofNat i))] [(.int d)] := H.ldB (i := i) (v := (.int d)) A0 (own_ofNat (by omega)) hd d4_54 r119
      have r121 : W h0 0 0 62 #[.val (.ref a), .val (.int (Int32.ofNat s)), .val (.int (Int32.ofNat e)), .val (.int (Int32.ofNat i))] [] := (H.icmpYes (pc' := 62) d4_57 (H.bipush (z := (57 : Int32)) d4_55 r120 rfl) (by decide) (by decide) (flt hd2).2.2.2)
      have r122 : W h0 0 0 65 #[.val (.ref a), .val (.int (Int32.ofNat s)), .val (.int (Int32.ofNat e)), .val (.int ((Int32.ofNat i) + (1 : Int32)))] [] := (H.iinc (z := ((Int32.ofNat i) + (1 : Int32))) d4_62 r121 rfl rfl rfl)
      rw [own_succ] at r122
      have r123 : W h0 0 0 27 #[.val (.ref a), .val (.int (Int32.ofNat s)), .val (.int (Int32.ofNat e)), .val (.int (Int32.ofNat (i + 1)))] [] := (H.goto (pc' := 27) d4_65 r122 (by decide) (by decide))
      exact ih (i + 1) (by omega) (by omega) r123
    · have r112 : W h0 0 0 68 #[.val (.ref a), .val (.int (Int32.ofNat s)), .val (.int (Int32.ofNat e)), .val (.int (Int32.ofNat i))] [] := (H.icmpYes (pc' := 68) d4_29 r110 (by decide) (by decide) (flt h1).2.1)
      have hse : ¬ sep < e := fun u => h1 ((own_ltN (by omega) (by omega)).mpr (by omega))
      have hwt : own_want s e sep b0 sb = -1 := by rw [own_want]; split <;> first | rfl | rw [if_neg hb1, if_neg hb2, if_neg hse]
      rw [hwt]
      have r124 : W h0 0 0 69 #[.val (.ref a), .val (.int (Int32.ofNat s)), .val (.int (Int32.ofNat e)), .val (.int (Int32.ofNat i))] [(.int (-1 : Int32))] := (H.iconst (z := (-1 : Int32)) d4_68 r112 rfl)
      exact H.retI hret hk0 hn0 d4_69 r124
set_option maxRecDepth 65536 in
set_option maxHeartbeats 40000000 in
theorem vst_ct {l : Launch} {Z : State} {a0 : Array Value} (hw : ∀ d ∈ tables_1, d.before a0 Z = true) {vs : List Value} (a : Addr) (s e sep : Nat) (b0 sb : Int32) (hss : s < sep) (hsep : sep ≤ 6) (he : e ≤ 8) (hse : s ≤ e) (hok : own_ok vs s sep b0 sb) (h0 : Heap) (n0 : Nat) (A0 : Ary Z h0 a .byte vs) :
    Ct l Z (⟨"io/tagwire/codec/Framing", "valueStart", "([BII)I"⟩ : MethodName) prog_24_method_11_code 4 (some .int) ({ frames := 0, cells := 0, slots := 0, locals := 0 } : Room) n0 #[(.ref a), (.int (Int32.ofNat s)), (.int (Int32.ofNat e))] h0 (fun v h' => v = some (.int (own_want s e sep b0 sb)) ∧ h' = h0) := by
  refine Ct.of (plainFor_of_name pn_1) (fun m => ef_v a (Int32.ofNat s) (Int32.ofNat e) m) ?_
  intro W V H r0
  have r125 : W h0 0 0 2 #[.val (.ref a), .val (.int (Int32.ofNat s)), .val (.int (Int32.ofNat e)), .unset] [(.int (Int32.ofNat e)), (.int (Int32.ofNat s))] := (H.iloadN d4_1 (H.iloadN d4_0 r0 rfl) rfl)
  by_cases h0e : (Int32.ofNat s) = (Int32.ofNat e)
  · have r126 : W h0 0 0 21 #[.val (.ref a), .val (.int (Int32.ofNat s)), .val (.int (Int32.ofNat e)), .unset] [] := (H.icmpYes (pc' := 21) d4_2 r125 (by decide) (by decide) (teq h0e).1)
    have r128 : W h0 0 0 22 #[.val (.ref a), .val (.int (Int32.ofNat s)), .val (.int (Int32.ofNat e)), .unset] [(.int (-1 : Int32))] := (H.iconst (z := (-1 : Int32)) d4_21 r126 rfl)
    exact ⟨_, _, H.retI rfl (Nat.le_refl _) (Nat.le_refl _) d4_22 r128, by rw [own_want, if_pos ((own_eqN (by omega) (by omega)).mp h0e).symm], rfl⟩
  · have r127 : W h0 0 0 5 #[.val (.ref a), .val (.int (Int32.ofNat s)), .val (.int (Int32.ofNat e)), .unset] [] := (H.icmpNo d4_2 r125 (feq h0e).1)
    have r129 : W h0 0 0 7 #[.val (.ref a), .val (.int (Int32.ofNat s)), .val (.int (Int32.ofNat e)), .unset] [(.int (Int32.ofNat s)), (.ref a)] := (H.iloadN d4_6 (H.aloadN d4_5 r127 rfl rfl) rfl)
    have r130 : W h0 0 0 8 #[.val (.ref a), .val (.int (Int32.ofNat s)), .val (.int (Int32.ofNat e)), .unset] [(.int b0)] := H.ldB (i := s) (v := (.int b0)) A0 (own_ofNat (by omega)) hok.1 d4_7 r129
    have r131 : W h0 0 0 10 #[.val (.ref a), .val (.int (Int32.ofNat s)), .val (.int (Int32.ofNat e)), .unset] [(.int (49 : Int32)), (.int b0)] := (H.bipush (z := (49 : Int32)) d4_8 r130 rfl)
    by_cases h1 : b0 < (49 : Int32)
    · have r132 : W h0 0 0 21 #[.val (.ref a), .val (.int (Int32.ofNat s)), .val (.int (Int32.ofNat e)), .unset] [] := (H.icmpYes (pc' := 21) d4_10 r131 (by decide) (by decide) (tlt h1).1)
      have r134 : W h0 0 0 22 #[.val (.ref a), .val (.int (Int32.ofNat s)), .val (.int (Int32.ofNat e)), .unset] [(.int (-1 : Int32))] := (H.iconst (z := (-1 : Int32)) d4_21 r132 rfl)
      exact ⟨_, _, H.retI rfl (Nat.le_refl _) (Nat.le_refl _) d4_22 r134, by rw [own_want, if_neg (fun u => h0e ((own_eqN (by omega) (by omega)).mpr u.symm)), if_pos h1], rfl⟩
    · have r133 : W h0 0 0 13 #[.val (.ref a), .val (.int (Int32.ofNat s)), .val (.int (Int32.ofNat e)), .unset] [] := (H.icmpNo d4_10 r131 (flt h1).1)
      have r135 : W h0 0 0 15 #[.val (.ref a), .val (.int (Int32.ofNat s)), .val (.int (Int32.ofNat e)), .unset] [(.int (Int32.ofNat s)), (.ref a)] := (H.iloadN d4_14 (H.aloadN d4_13 r133 rfl rfl) rfl)
      have r136 : W h0 0 0 16 #[.val (.ref a), .val (.int (Int32.ofNat s)), .val (.int (Int32.ofNat e)), .unset] [(.int b0)] := H.ldB (i := s) (v := (.int b0)) A0 (own_ofNat (by omega)) hok.1 d4_15 r135
      have r137 : W h0 0 0 18 #[.val (.ref a), .val (.int (Int32.ofNat s)), .val (.int (Int32.ofNat e)), .unset] [(.int (57 : Int32)), (.int b0)] := (H.bipush (z := (57 : Int32)) d4_16 r136 rfl)
      by_cases h2 : (57 : Int32) < b0
      · have r138 : W h0 0 0 21 #[.val (.ref a), .val (.int (Int32.ofNat s)), .val (.int (Int32.ofNat e)), .unset] [] := (H.icmpNo d4_18 r137 (tlt h2).2.2.2)
        have r140 : W h0 0 0 22 #[.val (.ref a), .val (.int (Int32.ofNat s)), .val (.int (Int32.ofNat e)), .unset] [(.int (-1 : Int32))] := (H.iconst (z := (-1 : Int32)) d4_21 r138 rfl)
        exact ⟨_, _, H.retI rfl (Nat.le_refl _) (Nat.le_refl _) d4_22 r140, by rw [own_want, if_neg (fun u => h0e ((own_eqN (by omega) (by omega)).mpr u.symm)), if_neg h1, if_pos h2], rfl⟩
      · have r139 : W h0 0 0 23 #[.val (.ref a), .val (.int (Int32.ofNat s)), .val (.int (Int32.ofNat e)), .unset] [] := (H.icmpYes (pc' := 23) d4_18 r137 (by decide) (by decide) (flt h2).2.2.2)
        have r141 : W h0 0 0 27 #[.val (.ref a), .val (.int (Int32.ofNat s)), .val (.int (Int32.ofNat e)), .val (.int ((Int32.ofNat s) + (1 : Int32)))] [] := (H.istoreN d4_26 (H.iadd d4_25 (H.iconst (z := (1 : Int32)) d4_24 (H.iloadN d4_23 r139 rfl) rfl)) rfl)
        rw [own_succ] at r141
        exact ⟨_, _, vs_loop H rfl (Nat.le_refl _) (Nat.le_refl _) A0 s e sep b0 sb hsep he hok h1 h2 (sep - (s + 1)) (s + 1) (by omega) (by omega) r141, rfl, rfl⟩
set_option maxRecDepth 65536 in
set_option maxHeartbeats 40000000 in
theorem tail {l : Launch} {Z : State} {a0 : Array Value} (hw : ∀ d ∈ tables_1, d.before a0 Z = true) {n0 : Nat} {W : WT} {V : VT} {h0 : Heap} {vs : List Value} (fl md : Int64) (first tag sp place b0 sb : Int32) (ma : Addr) (s t sep : Nat) (hs : s < 3) (hsep : sep ≤ 6) (hss : s < sep) (hok : own_ok vs s sep b0 sb) (A0 : Ary Z h0 ma .byte vs) (H : Wk l Z Jvm.Pilot.@@N@@.x code maxLocals ret room_1 n0 W V) (r0 : W h0 11 88 252 #[.val (.long fl), .second, .val (.long md), .second, .val (.int first), .val (.int tag), .val (.int sp), .val (.int place), .val (.ref ma), .val (.int (Int32.ofNat s)), .val (.int (Int32.ofNat t)), .val (.int b0), .val (.int (Int32.ofNat sep)), .val (.int sb), .unset, .unset] []) : ∃ v h', V v h' ∧ v = some (.int 1) := by
  have r142 : W h0 11 88 261 #[.val (.long fl), .second, .val (.long md), .second, .val (.int first), .val (.int tag), .val (.int sp), .val (.int place), .val (.ref ma), .val (.int (Int32.ofNat s)), .val (.int (Int32.ofNat t)), .val (.int b0), .val (.int (Int32.ofNat sep)), .val (.int sb), .unset, .unset] [(.int (((place.toUInt32 >>> ((2 : Int32) &&& 31).toUInt32).toInt32) &&& (2147483647 : Int32))), (.int (Int32.ofNat s))] := (H.iand at_260 (H.ldcInt at_258 (H.iushr at_257 (H.iconst (z := (2 : Int32)) at_256 (H.iload at_254 (H.iload at_252 r0 rfl) rfl) rfl)) (hw _ (List.mem_of_getElem? (i := 9) rfl))))
  have r143 : W h0 11 88 266 #[.val (.long fl), .second, .val (.long md), .second, .val (.int first), .val (.int tag), .val (.int sp), .val (.int place), .val (.ref ma), .val (.int (Int32.ofNat s)), .val (.int (Int32.ofNat t)), .val (.int b0), .val (.int (Int32.ofNat sep)), .val (.int sb), .unset, .unset] [(.int ((9 : Int32) - (Int32.ofNat s))), (.int (((place.toUInt32 >>> ((2 : Int32) &&& 31).toUInt32).toInt32) &&& (2147483647 : Int32))), (.int (Int32.ofNat s))] := (H.isub at_265 (H.iload at_263 (H.bipush (z := (9 : Int32)) at_261 r142 rfl) rfl))
  have hden : ((9 : Int32) - (Int32.ofNat s)) = Int32.ofNat (9 - s) := own_nine s hs
  rw [hden] at r143
  have r144 : W h0 11 88 267 #[.val (.long fl), .second, .val (.long md), .second, .val (.int first), .val (.int tag), .val (.int sp), .val (.int place), .val (.ref ma), .val (.int (Int32.ofNat s)), .val (.int (Int32.ofNat t)), .val (.int b0), .val (.int (Int32.ofNat sep)), .val (.int sb), .unset, .unset] [(.int ((((place.toUInt32 >>> ((2 : Int32) &&& 31).toUInt32).toInt32) &&& (2147483647 : Int32)) % (Int32.ofNat (9 - s)))), (.int (Int32.ofNat s))] := (H.irem at_266 r143 (own_n0 (by omega) (by omega)))
  obtain ⟨j, hj, ej⟩ := own_modn ((place.toUInt32 >>> ((2 : Int32) &&& 31).toUInt32).toInt32) (9 - s) (by omega) (by omega)
  rw [ej] at r144
  have r145 : W h0 11 88 268 #[.val (.long fl), .second, .val (.long md), .second, .val (.int first), .val (.int tag), .val (.int sp), .val (.int place), .val (.ref ma), .val (.int (Int32.ofNat s)), .val (.int (Int32.ofNat t)), .val (.int b0), .val (.int (Int32.ofNat sep)), .val (.int sb), .unset, .unset] [(.int ((Int32.ofNat s) + (Int32.ofNat j)))] := (H.iadd at_267 r144)
  rw [← Int32.ofNat_add] at r145
  have r146 : W h0 11 88 270 #[.val (.long fl), .second, .val (.long md), .second, .val (.int first), .val (.int tag), .val (.int sp), .val (.int place), .val (.ref ma), .val (.int (Int32.ofNat s)), .val (.int (Int32.ofNat t)), .val (.int b0), .val (.int (Int32.ofNat sep)), .val (.int sb), .val (.int (Int32.ofNat (s + j))), .unset] [] := (H.istore at_268 r145 rfl)
  obtain ⟨e, he⟩ : ∃ e, e = s + j := ⟨_, rfl⟩
  rw [← he] at r146
  have rJ : W h0 11 88 335 #[.val (.long fl), .second, .val (.long md), .second, .val (.int first), .val (.int tag), .val (.int sp), .val (.int place), .val (.ref ma), .val (.int (Int32.ofNat s)), .val (.int (Int32.ofNat t)), .val (.int b0), .val (.int (Int32.ofNat sep)), .val (.int sb), .val (.int (Int32.ofNat e)), .val (.int (own_want s e sep b0 sb))] [] := by
    have r147 : W h0 11 88 274 #[.val (.long fl), .second, .val (.long md), .second, .val (.int first), .val (.int tag), .val (.int sp), .val (.int place), .val (.ref ma), .val (.int (Int32.ofNat s)), .val (.int (Int32.ofNat t)), .val (.int b0), .val (.int (Int32.ofNat sep)), .val (.int sb), .val (.int (Int32.ofNat e)), .unset] [(.int (Int32.ofNat s)), (.int (Int32.ofNat e))] := (H.iload at_272 (H.iload at_270 r146 rfl) rfl)
    by_cases k1 : (Int32.ofNat e) = (Int32.ofNat s)
    · have r148 : W h0 11 88 277 #[.val (.long fl), .second, .val (.long md), .second, .val (.int first), .val (.int tag), .val (.int sp), .val (.int place), .val (.ref ma), .val (.int (Int32.ofNat s)), .val (.int (Int32.ofNat t)), .val (.int b0), .val (.int (Int32.ofNat sep)), .val (.int sb), .val (.int (Int32.ofNat e)), .unset] [] := (H.icmpNo at_274 r147 (teq k1).2)
      have r150 : W h0 11 88 280 #[.val (.long fl), .second, .val (.long md), .second, .val (.int first), .val (.int tag), .val (.int sp), .val (.int place), .val (.ref ma), .val (.int (Int32.ofNat s)), .val (.int (Int32.ofNat t)), .val (.int b0), .val (.int (Int32.ofNat sep)), .val (.int sb), .val (.int (Int32.ofNat e)), .val (.int (-1 : Int32))] [] := (H.istore at_278 (H.iconst (z := (-1 : Int32)) at_277 r148 rfl) rfl)
      have r151 : W h0 11 88 335 #[.val (.long fl), .second, .val (.long md), .second, .val (.int first), .val (.int tag), .val (.int sp), .val (.int place), .val (.ref ma), .val (.int (Int32.ofNat s)), .val (.int (Int32.ofNat t)), .val (.int b0), .val (.int (Int32.ofNat sep)), .val (.int sb), .val (.int (Int32.ofNat e)), .val (.int (-1 : Int32))] [] := (H.goto (pc' := 335) at_280 r150 (by decide) (by decide))
      rw [show own_want s e sep b0 sb = _ from by rw [own_want, if_pos ((own_eqN (by omega) (by omega)).mp k1)]]
      exact r151
    · have r149 : W h0 11 88 283 #[.val (.long fl), .second, .val (.long md), .second, .val (.int first), .val (.int tag), .val (.int sp), .val (.int place), .val (.ref ma), .val (.int (Int32.ofNat s)), .val (.int (Int32.ofNat t)), .val (.int b0), .val (.int (Int32.ofNat sep)), .val (.int sb), .val (.int (Int32.ofNat e)), .unset] [] := (H.icmpYes (pc' := 283) at_274 r147 (by decide) (by decide) (feq k1).2)
      have r152 : W h0 11 88 287 #[.val (.long fl), .second, .val (.long md), .second, .val (.int first), .val (.int tag), .val (.int sp), .val (.int place), .val (.ref ma), .val (.int (Int32.ofNat s)), .val (.int (Int32.ofNat t)), .val (.int b0), .val (.int (Int32.ofNat sep)), .val (.int sb), .val (.int (Int32.ofNat e)), .unset] [(.int (49 : Int32)), (.int b0)] := (H.bipush (z := (49 : Int32)) at_285 (H.iload at_283 r149 rfl) rfl)
      by_cases k2 : b0 < (49 : Int32)
      · have r153 : W h0 11 88 297 #[.val (.long fl), .second, .val (.long md), .second, .val (.int first), .val (.int tag), .val (.int sp), .val (.int place), .val (.ref ma), .val (.int (Int32.ofNat s)), .val (.int (Int32.ofNat t)), .val (.int b0), .val (.int (Int32.ofNat sep)), .val (.int sb), .val (.int (Int32.ofNat e)), .unset] [] := (H.icmpYes (pc' := 297) at_287 r152 (by decide) (by decide) (tlt k2).1)
        have r155 : W h0 11 88 300 #[.val (.long fl), .second, .val (.long md), .second, .val (.int first), .val (.int tag), .val (.int sp), .val (.int place), .val (.ref ma), .val (.int (Int32.ofNat s)), .val (.int (Int32.ofNat t)), .val (.int b0), .val (.int (Int32.ofNat sep)), .val (.int sb), .val (.int (Int32.ofNat e)), .val (.int (-1 : Int32))] [] := (H.istore at_298 (H.iconst (z := (-1 : Int32)) at_297 r153 rfl) rfl)
        have r156 : W h0 11 88 335 #[.val (.long fl), .second, .val (.long md), .second, .val (.int first), .val (.int tag), .val (.int sp), .val (.int place), .val (.ref ma), .val (.int (Int32.ofNat s)), .val (.int (Int32.ofNat t)), .val (.int b0), .val (.int (Int32.ofNat sep)), .val (.int sb), .val (.int (Int32.ofNat e)), .val (.int (-1 : Int32))] [] := (H.goto (pc' := 335) at_300 r155 (by decide) (by decide))
        rw [show own_want s e sep b0 sb = _ from by rw [own_want, if_neg (fun u => k1 ((own_eqN (by omega) (by omega)).mpr u)), if_pos k2]]
        exact r156
      · have r154 : W h0 11 88 290 #[.val (.long fl), .second, .val (.long md), .second, .val (.int first), .val (.int tag), .val (.int sp), .val (.int place), .val (.ref ma), .val (.int (Int32.ofNat s)), .val (.int (Int32.ofNat t)), .val (.int b0), .val (.int (Int32.ofNat sep)), .val (.int sb), .val (.int (Int32.ofNat e)), .unset] [] := (H.icmpNo at_287 r152 (flt k2).1)
        have r157 : W h0 11 88 294 #[.val (.long fl), .second, .val (.long md), .second, .val (.int first), .val (.int tag), .val (.int sp), .val (.int place), .val (.ref ma), .val (.int (Int32.ofNat s)), .val (.int (Int32.ofNat t)), .val (.int b0), .val (.int (Int32.ofNat sep)), .val (.int sb), .val (.int (Int32.ofNat e)), .unset] [(.int (57 : Int32)), (.int b0)] := (H.bipush (z := (57 : Int32)) at_292 (H.iload at_290 r154 rfl) rfl)
        by_cases k3 : (57 : Int32) < b0
        · have r158 : W h0 11 88 297 #[.val (.long fl), .second, .val (.long md), .second, .val (.int first), .val (.int tag), .val (.int sp), .val (.int place), .val (.ref ma), .val (.int (Int32.ofNat s)), .val (.int (Int32.ofNat t)), .val (.int b0), .val (.int (Int32.ofNat sep)), .val (.int sb), .val (.int (Int32.ofNat e)), .unset] [] := (H.icmpNo at_294 r157 (tlt k3).2.2.2)
          have r160 : W h0 11 88 300 #[.val (.long fl), .second, .val (.long md), .second, .val (.int first), .val (.int tag), .val (.int sp), .val (.int place), .val (.ref ma), .val (.int (Int32.ofNat s)), .val (.int (Int32.ofNat t)), .val (.int b0), .val (.int (Int32.ofNat sep)), .val (.int sb), .val (.int (Int32.ofNat e)), .val (.int (-1 : Int32))] [] := (H.istore at_298 (H.iconst (z := (-1 : Int32)) at_297 r158 rfl) rfl)
          have r161 : W h0 11 88 335 #[.val (.long fl), .second, .val (.long md), .second, .val (.int first), .val (.int tag), .val (.int sp), .val (.int place), .val (.ref ma), .val (.int (Int32.ofNat s)), .val (.int (Int32.ofNat t)), .val (.int b0), .val (.int (Int32.ofNat sep)), .val (.int sb), .val (.int (Int32.ofNat e)), .val (.int (-1 : Int32))] [] := (H.goto (pc' := 335) at_300 r160 (by decide) (by decide))
          rw [show own_want s e sep b0 sb = _ from by rw [own_want, if_neg (fun u => k1 ((own_eqN (by omega) (by omega)).mpr u)), if_neg k2, if_pos k3]]
          exact r161
        · have r159 : W h0 11 88 303 #[.val (.long fl), .second, .val (.long md), .second, .val (.int first), .val (.int tag), .val (.int sp), .val (.int place), .val (.ref ma), .val (.int (Int32.ofNat s)), .val (.int (Int32.ofNat t)), .val (.int b0), .val (.int (Int32.ofNat sep)), .val (.int sb), .val (.int (Int32.ofNat e)), .unset] [] := (H.icmpYes (pc' := 303) at_294 r157 (by decide) (by decide) (flt k3).2.2.2)
          have r162 : W h0 11 88 307 #[.val (.long fl), .second, .val (.long md), .second, .val (.int first), .val (.int tag), .val (.int sp), .val (.int place), .val (.ref ma), .val (.int (Int32.ofNat s)), .val (.int (Int32.ofNat t)), .val (.int b0), .val (.int (Int32.ofNat sep)), .val (.int sb), .val (.int (Int32.ofNat e)), .unset] [(.int (Int32.ofNat e)), (.int (Int32.ofNat sep))] := (H.iload at_305 (H.iload at_303 r159 rfl) rfl)
          by_cases k4 : (Int32.ofNat sep) < (Int32.ofNat e)
          · have r163 : W h0 11 88 316 #[.val (.long fl), .second, .val (.long md), .second, .val (.int first), .val (.int tag), .val (.int sp), .val (.int place), .val (.ref ma), .val (.int (Int32.ofNat s)), .val (.int (Int32.ofNat t)), .val (.int b0), .val (.int (Int32.ofNat sep)), .val (.int sb), .val (.int (Int32.ofNat e)), .unset] [] := (H.icmpYes (pc' := 316) at_307 r162 (by decide) (by decide) (tlt k4).1)
            have r165 : W h0 11 88 320 #[.val (.long fl), .second, .val (.long md), .second, .val (.int first), .val (.int tag), .val (.int sp), .val (.int place), .val (.ref ma), .val (.int (Int32.ofNat s)), .val (.int (Int32.ofNat t)), .val (.int b0), .val (.int (Int32.ofNat sep)), .val (.int sb), .val (.int (Int32.ofNat e)), .unset] [(.int (61 : Int32)), (.int sb)] := (H.bipush (z := (61 : Int32)) at_318 (H.iload at_316 r163 rfl) rfl)
            by_cases k5 : sb = (61 : Int32)
            · have r166 : W h0 11 88 323 #[.val (.long fl), .second, .val (.long md), .second, .val (.int first), .val (.int tag), .val (.int sp), .val (.int place), .val (.ref ma), .val (.int (Int32.ofNat s)), .val (.int (Int32.ofNat t)), .val (.int b0), .val (.int (Int32.ofNat sep)), .val (.int sb), .val (.int (Int32.ofNat e)), .unset] [] := (H.icmpNo at_320 r165 (teq k5).2)
              have r168 : W h0 11 88 327 #[.val (.long fl), .second, .val (.long md), .second, .val (.int first), .val (.int tag), .val (.int sp), .val (.int place), .val (.ref ma), .val (.int (Int32.ofNat s)), .val (.int (Int32.ofNat t)), .val (.int b0), .val (.int (Int32.ofNat sep)), .val (.int sb), .val (.int (Int32.ofNat e)), .unset] [(.int ((Int32.ofNat sep) + (1 : Int32)))] := (H.iadd at_326 (H.iconst (z := (1 : Int32)) at_325 (H.iload at_323 r166 rfl) rfl))
              rw [own_succ] at r168
              have r169 : W h0 11 88 329 #[.val (.long fl), .second, .val (.long md), .second, .val (.int first), .val (.int tag), .val (.int sp), .val (.int place), .val (.ref ma), .val (.int (Int32.ofNat s)), .val (.int (Int32.ofNat t)), .val (.int b0), .val (.int (Int32.ofNat sep)), .val (.int sb), .val (.int (Int32.ofNat e)), .val (.int (Int32.ofNat (sep + 1)))] [] := (H.istore at_327 r168 rfl)
              have r170 : W h0 11 88 335 #[.val (.long fl), .second, .val (.long md), .second, .val (.int first), .val (.int tag), .val (.int sp), .val (.int place), .val (.ref ma), .val (.int (Int32.ofNat s)), .val (.int (Int32.ofNat t)), .val (.int b0), .val (.int (Int32.ofNat sep)), .val (.int sb), .val (.int (Int32.ofNat e)), .val (.int (Int32.ofNat (sep + 1)))] [] := (H.goto (pc' := 335) at_329 r169 (by decide) (by decide))
              rw [show own_want s e sep b0 sb = _ from by rw [own_want, if_neg (fun u => k1 ((own_eqN (by omega) (by omega)).mpr u)), if_neg k2, if_neg k3, if_pos ((own_ltN (by omega) (by omega)).mp k4), if_pos k5]]
              exact r170
            · have r167 : W h0 11 88 332 #[.val (.long fl), .second, .val (.long md), .second, .val (.int first), .val (.int tag), .val (.int sp), .val (.int place), .val (.ref ma), .val (.int (Int32.ofNat s)), .val (.int (Int32.ofNat t)), .val (.int b0), .val (.int (Int32.ofNat sep)), .val (.int sb), .val (.int (Int32.ofNat e)), .unset] [] := (H.icmpYes (pc' := 332) at_320 r165 (by decide) (by decide) (feq k5).2)
              have r171 : W h0 11 88 335 #[.val (.long fl), .second, .val (.long md), .second, .val (.int first), .val (.int tag), .val (.int sp), .val (.int place), .val (.ref ma), .val (.int (Int32.ofNat s)), .val (.int (Int32.ofNat t)), .val (.int b0), .val (.int (Int32.ofNat sep)), .val (.int sb), .val (.int (Int32.ofNat e)), .val (.int (-1 : Int32))] [] := (H.istore at_333 (H.iconst (z := (-1 : Int32)) at_332 r167 rfl) rfl)
              rw [show own_want s e sep b0 sb = _ from by rw [own_want, if_neg (fun u => k1 ((own_eqN (by omega) (by omega)).mpr u)), if_neg k2, if_neg k3, if_pos ((own_ltN (by omega) (by omega)).mp k4), if_neg k5]]
              exact r171
          · have r164 : W h0 11 88 310 #[.val (.long fl), .second, .val (.long md), .second, .val (.int first), .val (.int tag), .val (.int sp), .val (.int place), .val (.ref ma), .val (.int (Int32.ofNat s)), .val (.int (Int32.ofNat t)), .val (.int b0), .val (.int (Int32.ofNat sep)), .val (.int sb), .val (.int (Int32.ofNat e)), .unset] [] := (H.icmpNo at_307 r162 (flt k4).1)
            have r172 : W h0 11 88 313 #[.val (.long fl), .second, .val (.long md), .second, .val (.int first), .val (.int tag), .val (.int sp), .val (.int place), .val (.ref ma), .val (.int (Int32.ofNat s)), .val (.int (Int32.ofNat t)), .val (.int b0), .val (.int (Int32.ofNat sep)), .val (.int sb), .val (.int (Int32.ofNat e)), .val (.int (-1 : Int32))] [] := (H.istore at_311 (H.iconst (z := (-1 : Int32)) at_310 r164 rfl) rfl)
            have r173 : W h0 11 88 335 #[.val (.long fl), .second, .val (.long md), .second, .val (.int first), .val (.int tag), .val (.int sp), .val (.int place), .val (.ref ma), .val (.int (Int32.ofNat s)), .val (.int (Int32.ofNat t)), .val (.int b0), .val (.int (Int32.ofNat sep)), .val (.int sb), .val (.int (Int32.ofNat e)), .val (.int (-1 : Int32))] [] := (H.goto (pc' := 335) at_313 r172 (by decide) (by decide))
            rw [show own_want s e sep b0 sb = _ from by rw [own_want, if_neg (fun u => k1 ((own_eqN (by omega) (by omega)).mpr u)), if_neg k2, if_neg k3, if_neg (fun u => k4 ((own_ltN (by omega) (by omega)).mpr u))]]
            exact r173
  have r174 : W h0 11 88 341 #[.val (.long fl), .second, .val (.long md), .second, .val (.int first), .val (.int tag), .val (.int sp), .val (.int place), .val (.ref ma), .val (.int (Int32.ofNat s)), .val (.int (Int32.ofNat t)), .val (.int b0), .val (.int (Int32.ofNat sep)), .val (.int sb), .val (.int (Int32.ofNat e)), .val (.int (own_want s e sep b0 sb))] [(.int (Int32.ofNat e)), (.int (Int32.ofNat s)), (.ref ma)] := (H.iload at_339 (H.iload at_337 (H.aload at_335 rJ rfl rfl) rfl) rfl)
  have r175 : W h0 11 88 344 #[.val (.long fl), .second, .val (.long md), .second, .val (.int first), .val (.int tag), .val (.int sp), .val (.int place), .val (.ref ma), .val (.int (Int32.ofNat s)), .val (.int (Int32.ofNat t)), .val (.int b0), .val (.int (Int32.ofNat sep)), .val (.int sb), .val (.int (Int32.ofNat e)), .val (.int (own_want s e sep b0 sb))] [(.int (own_want s e sep b0 sb))] := H.callSP (w := 0) (argsL := [(.ref ma), (.int (Int32.ofNat s)), (.int (Int32.ofNat e))]) (rest := []) (hw _ (List.mem_of_getElem? (i := 13) rfl)) (hw _ (List.mem_of_getElem? (i := 14) rfl)) (hw _ (List.mem_of_getElem? (i := 15) rfl)) (hw _ (List.mem_of_getElem? (i := 16) rfl)) (by decide) pd_1 (by decide) (by decide) (by decide) (by decide) (vst_ct hw ma s e sep b0 sb hss hsep (by omega) (by omega) hok h0 n0 A0) rfl rfl (Nat.le_of_eq rfl) rfl at_341 r174
  have r176 : W h0 11 88 349 #[.val (.long fl), .second, .val (.long md), .second, .val (.int first), .val (.int tag), .val (.int sp), .val (.int place), .val (.ref ma), .val (.int (Int32.ofNat s)), .val (.int (Int32.ofNat t)), .val (.int b0), .val (.int (Int32.ofNat sep)), .val (.int sb), .val (.int (Int32.ofNat e)), .val (.int (own_want s e sep b0 sb))] [] := (H.icmpNo at_346 (H.iload at_344 r175 rfl) (teq (rfl : own_want s e sep b0 sb = own_want s e sep b0 sb)).2)
  have r177 : W h0 11 88 354 #[.val (.long fl), .second, .val (.long md), .second, .val (.int first), .val (.int tag), .val (.int sp), .val (.int place), .val (.ref ma), .val (.int (Int32.ofNat s)), .val (.int (Int32.ofNat t)), .val (.int b0), .val (.int (Int32.ofNat sep)), .val (.int sb), .val (.int (Int32.ofNat e)), .val (.int (own_want s e sep b0 sb))] [(.int (1 : Int32))] := (H.goto (pc' := 354) at_350 (H.iconst (z := (1 : Int32)) at_349 r176 rfl) (by decide) (by decide))
  exact ⟨_, _, H.retZ rfl rfl (by decide) (by decide) at_354 r177, rfl⟩
theorem own_mk0 (vs : List Value) (s : Nat) (b0 sb : Int32)  (hlen : vs.length = 8) (hs : s < 3) (hb0 : vs[s]? = some (.int b0))  (hnd : sb < 48 ∨ 57 < sb) : own_ok (vs.set (s + 1) (.int sb)) s (s + 1) b0 sb := by
  refine ⟨?_, fun j h1 h2 => ?_, ?_, hnd⟩
  · simp [List.getElem?_set, hb0]
  ·
    omega
  · simp [List.getElem?_set, hlen]; try omega
theorem own_mk1 (vs : List Value) (s : Nat) (b0 sb : Int32) (d1 : Int32) (hlen : vs.length = 8) (hs : s < 3) (hb0 : vs[s]? = some (.int b0)) (hg1 : ¬ d1 < 48 ∧ ¬ 57 < d1) (hnd : sb < 48 ∨ 57 < sb) : own_ok ((vs.set (s + 1) (.int d1)).set (s + 2) (.int sb)) s (s + 2) b0 sb := by
  refine ⟨?_, fun j h1 h2 => ?_, ?_, hnd⟩
  · simp [List.getElem?_set, hb0]
  ·
    obtain rfl : j = s + 1 := by omega
    · exact ⟨d1, by simp [List.getElem?_set, hlen]; try omega, hg1.1, hg1.2⟩
  · simp [List.getElem?_set, hlen]; try omega
theorem own_mk2 (vs : List Value) (s : Nat) (b0 sb : Int32) (d1 d2 : Int32) (hlen : vs.length = 8) (hs : s < 3) (hb0 : vs[s]? = some (.int b0)) (hg1 : ¬ d1 < 48 ∧ ¬ 57 < d1) (hg2 : ¬ d2 < 48 ∧ ¬ 57 < d2) (hnd : sb < 48 ∨ 57 < sb) : own_ok (((vs.set (s + 1) (.int d1)).set (s + 2) (.int d2)).set (s + 3) (.int sb)) s (s + 3) b0 sb := by
  refine ⟨?_, fun j h1 h2 => ?_, ?_, hnd⟩
  · simp [List.getElem?_set, hb0]
  ·
    obtain rfl | rfl : j = s + 1 ∨ j = s + 2 := by omega
    · exact ⟨d1, by simp [List.getElem?_set, hlen]; try omega, hg1.1, hg1.2⟩
    · exact ⟨d2, by simp [List.getElem?_set, hlen]; try omega, hg2.1, hg2.2⟩
  · simp [List.getElem?_set, hlen]; try omega
theorem own_mk3 (vs : List Value) (s : Nat) (b0 sb : Int32) (d1 d2 d3 : Int32) (hlen : vs.length = 8) (hs : s < 3) (hb0 : vs[s]? = some (.int b0)) (hg1 : ¬ d1 < 48 ∧ ¬ 57 < d1) (hg2 : ¬ d2 < 48 ∧ ¬ 57 < d2) (hg3 : ¬ d3 < 48 ∧ ¬ 57 < d3) (hnd : sb < 48 ∨ 57 < sb) : own_ok ((((vs.set (s + 1) (.int d1)).set (s + 2) (.int d2)).set (s + 3) (.int d3)).set (s + 4) (.int sb)) s (s + 4) b0 sb := by
  refine ⟨?_, fun j h1 h2 => ?_, ?_, hnd⟩
  · simp [List.getElem?_set, hb0]
  ·
    obtain rfl | rfl | rfl : j = s + 1 ∨ j = s + 2 ∨ j = s + 3 := by omega
    · exact ⟨d1, by simp [List.getElem?_set, hlen]; try omega, hg1.1, hg1.2⟩
    · exact ⟨d2, by simp [List.getElem?_set, hlen]; try omega, hg2.1, hg2.2⟩
    · exact ⟨d3, by simp [List.getElem?_set, hlen]; try omega, hg3.1, hg3.2⟩
  · simp [List.getElem?_set, hlen]; try omega
set_option maxRecDepth 65536 in
set_option maxHeartbeats 40000000 in
theorem road0 {l : Launch} {Z : State} {a0 : Array Value} (hw : ∀ d ∈ tables_1, d.before a0 Z = true) {n0 : Nat} {W : WT} {V : VT} {h0 : Heap} {vs : List Value} (fl md : Int64) (first tag sp place b0 : Int32) (ma : Addr) (s : Nat) (hs : s < 3) (hlen : vs.length = 8) (hb0 : vs[s]? = some (.int b0)) (Z0 : n0 ≤ h0.size) (N0 : n0 ≤ ma) (A0 : Ary Z h0 ma .byte vs) (H : Wk l Z Jvm.Pilot.@@N@@.x code maxLocals ret room_1 n0 W V) (r0 : W h0 10 80 123 #[.val (.long fl), .second, .val (.long md), .second, .val (.int first), .val (.int tag), .val (.int sp), .val (.int place), .val (.ref ma), .val (.int (Int32.ofNat s)), .val (.int (Int32.ofNat 0)), .val (.int b0), .unset, .unset, .unset, .unset] []) : ∃ v h', V v h' ∧ v = some (.int 1) := by
  have r178 : W h0 10 80 151 #[.val (.long fl), .second, .val (.long md), .second, .val (.int first), .val (.int tag), .val (.int sp), .val (.int place), .val (.ref ma), .val (.int (Int32.ofNat s)), .val (.int (Int32.ofNat 0)), .val (.int b0), .unset, .unset, .unset, .unset] [] := (H.icmpYes (pc' := 151) at_126 (H.iconst (z := (1 : Int32)) at_125 (H.iload at_123 r0 rfl) rfl) (by decide) (by decide) (tlt (by decide)).1)
  have r179 : W h0 10 80 180 #[.val (.long fl), .second, .val (.long md), .second, .val (.int first), .val (.int tag), .val (.int sp), .val (.int place), .val (.ref ma), .val (.int (Int32.ofNat s)), .val (.int (Int32.ofNat 0)), .val (.int b0), .unset, .unset, .unset, .unset] [] := (H.icmpYes (pc' := 180) at_154 (H.iconst (z := (2 : Int32)) at_153 (H.iload at_151 r178 rfl) rfl) (by decide) (by decide) (tlt (by decide)).1)
  have r180 : W h0 10 80 209 #[.val (.long fl), .second, .val (.long md), .second, .val (.int first), .val (.int tag), .val (.int sp), .val (.int place), .val (.ref ma), .val (.int (Int32.ofNat s)), .val (.int (Int32.ofNat 0)), .val (.int b0), .unset, .unset, .unset, .unset] [] := (H.icmpYes (pc' := 209) at_183 (H.iconst (z := (3 : Int32)) at_182 (H.iload at_180 r179 rfl) rfl) (by decide) (by decide) (tlt (by decide)).1)
  have r181 : W h0 10 80 216 #[.val (.long fl), .second, .val (.long md), .second, .val (.int first), .val (.int tag), .val (.int sp), .val (.int place), .val (.ref ma), .val (.int (Int32.ofNat s)), .val (.int (Int32.ofNat 0)), .val (.int b0), .unset, .unset, .unset, .unset] [(.int (((Int32.ofNat s) + (1 : Int32)) + (Int32.ofNat 0)))] := (H.iadd at_215 (H.iload at_213 (H.iadd at_212 (H.iconst (z := (1 : Int32)) at_211 (H.iload at_209 r180 rfl) rfl)) rfl))
  rw [show (((Int32.ofNat s) + (1 : Int32)) + (Int32.ofNat 0)) = Int32.ofNat (s + 1) from by rw [own_succ, ← Int32.ofNat_add]] at r181
  have r182 : W h0 10 80 218 #[.val (.long fl), .second, .val (.long md), .second, .val (.int first), .val (.int tag), .val (.int sp), .val (.int place), .val (.ref ma), .val (.int (Int32.ofNat s)), .val (.int (Int32.ofNat 0)), .val (.int b0), .val (.int (Int32.ofNat (s + 1))), .unset, .unset, .unset] [] := (H.istore at_216 r181 rfl)
  have r183 : W h0 10 80 224 #[.val (.long fl), .second, .val (.long md), .second, .val (.int first), .val (.int tag), .val (.int sp), .val (.int place), .val (.ref ma), .val (.int (Int32.ofNat s)), .val (.int (Int32.ofNat 0)), .val (.int b0), .val (.int (Int32.ofNat (s + 1))), .unset, .unset, .unset] [(.int (sp &&& (511 : Int32)))] := (H.iand at_223 (H.sipush (z := (511 : Int32)) at_220 (H.iload at_218 r182 rfl) rfl))
  obtain ⟨_, h9, ⟨zs, rfl, hzs, K9⟩, r184⟩ := H.callS (w := 0) (argsL := [(.int (sp &&& (511 : Int32)))]) (rest := []) (hw _ (List.mem_of_getElem? (i := 6) rfl)) (hw _ (List.mem_of_getElem? (i := 7) rfl)) (hw _ (List.mem_of_getElem? (i := 3) rfl)) (hw _ (List.mem_of_getElem? (i := 8) rfl)) (by decide) pd_0 (by decide) (by decide) (by decide) (by decide) (pick_ct hw (sp &&& (511 : Int32)) h0 n0 Z0) rfl rfl (Nat.le_of_eq rfl) rfl at_224 r183
  have Z185 : n0 ≤ h9.size := Nat.le_trans Z0 K9.1
  replace r184 : W h9 11 88 227 #[.val (.long fl), .second, .val (.long md), .second, .val (.int first), .val (.int tag), .val (.int sp), .val (.int place), .val (.ref ma), .val (.int (Int32.ofNat s)), .val (.int (Int32.ofNat 0)), .val (.int b0), .val (.int (Int32.ofNat (s + 1))), .unset, .unset, .unset] [(.int zs)] := r184
  have r186 : W h9 11 88 229 #[.val (.long fl), .second, .val (.long md), .second, .val (.int first), .val (.int tag), .val (.int sp), .val (.int place), .val (.ref ma), .val (.int (Int32.ofNat s)), .val (.int (Int32.ofNat 0)), .val (.int b0), .val (.int (Int32.ofNat (s + 1))), .val (.int zs), .unset, .unset] [] := (H.istore at_227 r184 rfl)
  have r187 : W h9 11 88 231 #[.val (.long fl), .second, .val (.long md), .second, .val (.int first), .val (.int tag), .val (.int sp), .val (.int place), .val (.ref ma), .val (.int (Int32.ofNat s)), .val (.int (Int32.ofNat 0)), .val (.int b0), .val (.int (Int32.ofNat (s + 1))), .val (.int zs), .unset, .unset] [(.int zs)] := (H.iload at_229 r186 rfl)
  have r188 : W h9 11 88 234 #[.val (.long fl), .second, .val (.long md), .second, .val (.int first), .val (.int tag), .val (.int sp), .val (.int place), .val (.ref ma), .val (.int (Int32.ofNat s)), .val (.int (Int32.ofNat 0)), .val (.int b0), .val (.int (Int32.ofNat (s + 1))), .val (.int zs), .unset, .unset] [(.int (if ¬ zs < (48 : Int32) ∧ ¬ (57 : Int32) < zs then (1 : Int32) else (0 : Int32)))] := H.callSP (w := 0) (argsL := [(.int zs)]) (rest := []) (hw _ (List.mem_of_getElem? (i := 10) rfl)) (hw _ (List.mem_of_getElem? (i := 11) rfl)) (hw _ (List.mem_of_getElem? (i := 3) rfl)) (hw _ (List.mem_of_getElem? (i := 12) rfl)) (by decide) pd_2 (by decide) (by decide) (by decide) (by decide) (isd_ct hw zs h9 n0) rfl rfl (Nat.le_of_eq rfl) rfl at_231 r187
  by_cases hdg : (if ¬ zs < (48 : Int32) ∧ ¬ (57 : Int32) < zs then (1 : Int32) else (0 : Int32)) = (0 : Int32)
  · have r189 : W h9 11 88 245 #[.val (.long fl), .second, .val (.long md), .second, .val (.int first), .val (.int tag), .val (.int sp), .val (.int place), .val (.ref ma), .val (.int (Int32.ofNat s)), .val (.int (Int32.ofNat 0)), .val (.int b0), .val (.int (Int32.ofNat (s + 1))), .val (.int zs), .unset, .unset] [] := (H.ifYes (pc' := 245) at_234 r188 (by decide) (by decide) (teq hdg).1)
    have hnd : zs < 48 ∨ 57 < zs := own_nd hdg
    have r191 : W h9 11 88 251 #[.val (.long fl), .second, .val (.long md), .second, .val (.int first), .val (.int tag), .val (.int sp), .val (.int place), .val (.ref ma), .val (.int (Int32.ofNat s)), .val (.int (Int32.ofNat 0)), .val (.int b0), .val (.int (Int32.ofNat (s + 1))), .val (.int zs), .unset, .unset] [(.int zs), (.int (Int32.ofNat (s + 1))), (.ref ma)] := (H.iload at_249 (H.iload at_247 (H.aload at_245 r189 rfl rfl) rfl) rfl)
    have F192 := A0.keep K9 nin0
    obtain ⟨h193, w194, A195, r196⟩ := H.putB (i := (s + 1)) (z := zs) hzs F192 (own_ofNat (by omega)) (by first | (simp only [List.length_set]; omega) | omega | (simp; omega) | simp) N0 at_251 r191
    have Z197 : n0 ≤ h193.size := by rw [w194.size]; exact Z185
    replace r196 : W h193 11 88 252 #[.val (.long fl), .second, .val (.long md), .second, .val (.int first), .val (.int tag), .val (.int sp), .val (.int place), .val (.ref ma), .val (.int (Int32.ofNat s)), .val (.int (Int32.ofNat 0)), .val (.int b0), .val (.int (Int32.ofNat (s + 1))), .val (.int zs), .unset, .unset] [] := r196
    exact tail hw fl md first tag sp place b0 zs ma s 0 (s + 1) hs (by omega) (by omega) (own_mk0 vs s b0 zs  hlen hs hb0  hnd) A195 H r196
  · have r190 : W h9 11 88 237 #[.val (.long fl), .second, .val (.long md), .second, .val (.int first), .val (.int tag), .val (.int sp), .val (.int place), .val (.ref ma), .val (.int (Int32.ofNat s)), .val (.int (Int32.ofNat 0)), .val (.int b0), .val (.int (Int32.ofNat (s + 1))), .val (.int zs), .unset, .unset] [] := (H.ifNo at_234 r188 (feq hdg).1)
    have hyd : ¬ zs < 48 ∧ ¬ 57 < zs := own_yd hdg
    have r198 : W h9 11 88 243 #[.val (.long fl), .second, .val (.long md), .second, .val (.int first), .val (.int tag), .val (.int sp), .val (.int place), .val (.ref ma), .val (.int (Int32.ofNat s)), .val (.int (Int32.ofNat 0)), .val (.int b0), .val (.int (Int32.ofNat (s + 1))), .val (.int zs), .unset, .unset] [(.int ((zs ^^^ (64 : Int32)).toInt8.toInt32))] := (H.i2b at_242 (H.ixor at_241 (H.bipush (z := (64 : Int32)) at_239 (H.iload at_237 r190 rfl) rfl)))
    have hsb := own_turned zs hyd.1 hyd.2
    have hsq := own_bb (zs ^^^ (64 : Int32))
    generalize ((zs ^^^ (64 : Int32)).toInt8.toInt32) = sb at r198 hsb hsq
    have r199 : W h9 11 88 245 #[.val (.long fl), .second, .val (.long md), .second, .val (.int first), .val (.int tag), .val (.int sp), .val (.int place), .val (.ref ma), .val (.int (Int32.ofNat s)), .val (.int (Int32.ofNat 0)), .val (.int b0), .val (.int (Int32.ofNat (s + 1))), .val (.int sb), .unset, .unset] [] := (H.istore at_243 r198 rfl)
    have r200 : W h9 11 88 251 #[.val (.long fl), .second, .val (.long md), .second, .val (.int first), .val (.int tag), .val (.int sp), .val (.int place), .val (.ref ma), .val (.int (Int32.ofNat s)), .val (.int (Int32.ofNat 0)), .val (.int b0), .val (.int (Int32.ofNat (s + 1))), .val (.int sb), .unset, .unset] [(.int sb), (.int (Int32.ofNat (s + 1))), (.ref ma)] := (H.iload at_249 (H.iload at_247 (H.aload at_245 r199 rfl rfl) rfl) rfl)
    have F201 := A0.keep K9 nin0
    obtain ⟨h202, w203, A204, r205⟩ := H.putB (i := (s + 1)) (z := sb) hsq F201 (own_ofNat (by omega)) (by first | (simp only [List.length_set]; omega) | omega | (simp; omega) | simp) N0 at_251 r200
    have Z206 : n0 ≤ h202.size := by rw [w203.size]; exact Z185
    replace r205 : W h202 11 88 252 #[.val (.long fl), .second, .val (.long md), .second, .val (.int first), .val (.int tag), .val (.int sp), .val (.int place), .val (.ref ma), .val (.int (Int32.ofNat s)), .val (.int (Int32.ofNat 0)), .val (.int b0), .val (.int (Int32.ofNat (s + 1))), .val (.int sb), .unset, .unset] [] := r205
    exact tail hw fl md first tag sp place b0 sb ma s 0 (s + 1) hs (by omega) (by omega) (own_mk0 vs s b0 sb  hlen hs hb0  (Or.inr hsb)) A204 H r205
set_option maxRecDepth 65536 in
set_option maxHeartbeats 40000000 in
theorem road1 {l : Launch} {Z : State} {a0 : Array Value} (hw : ∀ d ∈ tables_1, d.before a0 Z = true) {n0 : Nat} {W : WT} {V : VT} {h0 : Heap} {vs : List Value} (fl md : Int64) (first tag sp place b0 : Int32) (ma : Addr) (s : Nat) (hs : s < 3) (hlen : vs.length = 8) (hb0 : vs[s]? = some (.int b0)) (Z0 : n0 ≤ h0.size) (N0 : n0 ≤ ma) (A0 : Ary Z h0 ma .byte vs) (H : Wk l Z Jvm.Pilot.@@N@@.x code maxLocals ret room_1 n0 W V) (r0 : W h0 10 80 123 #[.val (.long fl), .second, .val (.long md), .second, .val (.int first), .val (.int tag), .val (.int sp), .val (.int place), .val (.ref ma), .val (.int (Int32.ofNat s)), .val (.int (Int32.ofNat 1)), .val (.int b0), .unset, .unset, .unset, .unset] []) : ∃ v h', V v h' ∧ v = some (.int 1) := by
  have r207 : W h0 10 80 129 #[.val (.long fl), .second, .val (.long md), .second, .val (.int first), .val (.int tag), .val (.int sp), .val (.int place), .val (.ref ma), .val (.int (Int32.ofNat s)), .val (.int (Int32.ofNat 1)), .val (.int b0), .unset, .unset, .unset, .unset] [] := (H.icmpNo at_126 (H.iconst (z := (1 : Int32)) at_125 (H.iload at_123 r0 rfl) rfl) (flt (by decide)).1)
  have r208 : W h0 10 80 139 #[.val (.long fl), .second, .val (.long md), .second, .val (.int first), .val (.int tag), .val (.int sp), .val (.int place), .val (.ref ma), .val (.int (Int32.ofNat s)), .val (.int (Int32.ofNat 1)), .val (.int b0), .unset, .unset, .unset, .unset] [(.int tag), (.int (48 : Int32)), (.int ((Int32.ofNat s) + (1 : Int32))), (.ref ma)] := (H.iload at_137 (H.bipush (z := (48 : Int32)) at_135 (H.iadd at_134 (H.iconst (z := (1 : Int32)) at_133 (H.iload at_131 (H.aload at_129 r207 rfl rfl) rfl) rfl)) rfl) rfl)
  have r209 : W h0 10 80 148 #[.val (.long fl), .second, .val (.long md), .second, .val (.int first), .val (.int tag), .val (.int sp), .val (.int place), .val (.ref ma), .val (.int (Int32.ofNat s)), .val (.int (Int32.ofNat 1)), .val (.int b0), .unset, .unset, .unset, .unset] [(.int ((((tag.toUInt32 >>> ((2 : Int32) &&& 31).toUInt32).toInt32) &&& (255 : Int32)) % (10 : Int32))), (.int (48 : Int32)), (.int ((Int32.ofNat s) + (1 : Int32))), (.ref ma)] := (H.irem at_147 (H.bipush (z := (10 : Int32)) at_145 (H.iand at_144 (H.sipush (z := (255 : Int32)) at_141 (H.iushr at_140 (H.iconst (z := (2 : Int32)) at_139 r208 rfl)) rfl)) rfl) (by decide))
  have r210 : W h0 10 80 150 #[.val (.long fl), .second, .val (.long md), .second, .val (.int first), .val (.int tag), .val (.int sp), .val (.int place), .val (.ref ma), .val (.int (Int32.ofNat s)), .val (.int (Int32.ofNat 1)), .val (.int b0), .unset, .unset, .unset, .unset] [(.int (((48 : Int32) + ((((tag.toUInt32 >>> ((2 : Int32) &&& 31).toUInt32).toInt32) &&& (255 : Int32)) % (10 : Int32))).toInt8.toInt32)), (.int ((Int32.ofNat s) + (1 : Int32))), (.ref ma)] := (H.i2b at_149 (H.iadd at_148 r209))
  have hx1 : (((Int32.ofNat s) + (1 : Int32))).toInt = ((s + 1 : Nat) : Int) := by rw [show ((Int32.ofNat s) + (1 : Int32)) = Int32.ofNat (s + 1) from (Int32.ofNat_add s 1).symm]; exact own_ofNat (by omega)
  obtain ⟨h211, w212, A213, r214⟩ := H.putB (i := (s + 1)) (z := ((((48 : Int32) + ((((tag.toUInt32 >>> ((2 : Int32) &&& 31).toUInt32).toInt32) &&& (255 : Int32)) % (10 : Int32))).toInt8.toInt32).toInt8.toInt32)) rfl A0 hx1 (by first | (simp only [List.length_set]; omega) | omega | (simp; omega) | simp) N0 at_150 r210
  have Z215 : n0 ≤ h211.size := by rw [w212.size]; exact Z0
  replace r214 : W h211 10 80 151 #[.val (.long fl), .second, .val (.long md), .second, .val (.int first), .val (.int tag), .val (.int sp), .val (.int place), .val (.ref ma), .val (.int (Int32.ofNat s)), .val (.int (Int32.ofNat 1)), .val (.int b0), .unset, .unset, .unset, .unset] [] := r214
  have hg1 := own_dg ((tag.toUInt32 >>> ((2 : Int32) &&& 31).toUInt32).toInt32)
  rw [own_bb] at A213
  generalize (((48 : Int32) + ((((tag.toUInt32 >>> ((2 : Int32) &&& 31).toUInt32).toInt32) &&& (255 : Int32)) % (10 : Int32))).toInt8.toInt32) = d1 at A213 hg1
  have r216 : W h211 10 80 180 #[.val (.long fl), .second, .val (.long md), .second, .val (.int first), .val (.int tag), .val (.int sp), .val (.int place), .val (.ref ma), .val (.int (Int32.ofNat s)), .val (.int (Int32.ofNat 1)), .val (.int b0), .unset, .unset, .unset, .unset] [] := (H.icmpYes (pc' := 180) at_154 (H.iconst (z := (2 : Int32)) at_153 (H.iload at_151 r214 rfl) rfl) (by decide) (by decide) (tlt (by decide)).1)
  have r217 : W h211 10 80 209 #[.val (.long fl), .second, .val (.long md), .second, .val (.int first), .val (.int tag), .val (.int sp), .val (.int place), .val (.ref ma), .val (.int (Int32.ofNat s)), .val (.int (Int32.ofNat 1)), .val (.int b0), .unset, .unset, .unset, .unset] [] := (H.icmpYes (pc' := 209) at_183 (H.iconst (z := (3 : Int32)) at_182 (H.iload at_180 r216 rfl) rfl) (by decide) (by decide) (tlt (by decide)).1)
  have r218 : W h211 10 80 216 #[.val (.long fl), .second, .val (.long md), .second, .val (.int first), .val (.int tag), .val (.int sp), .val (.int place), .val (.ref ma), .val (.int (Int32.ofNat s)), .val (.int (Int32.ofNat 1)), .val (.int b0), .unset, .unset, .unset, .unset] [(.int (((Int32.ofNat s) + (1 : Int32)) + (Int32.ofNat 1)))] := (H.iadd at_215 (H.iload at_213 (H.iadd at_212 (H.iconst (z := (1 : Int32)) at_211 (H.iload at_209 r217 rfl) rfl)) rfl))
  rw [show (((Int32.ofNat s) + (1 : Int32)) + (Int32.ofNat 1)) = Int32.ofNat (s + 2) from by rw [own_succ, ← Int32.ofNat_add]] at r218
  have r219 : W h211 10 80 218 #[.val (.long fl), .second, .val (.long md), .second, .val (.int first), .val (.int tag), .val (.int sp), .val (.int place), .val (.ref ma), .val (.int (Int32.ofNat s)), .val (.int (Int32.ofNat 1)), .val (.int b0), .val (.int (Int32.ofNat (s + 2))), .unset, .unset, .unset] [] := (H.istore at_216 r218 rfl)
  have r220 : W h211 10 80 224 #[.val (.long fl), .second, .val (.long md), .second, .val (.int first), .val (.int tag), .val (.int sp), .val (.int place), .val (.ref ma), .val (.int (Int32.ofNat s)), .val (.int (Int32.ofNat 1)), .val (.int b0), .val (.int (Int32.ofNat (s + 2))), .unset, .unset, .unset] [(.int (sp &&& (511 : Int32)))] := (H.iand at_223 (H.sipush (z := (511 : Int32)) at_220 (H.iload at_218 r219 rfl) rfl))
  obtain ⟨_, h9, ⟨zs, rfl, hzs, K9⟩, r221⟩ := H.callS (w := 0) (argsL := [(.int (sp &&& (511 : Int32)))]) (rest := []) (hw _ (List.mem_of_getElem? (i := 6) rfl)) (hw _ (List.mem_of_getElem? (i := 7) rfl)) (hw _ (List.mem_of_getElem? (i := 3) rfl)) (hw _ (List.mem_of_getElem? (i := 8) rfl)) (by decide) pd_0 (by decide) (by decide) (by decide) (by decide) (pick_ct hw (sp &&& (511 : Int32)) h211 n0 Z215) rfl rfl (Nat.le_of_eq rfl) rfl at_224 r220
  have Z222 : n0 ≤ h9.size := Nat.le_trans Z215 K9.1
  replace r221 : W h9 11 88 227 #[.val (.long fl), .second, .val (.long md), .second, .val (.int first), .val (.int tag), .val (.int sp), .val (.int place), .val (.ref ma), .val (.int (Int32.ofNat s)), .val (.int (Int32.ofNat 1)), .val (.int b0), .val (.int (Int32.ofNat (s + 2))), .unset, .unset, .unset] [(.int zs)] := r221
  have r223 : W h9 11 88 229 #[.val (.long fl), .second, .val (.long md), .second, .val (.int first), .val (.int tag), .val (.int sp), .val (.int place), .val (.ref ma), .val (.int (Int32.ofNat s)), .val (.int (Int32.ofNat 1)), .val (.int b0), .val (.int (Int32.ofNat (s + 2))), .val (.int zs), .unset, .unset] [] := (H.istore at_227 r221 rfl)
  have r224 : W h9 11 88 231 #[.val (.long fl), .second, .val (.long md), .second, .val (.int first), .val (.int tag), .val (.int sp), .val (.int place), .val (.ref ma), .val (.int (Int32.ofNat s)), .val (.int (Int32.ofNat 1)), .val (.int b0), .val (.int (Int32.ofNat (s + 2))), .val (.int zs), .unset, .unset] [(.int zs)] := (H.iload at_229 r223 rfl)
  have r225 : W h9 11 88 234 #[.val (.long fl), .second, .val (.long md), .second, .val (.int first), .val (.int tag), .val (.int sp), .val (.int place), .val (.ref ma), .val (.int (Int32.ofNat s)), .val (.int (Int32.ofNat 1)), .val (.int b0), .val (.int (Int32.ofNat (s + 2))), .val (.int zs), .unset, .unset] [(.int (if ¬ zs < (48 : Int32) ∧ ¬ (57 : Int32) < zs then (1 : Int32) else (0 : Int32)))] := H.callSP (w := 0) (argsL := [(.int zs)]) (rest := []) (hw _ (List.mem_of_getElem? (i := 10) rfl)) (hw _ (List.mem_of_getElem? (i := 11) rfl)) (hw _ (List.mem_of_getElem? (i := 3) rfl)) (hw _ (List.mem_of_getElem? (i := 12) rfl)) (by decide) pd_2 (by decide) (by decide) (by decide) (by decide) (isd_ct hw zs h9 n0) rfl rfl (Nat.le_of_eq rfl) rfl at_231 r224
  by_cases hdg : (if ¬ zs < (48 : Int32) ∧ ¬ (57 : Int32) < zs then (1 : Int32) else (0 : Int32)) = (0 : Int32)
  · have r226 : W h9 11 88 245 #[.val (.long fl), .second, .val (.long md), .second, .val (.int first), .val (.int tag), .val (.int sp), .val (.int place), .val (.ref ma), .val (.int (Int32.ofNat s)), .val (.int (Int32.ofNat 1)), .val (.int b0), .val (.int (Int32.ofNat (s + 2))), .val (.int zs), .unset, .unset] [] := (H.ifYes (pc' := 245) at_234 r225 (by decide) (by decide) (teq hdg).1)
    have hnd : zs < 48 ∨ 57 < zs := own_nd hdg
    have r228 : W h9 11 88 251 #[.val (.long fl), .second, .val (.long md), .second, .val (.int first), .val (.int tag), .val (.int sp), .val (.int place), .val (.ref ma), .val (.int (Int32.ofNat s)), .val (.int (Int32.ofNat 1)), .val (.int b0), .val (.int (Int32.ofNat (s + 2))), .val (.int zs), .unset, .unset] [(.int zs), (.int (Int32.ofNat (s + 2))), (.ref ma)] := (H.iload at_249 (H.iload at_247 (H.aload at_245 r226 rfl rfl) rfl) rfl)
    have F229 := A213.keep K9 nin0
    obtain ⟨h230, w231, A232, r233⟩ := H.putB (i := (s + 2)) (z := zs) hzs F229 (own_ofNat (by omega)) (by first | (simp only [List.length_set]; omega) | omega | (simp; omega) | simp) N0 at_251 r228
    have Z234 : n0 ≤ h230.size := by rw [w231.size]; exact Z222
    replace r233 : W h230 11 88 252 #[.val (.long fl), .second, .val (.long md), .second, .val (.int first), .val (.int tag), .val (.int sp), .val (.int place), .val (.ref ma), .val (.int (Int32.ofNat s)), .val (.int (Int32.ofNat 1)), .val (.int b0), .val (.int (Int32.ofNat (s + 2))), .val (.int zs), .unset, .unset] [] := r233
    exact tail hw fl md first tag sp place b0 zs ma s 1 (s + 2) hs (by omega) (by omega) (own_mk1 vs s b0 zs d1 hlen hs hb0 hg1 hnd) A232 H r233
  · have r227 : W h9 11 88 237 #[.val (.long fl), .second, .val (.long md), .second, .val (.int first), .val (.int tag), .val (.int sp), .val (.int place), .val (.ref ma), .val (.int (Int32.ofNat s)), .val (.int (Int32.ofNat 1)), .val (.int b0), .val (.int (Int32.ofNat (s + 2))), .val (.int zs), .unset, .unset] [] := (H.ifNo at_234 r225 (feq hdg).1)
    have hyd : ¬ zs < 48 ∧ ¬ 57 < zs := own_yd hdg
    have r235 : W h9 11 88 243 #[.val (.long fl), .second, .val (.long md), .second, .val (.int first), .val (.int tag), .val (.int sp), .val (.int place), .val (.ref ma), .val (.int (Int32.ofNat s)), .val (.int (Int32.ofNat 1)), .val (.int b0), .val (.int (Int32.ofNat (s + 2))), .val (.int zs), .unset, .unset] [(.int ((zs ^^^ (64 : Int32)).toInt8.toInt32))] := (H.i2b at_242 (H.ixor at_241 (H.bipush (z := (64 : Int32)) at_239 (H.iload at_237 r227 rfl) rfl)))
    have hsb := own_turned zs hyd.1 hyd.2
    have hsq := own_bb (zs ^^^ (64 : Int32))
    generalize ((zs ^^^ (64 : Int32)).toInt8.toInt32) = sb at r235 hsb hsq
    have r236 : W h9 11 88 245 #[.val (.long fl), .second, .val (.long md), .second, .val (.int first), .val (.int tag), .val (.int sp), .val (.int place), .val (.ref ma), .val (.int (Int32.ofNat s)), .val (.int (Int32.ofNat 1)), .val (.int b0), .val (.int (Int32.ofNat (s + 2))), .val (.int sb), .unset, .unset] [] := (H.istore at_243 r235 rfl)
    have r237 : W h9 11 88 251 #[.val (.long fl), .second, .val (.long md), .second, .val (.int first), .val (.int tag), .val (.int sp), .val (.int place), .val (.ref ma), .val (.int (Int32.ofNat s)), .val (.int (Int32.ofNat 1)), .val (.int b0), .val (.int (Int32.ofNat (s + 2))), .val (.int sb), .unset, .unset] [(.int sb), (.int (Int32.ofNat (s + 2))), (.ref ma)] := (H.iload at_249 (H.iload at_247 (H.aload at_245 r236 rfl rfl) rfl) rfl)
    have F238 := A213.keep K9 nin0
    obtain ⟨h239, w240, A241, r242⟩ := H.putB (i := (s + 2)) (z := sb) hsq F238 (own_ofNat (by omega)) (by first | (simp only [List.length_set]; omega) | omega | (simp; omega) | simp) N0 at_251 r237
    have Z243 : n0 ≤ h239.size := by rw [w240.size]; exact Z222
    replace r242 : W h239 11 88 252 #[.val (.long fl), .second, .val (.long md), .second, .val (.int first), .val (.int tag), .val (.int sp), .val (.int place), .val (.ref ma), .val (.int (Int32.ofNat s)), .val (.int (Int32.ofNat 1)), .val (.int b0), .val (.int (Int32.ofNat (s + 2))), .val (.int sb), .unset, .unset] [] := r242
    exact tail hw fl md first tag sp place b0 sb ma s 1 (s + 2) hs (by omega) (by omega) (own_mk1 vs s b0 sb d1 hlen hs hb0 hg1 (Or.inr hsb)) A241 H r242
set_option maxRecDepth 65536 in
set_option maxHeartbeats 40000000 in
theorem road2 {l : Launch} {Z : State} {a0 : Array Value} (hw : ∀ d ∈ tables_1, d.before a0 Z = true) {n0 : Nat} {W : WT} {V : VT} {h0 : Heap} {vs : List Value} (fl md : Int64) (first tag sp place b0 : Int32) (ma : Addr) (s : Nat) (hs : s < 3) (hlen : vs.length = 8) (hb0 : vs[s]? = some (.int b0)) (Z0 : n0 ≤ h0.size) (N0 : n0 ≤ ma) (A0 : Ary Z h0 ma .byte vs) (H : Wk l Z Jvm.Pilot.@@N@@.x code maxLocals ret room_1 n0 W V) (r0 : W h0 10 80 123 #[.val (.long fl), .second, .val (.long md), .second, .val (.int first), .val (.int tag), .val (.int sp), .val (.int place), .val (.ref ma), .val (.int (Int32.ofNat s)), .val (.int (Int32.ofNat 2)), .val (.int b0), .unset, .unset, .unset, .unset] []) : ∃ v h', V v h' ∧ v = some (.int 1) := by
  have r244 : W h0 10 80 129 #[.val (.long fl), .second, .val (.long md), .second, .val (.int first), .val (.int tag), .val (.int sp), .val (.int place), .val (.ref ma), .val (.int (Int32.ofNat s)), .val (.int (Int32.ofNat 2)), .val (.int b0), .unset, .unset, .unset, .unset] [] := (H.icmpNo at_126 (H.iconst (z := (1 : Int32)) at_125 (H.iload at_123 r0 rfl) rfl) (flt (by decide)).1)
  have r245 : W h0 10 80 139 #[.val (.long fl), .second, .val (.long md), .second, .val (.int first), .val (.int tag), .val (.int sp), .val (.int place), .val (.ref ma), .val (.int (Int32.ofNat s)), .val (.int (Int32.ofNat 2)), .val (.int b0), .unset, .unset, .unset, .unset] [(.int tag), (.int (48 : Int32)), (.int ((Int32.ofNat s) + (1 : Int32))), (.ref ma)] := (H.iload at_137 (H.bipush (z := (48 : Int32)) at_135 (H.iadd at_134 (H.iconst (z := (1 : Int32)) at_133 (H.iload at_131 (H.aload at_129 r244 rfl rfl) rfl) rfl)) rfl) rfl)
  have r246 : W h0 10 80 148 #[.val (.long fl), .second, .val (.long md), .second, .val (.int first), .val (.int tag), .val (.int sp), .val (.int place), .val (.ref ma), .val (.int (Int32.ofNat s)), .val (.int (Int32.ofNat 2)), .val (.int b0), .unset, .unset, .unset, .unset] [(.int ((((tag.toUInt32 >>> ((2 : Int32) &&& 31).toUInt32).toInt32) &&& (255 : Int32)) % (10 : Int32))), (.int (48 : Int32)), (.int ((Int32.ofNat s) + (1 : Int32))), (.ref ma)] := (H.irem at_147 (H.bipush (z := (10 : Int32)) at_145 (H.iand at_144 (H.sipush (z := (255 : Int32)) at_141 (H.iushr at_140 (H.iconst (z := (2 : Int32)) at_139 r245 rfl)) rfl)) rfl) (by decide))
  have r247 : W h0 10 80 150 #[.val (.long fl), .second, .val (.long md), .second, .val (.int first), .val (.int tag), .val (.int sp), .val (.int place), .val (.ref ma), .val (.int (Int32.ofNat s)), .val (.int (Int32.ofNat 2)), .val (.int b0), .unset, .unset, .unset, .unset] [(.int (((48 : Int32) + ((((tag.toUInt32 >>> ((2 : Int32) &&& 31).toUInt32).toInt32) &&& (255 : Int32)) % (10 : Int32))).toInt8.toInt32)), (.int ((Int32.ofNat s) + (1 : Int32))), (.ref ma)] := (H.i2b at_149 (H.iadd at_148 r246))
  have hx1 : (((Int32.ofNat s) + (1 : Int32))).toInt = ((s + 1 : Nat) : Int) := by rw [show ((Int32.ofNat s) + (1 : Int32)) = Int32.ofNat (s + 1) from (Int32.ofNat_add s 1).symm]; exact own_ofNat (by omega)
  obtain ⟨h248, w249, A250, r251⟩ := H.putB (i := (s + 1)) (z := ((((48 : Int32) + ((((tag.toUInt32 >>> ((2 : Int32) &&& 31).toUInt32).toInt32) &&& (255 : Int32)) % (10 : Int32))).toInt8.toInt32).toInt8.toInt32)) rfl A0 hx1 (by first | (simp only [List.length_set]; omega) | omega | (simp; omega) | simp) N0 at_150 r247
  have Z252 : n0 ≤ h248.size := by rw [w249.size]; exact Z0
  replace r251 : W h248 10 80 151 #[.val (.long fl), .second, .val (.long md), .second, .val (.int first), .val (.int tag), .val (.int sp), .val (.int place), .val (.ref ma), .val (.int (Int32.ofNat s)), .val (.int (Int32.ofNat 2)), .val (.int b0), .unset, .unset, .unset, .unset] [] := r251
  have hg1 := own_dg ((tag.toUInt32 >>> ((2 : Int32) &&& 31).toUInt32).toInt32)
  rw [own_bb] at A250
  generalize (((48 : Int32) + ((((tag.toUInt32 >>> ((2 : Int32) &&& 31).toUInt32).toInt32) &&& (255 : Int32)) % (10 : Int32))).toInt8.toInt32) = d1 at A250 hg1
  have r253 : W h248 10 80 157 #[.val (.long fl), .second, .val (.long md), .second, .val (.int first), .val (.int tag), .val (.int sp), .val (.int place), .val (.ref ma), .val (.int (Int32.ofNat s)), .val (.int (Int32.ofNat 2)), .val (.int b0), .unset, .unset, .unset, .unset] [] := (H.icmpNo at_154 (H.iconst (z := (2 : Int32)) at_153 (H.iload at_151 r251 rfl) rfl) (flt (by decide)).1)
  have r254 : W h248 10 80 167 #[.val (.long fl), .second, .val (.long md), .second, .val (.int first), .val (.int tag), .val (.int sp), .val (.int place), .val (.ref ma), .val (.int (Int32.ofNat s)), .val (.int (Int32.ofNat 2)), .val (.int b0), .unset, .unset, .unset, .unset] [(.int tag), (.int (48 : Int32)), (.int ((Int32.ofNat s) + (2 : Int32))), (.ref ma)] := (H.iload at_165 (H.bipush (z := (48 : Int32)) at_163 (H.iadd at_162 (H.iconst (z := (2 : Int32)) at_161 (H.iload at_159 (H.aload at_157 r253 rfl rfl) rfl) rfl)) rfl) rfl)
  have r255 : W h248 10 80 177 #[.val (.long fl), .second, .val (.long md), .second, .val (.int first), .val (.int tag), .val (.int sp), .val (.int place), .val (.ref ma), .val (.int (Int32.ofNat s)), .val (.int (Int32.ofNat 2)), .val (.int b0), .unset, .unset, .unset, .unset] [(.int ((((tag.toUInt32 >>> ((10 : Int32) &&& 31).toUInt32).toInt32) &&& (255 : Int32)) % (10 : Int32))), (.int (48 : Int32)), (.int ((Int32.ofNat s) + (2 : Int32))), (.ref ma)] := (H.irem at_176 (H.bipush (z := (10 : Int32)) at_174 (H.iand at_173 (H.sipush (z := (255 : Int32)) at_170 (H.iushr at_169 (H.bipush (z := (10 : Int32)) at_167 r254 rfl)) rfl)) rfl) (by decide))
  have r256 : W h248 10 80 179 #[.val (.long fl), .second, .val (.long md), .second, .val (.int first), .val (.int tag), .val (.int sp), .val (.int place), .val (.ref ma), .val (.int (Int32.ofNat s)), .val (.int (Int32.ofNat 2)), .val (.int b0), .unset, .unset, .unset, .unset] [(.int (((48 : Int32) + ((((tag.toUInt32 >>> ((10 : Int32) &&& 31).toUInt32).toInt32) &&& (255 : Int32)) % (10 : Int32))).toInt8.toInt32)), (.int ((Int32.ofNat s) + (2 : Int32))), (.ref ma)] := (H.i2b at_178 (H.iadd at_177 r255))
  have hx2 : (((Int32.ofNat s) + (2 : Int32))).toInt = ((s + 2 : Nat) : Int) := by rw [show ((Int32.ofNat s) + (2 : Int32)) = Int32.ofNat (s + 2) from (Int32.ofNat_add s 2).symm]; exact own_ofNat (by omega)
  obtain ⟨h257, w258, A259, r260⟩ := H.putB (i := (s + 2)) (z := ((((48 : Int32) + ((((tag.toUInt32 >>> ((10 : Int32) &&& 31).toUInt32).toInt32) &&& (255 : Int32)) % (10 : Int32))).toInt8.toInt32).toInt8.toInt32)) rfl A250 hx2 (by first | (simp only [List.length_set]; omega) | omega | (simp; omega) | simp) N0 at_179 r256
  have Z261 : n0 ≤ h257.size := by rw [w258.size]; exact Z252
  replace r260 : W h257 10 80 180 #[.val (.long fl), .second, .val (.long md), .second, .val (.int first), .val (.int tag), .val (.int sp), .val (.int place), .val (.ref ma), .val (.int (Int32.ofNat s)), .val (.int (Int32.ofNat 2)), .val (.int b0), .unset, .unset, .unset, .unset] [] := r260
  have hg2 := own_dg ((tag.toUInt32 >>> ((10 : Int32) &&& 31).toUInt32).toInt32)
  rw [own_bb] at A259
  generalize (((48 : Int32) + ((((tag.toUInt32 >>> ((10 : Int32) &&& 31).toUInt32).toInt32) &&& (255 : Int32)) % (10 : Int32))).toInt8.toInt32) = d2 at A259 hg2
  have r262 : W h257 10 80 209 #[.val (.long fl), .second, .val (.long md), .second, .val (.int first), .val (.int tag), .val (.int sp), .val (.int place), .val (.ref ma), .val (.int (Int32.ofNat s)), .val (.int (Int32.ofNat 2)), .val (.int b0), .unset, .unset, .unset, .unset] [] := (H.icmpYes (pc' := 209) at_183 (H.iconst (z := (3 : Int32)) at_182 (H.iload at_180 r260 rfl) rfl) (by decide) (by decide) (tlt (by decide)).1)
  have r263 : W h257 10 80 216 #[.val (.long fl), .second, .val (.long md), .second, .val (.int first), .val (.int tag), .val (.int sp), .val (.int place), .val (.ref ma), .val (.int (Int32.ofNat s)), .val (.int (Int32.ofNat 2)), .val (.int b0), .unset, .unset, .unset, .unset] [(.int (((Int32.ofNat s) + (1 : Int32)) + (Int32.ofNat 2)))] := (H.iadd at_215 (H.iload at_213 (H.iadd at_212 (H.iconst (z := (1 : Int32)) at_211 (H.iload at_209 r262 rfl) rfl)) rfl))
  rw [show (((Int32.ofNat s) + (1 : Int32)) + (Int32.ofNat 2)) = Int32.ofNat (s + 3) from by rw [own_succ, ← Int32.ofNat_add]] at r263
  have r264 : W h257 10 80 218 #[.val (.long fl), .second, .val (.long md), .second, .val (.int first), .val (.int tag), .val (.int sp), .val (.int place), .val (.ref ma), .val (.int (Int32.ofNat s)), .val (.int (Int32.ofNat 2)), .val (.int b0), .val (.int (Int32.ofNat (s + 3))), .unset, .unset, .unset] [] := (H.istore at_216 r263 rfl)
  have r265 : W h257 10 80 224 #[.val (.long fl), .second, .val (.long md), .second, .val (.int first), .val (.int tag), .val (.int sp), .val (.int place), .val (.ref ma), .val (.int (Int32.ofNat s)), .val (.int (Int32.ofNat 2)), .val (.int b0), .val (.int (Int32.ofNat (s + 3))), .unset, .unset, .unset] [(.int (sp &&& (511 : Int32)))] := (H.iand at_223 (H.sipush (z := (511 : Int32)) at_220 (H.iload at_218 r264 rfl) rfl))
  obtain ⟨_, h9, ⟨zs, rfl, hzs, K9⟩, r266⟩ := H.callS (w := 0) (argsL := [(.int (sp &&& (511 : Int32)))]) (rest := []) (hw _ (List.mem_of_getElem? (i := 6) rfl)) (hw _ (List.mem_of_getElem? (i := 7) rfl)) (hw _ (List.mem_of_getElem? (i := 3) rfl)) (hw _ (List.mem_of_getElem? (i := 8) rfl)) (by decide) pd_0 (by decide) (by decide) (by decide) (by decide) (pick_ct hw (sp &&& (511 : Int32)) h257 n0 Z261) rfl rfl (Nat.le_of_eq rfl) rfl at_224 r265
  have Z267 : n0 ≤ h9.size := Nat.le_trans Z261 K9.1
  replace r266 : W h9 11 88 227 #[.val (.long fl), .second, .val (.long md), .second, .val (.int first), .val (.int tag), .val (.int sp), .val (.int place), .val (.ref ma), .val (.int (Int32.ofNat s)), .val (.int (Int32.ofNat 2)), .val (.int b0), .val (.int (Int32.ofNat (s + 3))), .unset, .unset, .unset] [(.int zs)] := r266
  have r268 : W h9 11 88 229 #[.val (.long fl), .second, .val (.long md), .second, .val (.int first), .val (.int tag), .val (.int sp), .val (.int place), .val (.ref ma), .val (.int (Int32.ofNat s)), .val (.int (Int32.ofNat 2)), .val (.int b0), .val (.int (Int32.ofNat (s + 3))), .val (.int zs), .unset, .unset] [] := (H.istore at_227 r266 rfl)
  have r269 : W h9 11 88 231 #[.val (.long fl), .second, .val (.long md), .second, .val (.int first), .val (.int tag), .val (.int sp), .val (.int place), .val (.ref ma), .val (.int (Int32.ofNat s)), .val (.int (Int32.ofNat 2)), .val (.int b0), .val (.int (Int32.ofNat (s + 3))), .val (.int zs), .unset, .unset] [(.int zs)] := (H.iload at_229 r268 rfl)
  have r270 : W h9 11 88 234 #[.val (.long fl), .second, .val (.long md), .second, .val (.int first), .val (.int tag), .val (.int sp), .val (.int place), .val (.ref ma), .val (.int (Int32.ofNat s)), .val (.int (Int32.ofNat 2)), .val (.int b0), .val (.int (Int32.ofNat (s + 3))), .val (.int zs), .unset, .unset] [(.int (if ¬ zs < (48 : Int32) ∧ ¬ (57 : Int32) < zs then (1 : Int32) else (0 : Int32)))] := H.callSP (w := 0) (argsL := [(.int zs)]) (rest := []) (hw _ (List.mem_of_getElem? (i := 10) rfl)) (hw _ (List.mem_of_getElem? (i := 11) rfl)) (hw _ (List.mem_of_getElem? (i := 3) rfl)) (hw _ (List.mem_of_getElem? (i := 12) rfl)) (by decide) pd_2 (by decide) (by decide) (by decide) (by decide) (isd_ct hw zs h9 n0) rfl rfl (Nat.le_of_eq rfl) rfl at_231 r269
  by_cases hdg : (if ¬ zs < (48 : Int32) ∧ ¬ (57 : Int32) < zs then (1 : Int32) else (0 : Int32)) = (0 : Int32)
  · have r271 : W h9 11 88 245 #[.val (.long fl), .second, .val (.long md), .second, .val (.int first), .val (.int tag), .val (.int sp), .val (.int place), .val (.ref ma), .val (.int (Int32.ofNat s)), .val (.int (Int32.ofNat 2)), .val (.int b0), .val (.int (Int32.ofNat (s + 3))), .val (.int zs), .unset, .unset] [] := (H.ifYes (pc' := 245) at_234 r270 (by decide) (by decide) (teq hdg).1)
    have hnd : zs < 48 ∨ 57 < zs := own_nd hdg
    have r273 : W h9 11 88 251 #[.val (.long fl), .second, .val (.long md), .second, .val (.int first), .val (.int tag), .val (.int sp), .val (.int place), .val (.ref ma), .val (.int (Int32.ofNat s)), .val (.int (Int32.ofNat 2)), .val (.int b0), .val (.int (Int32.ofNat (s + 3))), .val (.int zs), .unset, .unset] [(.int zs), (.int (Int32.ofNat (s + 3))), (.ref ma)] := (H.iload at_249 (H.iload at_247 (H.aload at_245 r271 rfl rfl) rfl) rfl)
    have F274 := A259.keep K9 nin0
    obtain ⟨h275, w276, A277, r278⟩ := H.putB (i := (s + 3)) (z := zs) hzs F274 (own_ofNat (by omega)) (by first | (simp only [List.length_set]; omega) | omega | (simp; omega) | simp) N0 at_251 r273
    have Z279 : n0 ≤ h275.size := by rw [w276.size]; exact Z267
    replace r278 : W h275 11 88 252 #[.val (.long fl), .second, .val (.long md), .second, .val (.int first), .val (.int tag), .val (.int sp), .val (.int place), .val (.ref ma), .val (.int (Int32.ofNat s)), .val (.int (Int32.ofNat 2)), .val (.int b0), .val (.int (Int32.ofNat (s + 3))), .val (.int zs), .unset, .unset] [] := r278
    exact tail hw fl md first tag sp place b0 zs ma s 2 (s + 3) hs (by omega) (by omega) (own_mk2 vs s b0 zs d1 d2 hlen hs hb0 hg1 hg2 hnd) A277 H r278
  · have r272 : W h9 11 88 237 #[.val (.long fl), .second, .val (.long md), .second, .val (.int first), .val (.int tag), .val (.int sp), .val (.int place), .val (.ref ma), .val (.int (Int32.ofNat s)), .val (.int (Int32.ofNat 2)), .val (.int b0), .val (.int (Int32.ofNat (s + 3))), .val (.int zs), .unset, .unset] [] := (H.ifNo at_234 r270 (feq hdg).1)
    have hyd : ¬ zs < 48 ∧ ¬ 57 < zs := own_yd hdg
    have r280 : W h9 11 88 243 #[.val (.long fl), .second, .val (.long md), .second, .val (.int first), .val (.int tag), .val (.int sp), .val (.int place), .val (.ref ma), .val (.int (Int32.ofNat s)), .val (.int (Int32.ofNat 2)), .val (.int b0), .val (.int (Int32.ofNat (s + 3))), .val (.int zs), .unset, .unset] [(.int ((zs ^^^ (64 : Int32)).toInt8.toInt32))] := (H.i2b at_242 (H.ixor at_241 (H.bipush (z := (64 : Int32)) at_239 (H.iload at_237 r272 rfl) rfl)))
    have hsb := own_turned zs hyd.1 hyd.2
    have hsq := own_bb (zs ^^^ (64 : Int32))
    generalize ((zs ^^^ (64 : Int32)).toInt8.toInt32) = sb at r280 hsb hsq
    have r281 : W h9 11 88 245 #[.val (.long fl), .second, .val (.long md), .second, .val (.int first), .val (.int tag), .val (.int sp), .val (.int place), .val (.ref ma), .val (.int (Int32.ofNat s)), .val (.int (Int32.ofNat 2)), .val (.int b0), .val (.int (Int32.ofNat (s + 3))), .val (.int sb), .unset, .unset] [] := (H.istore at_243 r280 rfl)
    have r282 : W h9 11 88 251 #[.val (.long fl), .second, .val (.long md), .second, .val (.int first), .val (.int tag), .val (.int sp), .val (.int place), .val (.ref ma), .val (.int (Int32.ofNat s)), .val (.int (Int32.ofNat 2)), .val (.int b0), .val (.int (Int32.ofNat (s + 3))), .val (.int sb), .unset, .unset] [(.int sb), (.int (Int32.ofNat (s + 3))), (.ref ma)] := (H.iload at_249 (H.iload at_247 (H.aload at_245 r281 rfl rfl) rfl) rfl)
    have F283 := A259.keep K9 nin0
    obtain ⟨h284, w285, A286, r287⟩ := H.putB (i := (s + 3)) (z := sb) hsq F283 (own_ofNat (by omega)) (by first | (simp only [List.length_set]; omega) | omega | (simp; omega) | simp) N0 at_251 r282
    have Z288 : n0 ≤ h284.size := by rw [w285.size]; exact Z267
    replace r287 : W h284 11 88 252 #[.val (.long fl), .second, .val (.long md), .second, .val (.int first), .val (.int tag), .val (.int sp), .val (.int place), .val (.ref ma), .val (.int (Int32.ofNat s)), .val (.int (Int32.ofNat 2)), .val (.int b0), .val (.int (Int32.ofNat (s + 3))), .val (.int sb), .unset, .unset] [] := r287
    exact tail hw fl md first tag sp place b0 sb ma s 2 (s + 3) hs (by omega) (by omega) (own_mk2 vs s b0 sb d1 d2 hlen hs hb0 hg1 hg2 (Or.inr hsb)) A286 H r287
set_option maxRecDepth 65536 in
set_option maxHeartbeats 40000000 in
theorem road3 {l : Launch} {Z : State} {a0 : Array Value} (hw : ∀ d ∈ tables_1, d.before a0 Z = true) {n0 : Nat} {W : WT} {V : VT} {h0 : Heap} {vs : List Value} (fl md : Int64) (first tag sp place b0 : Int32) (ma : Addr) (s : Nat) (hs : s < 3) (hlen : vs.length = 8) (hb0 : vs[s]? = some (.int b0)) (Z0 : n0 ≤ h0.size) (N0 : n0 ≤ ma) (A0 : Ary Z h0 ma .byte vs) (H : Wk l Z Jvm.Pilot.@@N@@.x code maxLocals ret room_1 n0 W V) (r0 : W h0 10 80 123 #[.val (.long fl), .second, .val (.long md), .second, .val (.int first), .val (.int tag), .val (.int sp), .val (.int place), .val (.ref ma), .val (.int (Int32.ofNat s)), .val (.int (Int32.ofNat 3)), .val (.int b0), .unset, .unset, .unset, .unset] []) : ∃ v h', V v h' ∧ v = some (.int 1) := by
  have r289 : W h0 10 80 129 #[.val (.long fl), .second, .val (.long md), .second, .val (.int first), .val (.int tag), .val (.int sp), .val (.int place), .val (.ref ma), .val (.int (Int32.ofNat s)), .val (.int (Int32.ofNat 3)), .val (.int b0), .unset, .unset, .unset, .unset] [] := (H.icmpNo at_126 (H.iconst (z := (1 : Int32)) at_125 (H.iload at_123 r0 rfl) rfl) (flt (by decide)).1)
  have r290 : W h0 10 80 139 #[.val (.long fl), .second, .val (.long md), .second, .val (.int first), .val (.int tag), .val (.int sp), .val (.int place), .val (.ref ma), .val (.int (Int32.ofNat s)), .val (.int (Int32.ofNat 3)), .val (.int b0), .unset, .unset, .unset, .unset] [(.int tag), (.int (48 : Int32)), (.int ((Int32.ofNat s) + (1 : Int32))), (.ref ma)] := (H.iload at_137 (H.bipush (z := (48 : Int32)) at_135 (H.iadd at_134 (H.iconst (z := (1 : Int32)) at_133 (H.iload at_131 (H.aload at_129 r289 rfl rfl) rfl) rfl)) rfl) rfl)
  have r291 : W h0 10 80 148 #[.val (.long fl), .second, .val (.long md), .second, .val (.int first), .val (.int tag), .val (.int sp), .val (.int place), .val (.ref ma), .val (.int (Int32.ofNat s)), .val (.int (Int32.ofNat 3)), .val (.int b0), .unset, .unset, .unset, .unset] [(.int ((((tag.toUInt32 >>> ((2 : Int32) &&& 31).toUInt32).toInt32) &&& (255 : Int32)) % (10 : Int32))), (.int (48 : Int32)), (.int ((Int32.ofNat s) + (1 : Int32))), (.ref ma)] := (H.irem at_147 (H.bipush (z := (10 : Int32)) at_145 (H.iand at_144 (H.sipush (z := (255 : Int32)) at_141 (H.iushr at_140 (H.iconst (z := (2 : Int32)) at_139 r290 rfl)) rfl)) rfl) (by decide))
  have r292 : W h0 10 80 150 #[.val (.long fl), .second, .val (.long md), .second, .val (.int first), .val (.int tag), .val (.int sp), .val (.int place), .val (.ref ma), .val (.int (Int32.ofNat s)), .val (.int (Int32.ofNat 3)), .val (.int b0), .unset, .unset, .unset, .unset] [(.int (((48 : Int32) + ((((tag.toUInt32 >>> ((2 : Int32) &&& 31).toUInt32).toInt32) &&& (255 : Int32)) % (10 : Int32))).toInt8.toInt32)), (.int ((Int32.ofNat s) + (1 : Int32))), (.ref ma)] := (H.i2b at_149 (H.iadd at_148 r291))
  have hx1 : (((Int32.ofNat s) + (1 : Int32))).toInt = ((s + 1 : Nat) : Int) := by rw [show ((Int32.ofNat s) + (1 : Int32)) = Int32.ofNat (s + 1) from (Int32.ofNat_add s 1).symm]; exact own_ofNat (by omega)
  obtain ⟨h293, w294, A295, r296⟩ := H.putB (i := (s + 1)) (z := ((((48 : Int32) + ((((tag.toUInt32 >>> ((2 : Int32) &&& 31).toUInt32).toInt32) &&& (255 : Int32)) % (10 : Int32))).toInt8.toInt32).toInt8.toInt32)) rfl A0 hx1 (by first | (simp only [List.length_set]; omega) | omega | (simp; omega) | simp) N0 at_150 r292
  have Z297 : n0 ≤ h293.size := by rw [w294.size]; exact Z0
  replace r296 : W h293 10 80 151 #[.val (.long fl), .second, .val (.long md), .second, .val (.int first), .val (.int tag), .val (.int sp), .val (.int place), .val (.ref ma), .val (.int (Int32.ofNat s)), .val (.int (Int32.ofNat 3)), .val (.int b0), .unset, .unset, .unset, .unset] [] := r296
  have hg1 := own_dg ((tag.toUInt32 >>> ((2 : Int32) &&& 31).toUInt32).toInt32)
  rw [own_bb] at A295
  generalize (((48 : Int32) + ((((tag.toUInt32 >>> ((2 : Int32) &&& 31).toUInt32).toInt32) &&& (255 : Int32)) % (10 : Int32))).toInt8.toInt32) = d1 at A295 hg1
  have r298 : W h293 10 80 157 #[.val (.long fl), .second, .val (.long md), .second, .val (.int first), .val (.int tag), .val (.int sp), .val (.int place), .val (.ref ma), .val (.int (Int32.ofNat s)), .val (.int (Int32.ofNat 3)), .val (.int b0), .unset, .unset, .unset, .unset] [] := (H.icmpNo at_154 (H.iconst (z := (2 : Int32)) at_153 (H.iload at_151 r296 rfl) rfl) (flt (by decide)).1)
  have r299 : W h293 10 80 167 #[.val (.long fl), .second, .val (.long md), .second, .val (.int first), .val (.int tag), .val (.int sp), .val (.int place), .val (.ref ma), .val (.int (Int32.ofNat s)), .val (.int (Int32.ofNat 3)), .val (.int b0), .unset, .unset, .unset, .unset] [(.int tag), (.int (48 : Int32)), (.int ((Int32.ofNat s) + (2 : Int32))), (.ref ma)] := (H.iload at_165 (H.bipush (z := (48 : Int32)) at_163 (H.iadd at_162 (H.iconst (z := (2 : Int32)) at_161 (H.iload at_159 (H.aload at_157 r298 rfl rfl) rfl) rfl)) rfl) rfl)
  have r300 : W h293 10 80 177 #[.val (.long fl), .second, .val (.long md), .second, .val (.int first), .val (.int tag), .val (.int sp), .val (.int place), .val (.ref ma), .val (.int (Int32.ofNat s)), .val (.int (Int32.ofNat 3)), .val (.int b0), .unset, .unset, .unset, .unset] [(.int ((((tag.toUInt32 >>> ((10 : Int32) &&& 31).toUInt32).toInt32) &&& (255 : Int32)) % (10 : Int32))), (.int (48 : Int32)), (.int ((Int32.ofNat s) + (2 : Int32))), (.ref ma)] := (H.irem at_176 (H.bipush (z := (10 : Int32)) at_174 (H.iand at_173 (H.sipush (z := (255 : Int32)) at_170 (H.iushr at_169 (H.bipush (z := (10 : Int32)) at_167 r299 rfl)) rfl)) rfl) (by decide))
  have r301 : W h293 10 80 179 #[.val (.long fl), .second, .val (.long md), .second, .val (.int first), .val (.int tag), .val (.int sp), .val (.int place), .val (.ref ma), .val (.int (Int32.ofNat s)), .val (.int (Int32.ofNat 3)), .val (.int b0), .unset, .unset, .unset, .unset] [(.int (((48 : Int32) + ((((tag.toUInt32 >>> ((10 : Int32) &&& 31).toUInt32).toInt32) &&& (255 : Int32)) % (10 : Int32))).toInt8.toInt32)), (.int ((Int32.ofNat s) + (2 : Int32))), (.ref ma)] := (H.i2b at_178 (H.iadd at_177 r300))
  have hx2 : (((Int32.ofNat s) + (2 : Int32))).toInt = ((s + 2 : Nat) : Int) := by rw [show ((Int32.ofNat s) + (2 : Int32)) = Int32.ofNat (s + 2) from (Int32.ofNat_add s 2).symm]; exact own_ofNat (by omega)
  obtain ⟨h302, w303, A304, r305⟩ := H.putB (i := (s + 2)) (z := ((((48 : Int32) + ((((tag.toUInt32 >>> ((10 : Int32) &&& 31).toUInt32).toInt32) &&& (255 : Int32)) % (10 : Int32))).toInt8.toInt32).toInt8.toInt32)) rfl A295 hx2 (by first | (simp only [List.length_set]; omega) | omega | (simp; omega) | simp) N0 at_179 r301
  have Z306 : n0 ≤ h302.size := by rw [w303.size]; exact Z297
  replace r305 : W h302 10 80 180 #[.val (.long fl), .second, .val (.long md), .second, .val (.int first), .val (.int tag), .val (.int sp), .val (.int place), .val (.ref ma), .val (.int (Int32.ofNat s)), .val (.int (Int32.ofNat 3)), .val (.int b0), .unset, .unset, .unset, .unset] [] := r305
  have hg2 := own_dg ((tag.toUInt32 >>> ((10 : Int32) &&& 31).toUInt32).toInt32)
  rw [own_bb] at A304
  generalize (((48 : Int32) + ((((tag.toUInt32 >>> ((10 : Int32) &&& 31).toUInt32).toInt32) &&& (255 : Int32)) % (10 : Int32))).toInt8.toInt32) = d2 at A304 hg2
  have r307 : W h302 10 80 186 #[.val (.long fl), .second, .val (.long md), .second, .val (.int first), .val (.int tag), .val (.int sp), .val (.int place), .val (.ref ma), .val (.int (Int32.ofNat s)), .val (.int (Int32.ofNat 3)), .val (.int b0), .unset, .unset, .unset, .unset] [] := (H.icmpNo at_183 (H.iconst (z := (3 : Int32)) at_182 (H.iload at_180 r305 rfl) rfl) (flt (by decide)).1)
  have r308 : W h302 10 80 196 #[.val (.long fl), .second, .val (.long md), .second, .val (.int first), .val (.int tag), .val (.int sp), .val (.int place), .val (.ref ma), .val (.int (Int32.ofNat s)), .val (.int (Int32.ofNat 3)), .val (.int b0), .unset, .unset, .unset, .unset] [(.int tag), (.int (48 : Int32)), (.int ((Int32.ofNat s) + (3 : Int32))), (.ref ma)] := (H.iload at_194 (H.bipush (z := (48 : Int32)) at_192 (H.iadd at_191 (H.iconst (z := (3 : Int32)) at_190 (H.iload at_188 (H.aload at_186 r307 rfl rfl) rfl) rfl)) rfl) rfl)
  have r309 : W h302 10 80 206 #[.val (.long fl), .second, .val (.long md), .second, .val (.int first), .val (.int tag), .val (.int sp), .val (.int place), .val (.ref ma), .val (.int (Int32.ofNat s)), .val (.int (Int32.ofNat 3)), .val (.int b0), .unset, .unset, .unset, .unset] [(.int ((((tag.toUInt32 >>> ((18 : Int32) &&& 31).toUInt32).toInt32) &&& (255 : Int32)) % (10 : Int32))), (.int (48 : Int32)), (.int ((Int32.ofNat s) + (3 : Int32))), (.ref ma)] := (H.irem at_205 (H.bipush (z := (10 : Int32)) at_203 (H.iand at_202 (H.sipush (z := (255 : Int32)) at_199 (H.iushr at_198 (H.bipush (z := (18 : Int32)) at_196 r308 rfl)) rfl)) rfl) (by decide))
  have r310 : W h302 10 80 208 #[.val (.long fl), .second, .val (.long md), .second, .val (.int first), .val (.int tag), .val (.int sp), .val (.int place), .val (.ref ma), .val (.int (Int32.ofNat s)), .val (.int (Int32.ofNat 3)), .val (.int b0), .unset, .unset, .unset, .unset] [(.int (((48 : Int32) + ((((tag.toUInt32 >>> ((18 : Int32) &&& 31).toUInt32).toInt32) &&& (255 : Int32)) % (10 : Int32))).toInt8.toInt32)), (.int ((Int32.ofNat s) + (3 : Int32))), (.ref ma)] := (H.i2b at_207 (H.iadd at_206 r309))
  have hx3 : (((Int32.ofNat s) + (3 : Int32))).toInt = ((s + 3 : Nat) : Int) := by rw [show ((Int32.ofNat s) + (3 : Int32)) = Int32.ofNat (s + 3) from (Int32.ofNat_add s 3).symm]; exact own_ofNat (by omega)
  obtain ⟨h311, w312, A313, r314⟩ := H.putB (i := (s + 3)) (z := ((((48 : Int32) + ((((tag.toUInt32 >>> ((18 : Int32) &&& 31).toUInt32).toInt32) &&& (255 : Int32)) % (10 : Int32))).toInt8.toInt32).toInt8.toInt32)) rfl A304 hx3 (by first | (simp only [List.length_set]; omega) | omega | (simp; omega) | simp) N0 at_208 r310
  have Z315 : n0 ≤ h311.size := by rw [w312.size]; exact Z306
  replace r314 : W h311 10 80 209 #[.val (.long fl), .second, .val (.long md), .second, .val (.int first), .val (.int tag), .val (.int sp), .val (.int place), .val (.ref ma), .val (.int (Int32.ofNat s)), .val (.int (Int32.ofNat 3)), .val (.int b0), .unset, .unset, .unset, .unset] [] := r314
  have hg3 := own_dg ((tag.toUInt32 >>> ((18 : Int32) &&& 31).toUInt32).toInt32)
  rw [own_bb] at A313
  generalize (((48 : Int32) + ((((tag.toUInt32 >>> ((18 : Int32) &&& 31).toUInt32).toInt32) &&& (255 : Int32)) % (10 : Int32))).toInt8.toInt32) = d3 at A313 hg3
  have r316 : W h311 10 80 216 #[.val (.long fl), .second, .val (.long md), .second, .val (.int first), .val (.int tag), .val (.int sp), .val (.int place), .val (.ref ma), .val (.int (Int32.ofNat s)), .val (.int (Int32.ofNat 3)), .val (.int b0), .unset, .unset, .unset, .unset] [(.int (((Int32.ofNat s) + (1 : Int32)) + (Int32.ofNat 3)))] := (H.iadd at_215 (H.iload at_213 (H.iadd at_212 (H.iconst (z := (1 : Int32)) at_211 (H.iload at_209 r314 rfl) rfl)) rfl))
  rw [show (((Int32.ofNat s) + (1 : Int32)) + (Int32.ofNat 3)) = Int32.ofNat (s + 4) from by rw [own_succ, ← Int32.ofNat_add]] at r316
  have r317 : W h311 10 80 218 #[.val (.long fl), .second, .val (.long md), .second, .val (.int first), .val (.int tag), .val (.int sp), .val (.int place), .val (.ref ma), .val (.int (Int32.ofNat s)), .val (.int (Int32.ofNat 3)), .val (.int b0), .val (.int (Int32.ofNat (s + 4))), .unset, .unset, .unset] [] := (H.istore at_216 r316 rfl)
  have r318 : W h311 10 80 224 #[.val (.long fl), .second, .val (.long md), .second, .val (.int first), .val (.int tag), .val (.int sp), .val (.int place), .val (.ref ma), .val (.int (Int32.ofNat s)), .val (.int (Int32.ofNat 3)), .val (.int b0), .val (.int (Int32.ofNat (s + 4))), .unset, .unset, .unset] [(.int (sp &&& (511 : Int32)))] := (H.iand at_223 (H.sipush (z := (511 : Int32)) at_220 (H.iload at_218 r317 rfl) rfl))
  obtain ⟨_, h9, ⟨zs, rfl, hzs, K9⟩, r319⟩ := H.callS (w := 0) (argsL := [(.int (sp &&& (511 : Int32)))]) (rest := []) (hw _ (List.mem_of_getElem? (i := 6) rfl)) (hw _ (List.mem_of_getElem? (i := 7) rfl)) (hw _ (List.mem_of_getElem? (i := 3) rfl)) (hw _ (List.mem_of_getElem? (i := 8) rfl)) (by decide) pd_0 (by decide) (by decide) (by decide) (by decide) (pick_ct hw (sp &&& (511 : Int32)) h311 n0 Z315) rfl rfl (Nat.le_of_eq rfl) rfl at_224 r318
  have Z320 : n0 ≤ h9.size := Nat.le_trans Z315 K9.1
  replace r319 : W h9 11 88 227 #[.val (.long fl), .second, .val (.long md), .second, .val (.int first), .val (.int tag), .val (.int sp), .val (.int place), .val (.ref ma), .val (.int (Int32.ofNat s)), .val (.int (Int32.ofNat 3)), .val (.int b0), .val (.int (Int32.ofNat (s + 4))), .unset, .unset, .unset] [(.int zs)] := r319
  have r321 : W h9 11 88 229 #[.val (.long fl), .second, .val (.long md), .second, .val (.int first), .val (.int tag), .val (.int sp), .val (.int place), .val (.ref ma), .val (.int (Int32.ofNat s)), .val (.int (Int32.ofNat 3)), .val (.int b0), .val (.int (Int32.ofNat (s + 4))), .val (.int zs), .unset, .unset] [] := (H.istore at_227 r319 rfl)
  have r322 : W h9 11 88 231 #[.val (.long fl), .second, .val (.long md), .second, .val (.int first), .val (.int tag), .val (.int sp), .val (.int place), .val (.ref ma), .val (.int (Int32.ofNat s)), .val (.int (Int32.ofNat 3)), .val (.int b0), .val (.int (Int32.ofNat (s + 4))), .val (.int zs), .unset, .unset] [(.int zs)] := (H.iload at_229 r321 rfl)
  have r323 : W h9 11 88 234 #[.val (.long fl), .second, .val (.long md), .second, .val (.int first), .val (.int tag), .val (.int sp), .val (.int place), .val (.ref ma), .val (.int (Int32.ofNat s)), .val (.int (Int32.ofNat 3)), .val (.int b0), .val (.int (Int32.ofNat (s + 4))), .val (.int zs), .unset, .unset] [(.int (if ¬ zs < (48 : Int32) ∧ ¬ (57 : Int32) < zs then (1 : Int32) else (0 : Int32)))] := H.callSP (w := 0) (argsL := [(.int zs)]) (rest := []) (hw _ (List.mem_of_getElem? (i := 10) rfl)) (hw _ (List.mem_of_getElem? (i := 11) rfl)) (hw _ (List.mem_of_getElem? (i := 3) rfl)) (hw _ (List.mem_of_getElem? (i := 12) rfl)) (by decide) pd_2 (by decide) (by decide) (by decide) (by decide) (isd_ct hw zs h9 n0) rfl rfl (Nat.le_of_eq rfl) rfl at_231 r322
  by_cases hdg : (if ¬ zs < (48 : Int32) ∧ ¬ (57 : Int32) < zs then (1 : Int32) else (0 : Int32)) = (0 : Int32)
  · have r324 : W h9 11 88 245 #[.val (.long fl), .second, .val (.long md), .second, .val (.int first), .val (.int tag), .val (.int sp), .val (.int place), .val (.ref ma), .val (.int (Int32.ofNat s)), .val (.int (Int32.ofNat 3)), .val (.int b0), .val (.int (Int32.ofNat (s + 4))), .val (.int zs), .unset, .unset] [] := (H.ifYes (pc' := 245) at_234 r323 (by decide) (by decide) (teq hdg).1)
    have hnd : zs < 48 ∨ 57 < zs := own_nd hdg
    have r326 : W h9 11 88 251 #[.val (.long fl), .second, .val (.long md), .second, .val (.int first), .val (.int tag), .val (.int sp), .val (.int place), .val (.ref ma), .val (.int (Int32.ofNat s)), .val (.int (Int32.ofNat 3)), .val (.int b0), .val (.int (Int32.ofNat (s + 4))), .val (.int zs), .unset, .unset] [(.int zs), (.int (Int32.ofNat (s + 4))), (.ref ma)] := (H.iload at_249 (H.iload at_247 (H.aload at_245 r324 rfl rfl) rfl) rfl)
    have F327 := A313.keep K9 nin0
    obtain ⟨h328, w329, A330, r331⟩ := H.putB (i := (s + 4)) (z := zs) hzs F327 (own_ofNat (by omega)) (by first | (simp only [List.length_set]; omega) | omega | (simp; omega) | simp) N0 at_251 r326
    have Z332 : n0 ≤ h328.size := by rw [w329.size]; exact Z320
    replace r331 : W h328 11 88 252 #[.val (.long fl), .second, .val (.long md), .second, .val (.int first), .val (.int tag), .val (.int sp), .val (.int place), .val (.ref ma), .val (.int (Int32.ofNat s)), .val (.int (Int32.ofNat 3)), .val (.int b0), .val (.int (Int32.ofNat (s + 4))), .val (.int zs), .unset, .unset] [] := r331
    exact tail hw fl md first tag sp place b0 zs ma s 3 (s + 4) hs (by omega) (by omega) (own_mk3 vs s b0 zs d1 d2 d3 hlen hs hb0 hg1 hg2 hg3 hnd) A330 H r331
  · have r325 : W h9 11 88 237 #[.val (.long fl), .second, .val (.long md), .second, .val (.int first), .val (.int tag), .val (.int sp), .val (.int place), .val (.ref ma), .val (.int (Int32.ofNat s)), .val (.int (Int32.ofNat 3)), .val (.int b0), .val (.int (Int32.ofNat (s + 4))), .val (.int zs), .unset, .unset] [] := (H.ifNo at_234 r323 (feq hdg).1)
    have hyd : ¬ zs < 48 ∧ ¬ 57 < zs := own_yd hdg
    have r333 : W h9 11 88 243 #[.val (.long fl), .second, .val (.long md), .second, .val (.int first), .val (.int tag), .val (.int sp), .val (.int place), .val (.ref ma), .val (.int (Int32.ofNat s)), .val (.int (Int32.ofNat 3)), .val (.int b0), .val (.int (Int32.ofNat (s + 4))), .val (.int zs), .unset, .unset] [(.int ((zs ^^^ (64 : Int32)).toInt8.toInt32))] := (H.i2b at_242 (H.ixor at_241 (H.bipush (z := (64 : Int32)) at_239 (H.iload at_237 r325 rfl) rfl)))
    have hsb := own_turned zs hyd.1 hyd.2
    have hsq := own_bb (zs ^^^ (64 : Int32))
    generalize ((zs ^^^ (64 : Int32)).toInt8.toInt32) = sb at r333 hsb hsq
    have r334 : W h9 11 88 245 #[.val (.long fl), .second, .val (.long md), .second, .val (.int first), .val (.int tag), .val (.int sp), .val (.int place), .val (.ref ma), .val (.int (Int32.ofNat s)), .val (.int (Int32.ofNat 3)), .val (.int b0), .val (.int (Int32.ofNat (s + 4))), .val (.int sb), .unset, .unset] [] := (H.istore at_243 r333 rfl)
    have r335 : W h9 11 88 251 #[.val (.long fl), .second, .val (.long md), .second, .val (.int first), .val (.int tag), .val (.int sp), .val (.int place), .val (.ref ma), .val (.int (Int32.ofNat s)), .val (.int (Int32.ofNat 3)), .val (.int b0), .val (.int (Int32.ofNat (s + 4))), .val (.int sb), .unset, .unset] [(.int sb), (.int (Int32.ofNat (s + 4))), (.ref ma)] := (H.iload at_249 (H.iload at_247 (H.aload at_245 r334 rfl rfl) rfl) rfl)
    have F336 := A313.keep K9 nin0
    obtain ⟨h337, w338, A339, r340⟩ := H.putB (i := (s + 4)) (z := sb) hsq F336 (own_ofNat (by omega)) (by first | (simp only [List.length_set]; omega) | omega | (simp; omega) | simp) N0 at_251 r335
    have Z341 : n0 ≤ h337.size := by rw [w338.size]; exact Z320
    replace r340 : W h337 11 88 252 #[.val (.long fl), .second, .val (.long md), .second, .val (.int first), .val (.int tag), .val (.int sp), .val (.int place), .val (.ref ma), .val (.int (Int32.ofNat s)), .val (.int (Int32.ofNat 3)), .val (.int b0), .val (.int (Int32.ofNat (s + 4))), .val (.int sb), .unset, .unset] [] := r340
    exact tail hw fl md first tag sp place b0 sb ma s 3 (s + 4) hs (by omega) (by omega) (own_mk3 vs s b0 sb d1 d2 d3 hlen hs hb0 hg1 hg2 hg3 (Or.inr hsb)) A339 H r340
set_option maxRecDepth 65536 in
set_option maxHeartbeats 40000000 in
theorem law_ct {l : Launch} {Z : State} {a0 : Array Value} (hw : ∀ d ∈ tables_1, d.before a0 Z = true) (fl md : Int64) (first tag sp place : Int32) (h0 : Heap) (n0 : Nat) (Z0 : n0 ≤ h0.size) :
    Ct l Z x code maxLocals ret room_1 n0 #[(.long fl), (.long md), (.int first), (.int tag), (.int sp), (.int place)] h0 (fun v h' => v = some (.int 1)) := by
  refine Ct.of (plainFor_of_name pn_0) (fun m => ef_0 fl md first tag sp place m) ?_
  intro W V H r0
  have r342 : W h0 0 0 2 #[.val (.long fl), .second, .val (.long md), .second, .val (.int first), .val (.int tag), .val (.int sp), .val (.int place), .unset, .unset, .unset, .unset, .unset, .unset, .unset, .unset] [(.int (8 : Int32))] := (H.bipush (z := (8 : Int32)) at_0 r0 rfl)
  obtain ⟨h343, ma, ea344, E345, A346, r347⟩ := H.newA (i := 8) (cap := 8) (d := (.int 0)) rfl rfl (hw _ (List.mem_of_getElem? (i := 0) rfl)) (by decide) (by decide) (by decide) (by decide) (by decide) at_2 r342
  have N348 : n0 ≤ ma := by rw [ea344]; exact Z0
  have Z349 : n0 ≤ h343.size := Nat.le_trans Z0 E345.1
  have A346l : Ary Z h343 ma .byte [.int 0, .int 0, .int 0, .int 0, .int 0, .int 0, .int 0, .int 0] := A346
  replace r347 : W h343 1 8 4 #[.val (.long fl), .second, .val (.long md), .second, .val (.int first), .val (.int tag), .val (.int sp), .val (.int place), .unset, .unset, .unset, .unset, .unset, .unset, .unset, .unset] [(.ref ma)] := r347
  obtain ⟨vs0, hl0, B0⟩ : ∃ vs0 : List Value, vs0.length = 8 ∧ Ary Z h343 ma .byte vs0 := ⟨_, rfl, A346l⟩
  have r350 : W h343 1 8 6 #[.val (.long fl), .second, .val (.long md), .second, .val (.int first), .val (.int tag), .val (.int sp), .val (.int place), .val (.ref ma), .unset, .unset, .unset, .unset, .unset, .unset, .unset] [] := (H.astore at_4 r347 rfl rfl)
  have r351 : W h343 1 8 12 #[.val (.long fl), .second, .val (.long md), .second, .val (.int first), .val (.int tag), .val (.int sp), .val (.int place), .val (.ref ma), .unset, .unset, .unset, .unset, .unset, .unset, .unset] [(.int (0 : Int32)), (.long md), (.long fl), (.int (0 : Int32)), (.ref ma)] := (H.iconst (z := (0 : Int32)) at_11 (H.lloadN at_10 (H.lloadN at_9 (H.iconst (z := (0 : Int32)) at_8 (H.aload at_6 r350 rfl rfl) rfl) rfl) rfl) rfl)
  obtain ⟨_, hf0, ⟨z0, rfl, hz0, K0⟩, r352⟩ := H.callS (w := 2) (argsL := [(.long fl), (.long md), (.int (0 : Int32))]) (rest := [(.int (0 : Int32)), (.ref ma)]) (hw _ (List.mem_of_getElem? (i := 1) rfl)) (hw _ (List.mem_of_getElem? (i := 2) rfl)) (hw _ (List.mem_of_getElem? (i := 3) rfl)) (hw _ (List.mem_of_getElem? (i := 4) rfl)) (by decide) pd_3 (by decide) (by decide) (by decide) (by decide) (fill_ct hw fl md (0 : Int32) h343 n0 Z349) rfl rfl (Nat.le_of_eq rfl) rfl at_12 r351
  have Z353 : n0 ≤ hf0.size := Nat.le_trans Z349 K0.1
  replace r352 : W hf0 2 16 15 #[.val (.long fl), .second, .val (.long md), .second, .val (.int first), .val (.int tag), .val (.int sp), .val (.int place), .val (.ref ma), .unset, .unset, .unset, .unset, .unset, .unset, .unset] [(.int z0), (.int (0 : Int32)), (.ref ma)] := r352
  have F354 := B0.keep K0 nin0
  obtain ⟨h355, w356, A357, r358⟩ := H.putB (i := 0) (z := z0) hz0 F354 (by decide) (by rw [hl0]; decide) N348 at_15 r352
  have Z359 : n0 ≤ h355.size := by rw [w356.size]; exact Z353
  replace r358 : W h355 2 16 16 #[.val (.long fl), .second, .val (.long md), .second, .val (.int first), .val (.int tag), .val (.int sp), .val (.int place), .val (.ref ma), .unset, .unset, .unset, .unset, .unset, .unset, .unset] [] := r358
  obtain ⟨vs1, hl1, B1⟩ : ∃ vs1 : List Value, vs1.length = 8 ∧ Ary Z h355 ma .byte vs1 := ⟨_, by rw [List.length_set]; exact hl0, A357⟩
  have r360 : W h355 2 16 22 #[.val (.long fl), .second, .val (.long md), .second, .val (.int first), .val (.int tag), .val (.int sp), .val (.int place), .val (.ref ma), .unset, .unset, .unset, .unset, .unset, .unset, .unset] [(.int (1 : Int32)), (.long md), (.long fl), (.int (1 : Int32)), (.ref ma)] := (H.iconst (z := (1 : Int32)) at_21 (H.lloadN at_20 (H.lloadN at_19 (H.iconst (z := (1 : Int32)) at_18 (H.aload at_16 r358 rfl rfl) rfl) rfl) rfl) rfl)
  obtain ⟨_, hf1, ⟨z1, rfl, hz1, K1⟩, r361⟩ := H.callS (w := 2) (argsL := [(.long fl), (.long md), (.int (1 : Int32))]) (rest := [(.int (1 : Int32)), (.ref ma)]) (hw _ (List.mem_of_getElem? (i := 1) rfl)) (hw _ (List.mem_of_getElem? (i := 2) rfl)) (hw _ (List.mem_of_getElem? (i := 3) rfl)) (hw _ (List.mem_of_getElem? (i := 4) rfl)) (by decide) pd_3 (by decide) (by decide) (by decide) (by decide) (fill_ct hw fl md (1 : Int32) h355 n0 Z359) rfl rfl (Nat.le_of_eq rfl) rfl at_22 r360
  have Z362 : n0 ≤ hf1.size := Nat.le_trans Z359 K1.1
  replace r361 : W hf1 3 24 25 #[.val (.long fl), .second, .val (.long md), .second, .val (.int first), .val (.int tag), .val (.int sp), .val (.int place), .val (.ref ma), .unset, .unset, .unset, .unset, .unset, .unset, .unset] [(.int z1), (.int (1 : Int32)), (.ref ma)] := r361
  have F363 := B1.keep K1 nin0
  obtain ⟨h364, w365, A366, r367⟩ := H.putB (i := 1) (z := z1) hz1 F363 (by decide) (by rw [hl1]; decide) N348 at_25 r361
  have Z368 : n0 ≤ h364.size := by rw [w365.size]; exact Z362
  replace r367 : W h364 3 24 26 #[.val (.long fl), .second, .val (.long md), .second, .val (.int first), .val (.int tag), .val (.int sp), .val (.int place), .val (.ref ma), .unset, .unset, .unset, .unset, .unset, .unset, .unset] [] := r367
  obtain ⟨vs2, hl2, B2⟩ : ∃ vs2 : List Value, vs2.length = 8 ∧ Ary Z h364 ma .byte vs2 := ⟨_, by rw [List.length_set]; exact hl1, A366⟩
  have r369 : W h364 3 24 32 #[.val (.long fl), .second, .val (.long md), .second, .val (.int first), .val (.int tag), .val (.int sp), .val (.int place), .val (.ref ma), .unset, .unset, .unset, .unset, .unset, .unset, .unset] [(.int (2 : Int32)), (.long md), (.long fl), (.int (2 : Int32)), (.ref ma)] := (H.iconst (z := (2 : Int32)) at_31 (H.lloadN at_30 (H.lloadN at_29 (H.iconst (z := (2 : Int32)) at_28 (H.aload at_26 r367 rfl rfl) rfl) rfl) rfl) rfl)
  obtain ⟨_, hf2, ⟨z2, rfl, hz2, K2⟩, r370⟩ := H.callS (w := 2) (argsL := [(.long fl), (.long md), (.int (2 : Int32))]) (rest := [(.int (2 : Int32)), (.ref ma)]) (hw _ (List.mem_of_getElem? (i := 1) rfl)) (hw _ (List.mem_of_getElem? (i := 2) rfl)) (hw _ (List.mem_of_getElem? (i := 3) rfl)) (hw _ (List.mem_of_getElem? (i := 4) rfl)) (by decide) pd_3 (by decide) (by decide) (by decide) (by decide) (fill_ct hw fl md (2 : Int32) h364 n0 Z368) rfl rfl (Nat.le_of_eq rfl) rfl at_32 r369
  have Z371 : n0 ≤ hf2.size := Nat.le_trans Z368 K2.1
  replace r370 : W hf2 4 32 35 #[.val (.long fl), .second, .val (.long md), .second, .val (.int first), .val (.int tag), .val (.int sp), .val (.int place), .val (.ref ma), .unset, .unset, .unset, .unset, .unset, .unset, .unset] [(.int z2), (.int (2 : Int32)), (.ref ma)] := r370
  have F372 := B2.keep K2 nin0
  obtain ⟨h373, w374, A375, r376⟩ := H.putB (i := 2) (z := z2) hz2 F372 (by decide) (by rw [hl2]; decide) N348 at_35 r370
  have Z377 : n0 ≤ h373.size := by rw [w374.size]; exact Z371
  replace r376 : W h373 4 32 36 #[.val (.long fl), .second, .val (.long md), .second, .val (.int first), .val (.int tag), .val (.int sp), .val (.int place), .val (.ref ma), .unset, .unset, .unset, .unset, .unset, .unset, .unset] [] := r376
  obtain ⟨vs3, hl3, B3⟩ : ∃ vs3 : List Value, vs3.length = 8 ∧ Ary Z h373 ma .byte vs3 := ⟨_, by rw [List.length_set]; exact hl2, A375⟩
  have r378 : W h373 4 32 42 #[.val (.long fl), .second, .val (.long md), .second, .val (.int first), .val (.int tag), .val (.int sp), .val (.int place), .val (.ref ma), .unset, .unset, .unset, .unset, .unset, .unset, .unset] [(.int (3 : Int32)), (.long md), (.long fl), (.int (3 : Int32)), (.ref ma)] := (H.iconst (z := (3 : Int32)) at_41 (H.lloadN at_40 (H.lloadN at_39 (H.iconst (z := (3 : Int32)) at_38 (H.aload at_36 r376 rfl rfl) rfl) rfl) rfl) rfl)
  obtain ⟨_, hf3, ⟨z3, rfl, hz3, K3⟩, r379⟩ := H.callS (w := 2) (argsL := [(.long fl), (.long md), (.int (3 : Int32))]) (rest := [(.int (3 : Int32)), (.ref ma)]) (hw _ (List.mem_of_getElem? (i := 1) rfl)) (hw _ (List.mem_of_getElem? (i := 2) rfl)) (hw _ (List.mem_of_getElem? (i := 3) rfl)) (hw _ (List.mem_of_getElem? (i := 4) rfl)) (by decide) pd_3 (by decide) (by decide) (by decide) (by decide) (fill_ct hw fl md (3 : Int32) h373 n0 Z377) rfl rfl (Nat.le_of_eq rfl) rfl at_42 r378
  have Z380 : n0 ≤ hf3.size := Nat.le_trans Z377 K3.1
  replace r379 : W hf3 5 40 45 #[.val (.long fl), .second, .val (.long md), .second, .val (.int first), .val (.int tag), .val (.int sp), .val (.int place), .val (.ref ma), .unset, .unset, .unset, .unset, .unset, .unset, .unset] [(.int z3), (.int (3 : Int32)), (.ref ma)] := r379
  have F381 := B3.keep K3 nin0
  obtain ⟨h382, w383, A384, r385⟩ := H.putB (i := 3) (z := z3) hz3 F381 (by decide) (by rw [hl3]; decide) N348 at_45 r379
  have Z386 : n0 ≤ h382.size := by rw [w383.size]; exact Z380
  replace r385 : W h382 5 40 46 #[.val (.long fl), .second, .val (.long md), .second, .val (.int first), .val (.int tag), .val (.int sp), .val (.int place), .val (.ref ma), .unset, .unset, .unset, .unset, .unset, .unset, .unset] [] := r385
  obtain ⟨vs4, hl4, B4⟩ : ∃ vs4 : List Value, vs4.length = 8 ∧ Ary Z h382 ma .byte vs4 := ⟨_, by rw [List.length_set]; exact hl3, A384⟩
  have r387 : W h382 5 40 52 #[.val (.long fl), .second, .val (.long md), .second, .val (.int first), .val (.int tag), .val (.int sp), .val (.int place), .val (.ref ma), .unset, .unset, .unset, .unset, .unset, .unset, .unset] [(.int (4 : Int32)), (.long md), (.long fl), (.int (4 : Int32)), (.ref ma)] := (H.iconst (z := (4 : Int32)) at_51 (H.lloadN at_50 (H.lloadN at_49 (H.iconst (z := (4 : Int32)) at_48 (H.aload at_46 r385 rfl rfl) rfl) rfl) rfl) rfl)
  obtain ⟨_, hf4, ⟨z4, rfl, hz4, K4⟩, r388⟩ := H.callS (w := 2) (argsL := [(.long fl), (.long md), (.int (4 : Int32))]) (rest := [(.int (4 : Int32)), (.ref ma)]) (hw _ (List.mem_of_getElem? (i := 1) rfl)) (hw _ (List.mem_of_getElem? (i := 2) rfl)) (hw _ (List.mem_of_getElem? (i := 3) rfl)) (hw _ (List.mem_of_getElem? (i := 4) rfl)) (by decide) pd_3 (by decide) (by decide) (by decide) (by decide) (fill_ct hw fl md (4 : Int32) h382 n0 Z386) rfl rfl (Nat.le_of_eq rfl) rfl at_52 r387
  have Z389 : n0 ≤ hf4.size := Nat.le_trans Z386 K4.1
  replace r388 : W hf4 6 48 55 #[.val (.long fl), .second, .val (.long md), .second, .val (.int first), .val (.int tag), .val (.int sp), .val (.int place), .val (.ref ma), .unset, .unset, .unset, .unset, .unset, .unset, .unset] [(.int z4), (.int (4 : Int32)), (.ref ma)] := r388
  have F390 := B4.keep K4 nin0
  obtain ⟨h391, w392, A393, r394⟩ := H.putB (i := 4) (z := z4) hz4 F390 (by decide) (by rw [hl4]; decide) N348 at_55 r388
  have Z395 : n0 ≤ h391.size := by rw [w392.size]; exact Z389
  replace r394 : W h391 6 48 56 #[.val (.long fl), .second, .val (.long md), .second, .val (.int first), .val (.int tag), .val (.int sp), .val (.int place), .val (.ref ma), .unset, .unset, .unset, .unset, .unset, .unset, .unset] [] := r394
  obtain ⟨vs5, hl5, B5⟩ : ∃ vs5 : List Value, vs5.length = 8 ∧ Ary Z h391 ma .byte vs5 := ⟨_, by rw [List.length_set]; exact hl4, A393⟩
  have r396 : W h391 6 48 62 #[.val (.long fl), .second, .val (.long md), .second, .val (.int first), .val (.int tag), .val (.int sp), .val (.int place), .val (.ref ma), .unset, .unset, .unset, .unset, .unset, .unset, .unset] [(.int (5 : Int32)), (.long md), (.long fl), (.int (5 : Int32)), (.ref ma)] := (H.iconst (z := (5 : Int32)) at_61 (H.lloadN at_60 (H.lloadN at_59 (H.iconst (z := (5 : Int32)) at_58 (H.aload at_56 r394 rfl rfl) rfl) rfl) rfl) rfl)
  obtain ⟨_, hf5, ⟨z5, rfl, hz5, K5⟩, r397⟩ := H.callS (w := 2) (argsL := [(.long fl), (.long md), (.int (5 : Int32))]) (rest := [(.int (5 : Int32)), (.ref ma)]) (hw _ (List.mem_of_getElem? (i := 1) rfl)) (hw _ (List.mem_of_getElem? (i := 2) rfl)) (hw _ (List.mem_of_getElem? (i := 3) rfl)) (hw _ (List.mem_of_getElem? (i := 4) rfl)) (by decide) pd_3 (by decide) (by decide) (by decide) (by decide) (fill_ct hw fl md (5 : Int32) h391 n0 Z395) rfl rfl (Nat.le_of_eq rfl) rfl at_62 r396
  have Z398 : n0 ≤ hf5.size := Nat.le_trans Z395 K5.1
  replace r397 : W hf5 7 56 65 #[.val (.long fl), .second, .val (.long md), .second, .val (.int first), .val (.int tag), .val (.int sp), .val (.int place), .val (.ref ma), .unset, .unset, .unset, .unset, .unset, .unset, .unset] [(.int z5), (.int (5 : Int32)), (.ref ma)] := r397
  have F399 := B5.keep K5 nin0
  obtain ⟨h400, w401, A402, r403⟩ := H.putB (i := 5) (z := z5) hz5 F399 (by decide) (by rw [hl5]; decide) N348 at_65 r397
  have Z404 : n0 ≤ h400.size := by rw [w401.size]; exact Z398
  replace r403 : W h400 7 56 66 #[.val (.long fl), .second, .val (.long md), .second, .val (.int first), .val (.int tag), .val (.int sp), .val (.int place), .val (.ref ma), .unset, .unset, .unset, .unset, .unset, .unset, .unset] [] := r403
  obtain ⟨vs6, hl6, B6⟩ : ∃ vs6 : List Value, vs6.length = 8 ∧ Ary Z h400 ma .byte vs6 := ⟨_, by rw [List.length_set]; exact hl5, A402⟩
  have r405 : W h400 7 56 74 #[.val (.long fl), .second, .val (.long md), .second, .val (.int first), .val (.int tag), .val (.int sp), .val (.int place), .val (.ref ma), .unset, .unset, .unset, .unset, .unset, .unset, .unset] [(.int (6 : Int32)), (.long md), (.long fl), (.int (6 : Int32)), (.ref ma)] := (H.bipush (z := (6 : Int32)) at_72 (H.lloadN at_71 (H.lloadN at_70 (H.bipush (z := (6 : Int32)) at_68 (H.aload at_66 r403 rfl rfl) rfl) rfl) rfl) rfl)
  obtain ⟨_, hf6, ⟨z6, rfl, hz6, K6⟩, r406⟩ := H.callS (w := 2) (argsL := [(.long fl), (.long md), (.int (6 : Int32))]) (rest := [(.int (6 : Int32)), (.ref ma)]) (hw _ (List.mem_of_getElem? (i := 1) rfl)) (hw _ (List.mem_of_getElem? (i := 2) rfl)) (hw _ (List.mem_of_getElem? (i := 3) rfl)) (hw _ (List.mem_of_getElem? (i := 4) rfl)) (by decide) pd_3 (by decide) (by decide) (by decide) (by decide) (fill_ct hw fl md (6 : Int32) h400 n0 Z404) rfl rfl (Nat.le_of_eq rfl) rfl at_74 r405
  have Z407 : n0 ≤ hf6.size := Nat.le_trans Z404 K6.1
  replace r406 : W hf6 8 64 77 #[.val (.long fl), .second, .val (.long md), .second, .val (.int first), .val (.int tag), .val (.int sp), .val (.int place), .val (.ref ma), .unset, .unset, .unset, .unset, .unset, .unset, .unset] [(.int z6), (.int (6 : Int32)), (.ref ma)] := r406
  have F408 := B6.keep K6 nin0
  obtain ⟨h409, w410, A411, r412⟩ := H.putB (i := 6) (z := z6) hz6 F408 (by decide) (by rw [hl6]; decide) N348 at_77 r406
  have Z413 : n0 ≤ h409.size := by rw [w410.size]; exact Z407
  replace r412 : W h409 8 64 78 #[.val (.long fl), .second, .val (.long md), .second, .val (.int first), .val (.int tag), .val (.int sp), .val (.int place), .val (.ref ma), .unset, .unset, .unset, .unset, .unset, .unset, .unset] [] := r412
  obtain ⟨vs7, hl7, B7⟩ : ∃ vs7 : List Value, vs7.length = 8 ∧ Ary Z h409 ma .byte vs7 := ⟨_, by rw [List.length_set]; exact hl6, A411⟩
  have r414 : W h409 8 64 86 #[.val (.long fl), .second, .val (.long md), .second, .val (.int first), .val (.int tag), .val (.int sp), .val (.int place), .val (.ref ma), .unset, .unset, .unset, .unset, .unset, .unset, .unset] [(.int (7 : Int32)), (.long md), (.long fl), (.int (7 : Int32)), (.ref ma)] := (H.bipush (z := (7 : Int32)) at_84 (H.lloadN at_83 (H.lloadN at_82 (H.bipush (z := (7 : Int32)) at_80 (H.aload at_78 r412 rfl rfl) rfl) rfl) rfl) rfl)
  obtain ⟨_, hf7, ⟨z7, rfl, hz7, K7⟩, r415⟩ := H.callS (w := 2) (argsL := [(.long fl), (.long md), (.int (7 : Int32))]) (rest := [(.int (7 : Int32)), (.ref ma)]) (hw _ (List.mem_of_getElem? (i := 1) rfl)) (hw _ (List.mem_of_getElem? (i := 2) rfl)) (hw _ (List.mem_of_getElem? (i := 3) rfl)) (hw _ (List.mem_of_getElem? (i := 4) rfl)) (by decide) pd_3 (by decide) (by decide) (by decide) (by decide) (fill_ct hw fl md (7 : Int32) h409 n0 Z413) rfl rfl (Nat.le_of_eq rfl) rfl at_86 r414
  have Z416 : n0 ≤ hf7.size := Nat.le_trans Z413 K7.1
  replace r415 : W hf7 9 72 89 #[.val (.long fl), .second, .val (.long md), .second, .val (.int first), .val (.int tag), .val (.int sp), .val (.int place), .val (.ref ma), .unset, .unset, .unset, .unset, .unset, .unset, .unset] [(.int z7), (.int (7 : Int32)), (.ref ma)] := r415
  have F417 := B7.keep K7 nin0
  obtain ⟨h418, w419, A420, r421⟩ := H.putB (i := 7) (z := z7) hz7 F417 (by decide) (by rw [hl7]; decide) N348 at_89 r415
  have Z422 : n0 ≤ h418.size := by rw [w419.size]; exact Z416
  replace r421 : W h418 9 72 90 #[.val (.long fl), .second, .val (.long md), .second, .val (.int first), .val (.int tag), .val (.int sp), .val (.int place), .val (.ref ma), .unset, .unset, .unset, .unset, .unset, .unset, .unset] [] := r421
  obtain ⟨vs8, hl8, B8⟩ : ∃ vs8 : List Value, vs8.length = 8 ∧ Ary Z h418 ma .byte vs8 := ⟨_, by rw [List.length_set]; exact hl7, A420⟩
  have r423 : W h418 9 72 99 #[.val (.long fl), .second, .val (.long md), .second, .val (.int first), .val (.int tag), .val (.int sp), .val (.int place), .val (.ref ma), .val (.int ((place &&& (2147483647 : Int32)) % (3 : Int32))), .unset, .unset, .unset, .unset, .unset, .unset] [] := (H.istore at_97 (H.irem at_96 (H.iconst (z := (3 : Int32)) at_95 (H.iand at_94 (H.ldcInt at_92 (H.iload at_90 r421 rfl) (hw _ (List.mem_of_getElem? (i := 9) rfl)))) rfl) (by decide)) rfl)
  obtain ⟨s, hs, es⟩ := own_modn place 3 (by decide) (by decide)
  replace es : ((place &&& (2147483647 : Int32)) % (3 : Int32)) = Int32.ofNat s := es
  rw [es] at r423
  have r424 : W h418 9 72 105 #[.val (.long fl), .second, .val (.long md), .second, .val (.int first), .val (.int tag), .val (.int sp), .val (.int place), .val (.ref ma), .val (.int (Int32.ofNat s)), .val (.int (tag &&& (3 : Int32))), .unset, .unset, .unset, .unset, .unset] [] := (H.istore at_103 (H.iand at_102 (H.iconst (z := (3 : Int32)) at_101 (H.iload at_99 r423 rfl) rfl)) rfl)
  obtain ⟨t, ht, et⟩ := own_m3 tag
  rw [et] at r424
  have r425 : W h418 9 72 111 #[.val (.long fl), .second, .val (.long md), .second, .val (.int first), .val (.int tag), .val (.int sp), .val (.int place), .val (.ref ma), .val (.int (Int32.ofNat s)), .val (.int (Int32.ofNat t)), .unset, .unset, .unset, .unset, .unset] [(.int (first &&& (511 : Int32)))] := (H.iand at_110 (H.sipush (z := (511 : Int32)) at_107 (H.iload at_105 r424 rfl) rfl))
  obtain ⟨_, hp, ⟨b0, rfl, hb0, Kp⟩, r426⟩ := H.callS (w := 0) (argsL := [(.int (first &&& (511 : Int32)))]) (rest := []) (hw _ (List.mem_of_getElem? (i := 6) rfl)) (hw _ (List.mem_of_getElem? (i := 7) rfl)) (hw _ (List.mem_of_getElem? (i := 3) rfl)) (hw _ (List.mem_of_getElem? (i := 8) rfl)) (by decide) pd_0 (by decide) (by decide) (by decide) (by decide) (pick_ct hw (first &&& (511 : Int32)) h418 n0 Z422) rfl rfl (Nat.le_of_eq rfl) rfl at_111 r425
  have Z427 : n0 ≤ hp.size := Nat.le_trans Z422 Kp.1
  replace r426 : W hp 10 80 114 #[.val (.long fl), .second, .val (.long md), .second, .val (.int first), .val (.int tag), .val (.int sp), .val (.int place), .val (.ref ma), .val (.int (Int32.ofNat s)), .val (.int (Int32.ofNat t)), .unset, .unset, .unset, .unset, .unset] [(.int b0)] := r426
  have r428 : W hp 10 80 116 #[.val (.long fl), .second, .val (.long md), .second, .val (.int first), .val (.int tag), .val (.int sp), .val (.int place), .val (.ref ma), .val (.int (Int32.ofNat s)), .val (.int (Int32.ofNat t)), .val (.int b0), .unset, .unset, .unset, .unset] [] := (H.istore at_114 r426 rfl)
  have r429 : W hp 10 80 122 #[.val (.long fl), .second, .val (.long md), .second, .val (.int first), .val (.int tag), .val (.int sp), .val (.int place), .val (.ref ma), .val (.int (Int32.ofNat s)), .val (.int (Int32.ofNat t)), .val (.int b0), .unset, .unset, .unset, .unset] [(.int b0), (.int (Int32.ofNat s)), (.ref ma)] := (H.iload at_120 (H.iload at_118 (H.aload at_116 r428 rfl rfl) rfl) rfl)
  have F430 := B8.keep Kp nin0
  obtain ⟨h431, w432, A433, r434⟩ := H.putB (i := s) (z := b0) hb0 F430 (own_ofNat (by omega)) (by rw [hl8]; omega) N348 at_122 r429
  have Z435 : n0 ≤ h431.size := by rw [w432.size]; exact Z427
  replace r434 : W h431 10 80 123 #[.val (.long fl), .second, .val (.long md), .second, .val (.int first), .val (.int tag), .val (.int sp), .val (.int place), .val (.ref ma), .val (.int (Int32.ofNat s)), .val (.int (Int32.ofNat t)), .val (.int b0), .unset, .unset, .unset, .unset] [] := r434
  have hlen : (vs8.set s (.int b0)).length = 8 := by rw [List.length_set]; exact hl8
  have hget : (vs8.set s (.int b0))[s]? = some (.int b0) := by rw [List.getElem?_set_self (by rw [hl8]; omega)]
  match t, ht with
  | 0, _ => exact road0 hw fl md first tag sp place b0 ma s hs hlen hget Z435 N348 A433 H r434
  | 1, _ => exact road1 hw fl md first tag sp place b0 ma s hs hlen hget Z435 N348 A433 H r434
  | 2, _ => exact road2 hw fl md first tag sp place b0 ma s hs hlen hget Z435 N348 A433 H r434
  | 3, _ => exact road3 hw fl md first tag sp place b0 ma s hs hlen hget Z435 N348 A433 H r434
set_option maxRecDepth 65536 in
set_option maxHeartbeats 40000000 in
theorem comes_1 {Post : Tables → Env → Array Value → State → Outcome → State → Prop} (hpost : ∀ tb e args s v u, (limb_1_1.after args s (.returned v) u = true ∧ limb_1_2.after args s (.returned v) u = true ∧ True) → FrameEnd s (.returned v) u (Jvm.fieldLocs frame_1_writes args s ++ Jvm.arrayLocs frame_1_arrays args s ++ Jvm.staticLocs frame_1_statics s) 32 256 → Post tb e args s (.returned v) u) :
    ArmFor flags0 classFile x code maxLocals ret World_1 tables_1 room_1 Calls_1 rest_1 Pre_1 Post := by
  intro l hfl _ _ p e ha hc hk s m args below hf hA hF happ hP
  obtain ⟨hcalls, hrest, hpre⟩ := hP
  obtain ⟨-, -, -, hnamed, -, -, -, hat⟩ := (Spec.applies_iff hf).mp happ
  obtain ⟨hg, hn⟩ := and_e (Cond.before_iff.mp (show (Jvm.Cond.and given_1 narrow_1).before args s = true from hpre))
  obtain ⟨hcnt, hg0⟩ := and_e hg
  obtain ⟨ha0, hg1⟩ := and_e hg0
  obtain ⟨ha1, hg2⟩ := and_e hg1
  obtain ⟨ha2, hg3⟩ := and_e hg2
  obtain ⟨ha3, hg4⟩ := and_e hg3
  obtain ⟨ha4, hg5⟩ := and_e hg4
  obtain ⟨w0, w1, w2, w3, w4, w5, rfl⟩ : ∃ w0 w1 w2 w3 w4 w5 : Value, args = #[w0, w1, w2, w3, w4, w5] := by
    have hs : args.size = 6 := by simpa [Cond.value, given_1] using hcnt
    obtain ⟨L⟩ := args
    match L, hs with
    | [w0, w1, w2, w3, w4, w5], _ => exact ⟨w0, w1, w2, w3, w4, w5, rfl⟩
  have hw := fun d (hd : d ∈ tables_1) => atoms_spec (ws := Jvm.Cond.code x code maxLocals ret :: tables_1) hat d (List.mem_cons_of_mem _ hd)
  have hfit : Fit s := fun {y c} hc i hi => by
    obtain ⟨ha, rfl⟩ := Array.getElem?_eq_some_iff.mp hc
    have q := List.all_eq_true.mp ((Array.all_eq_true_iff_forall_mem.mp hF) _ (Array.getElem_mem ha)) i (List.mem_range.mpr hi)
    simpa [Array.getElem?_eq_getElem hi] using q
  obtain ⟨i0, ei0⟩ := isL_v ha0
  obtain rfl : w0 = (.long i0) := Option.some.inj ei0
  obtain ⟨i1, ei1⟩ := isL_v ha1
  obtain rfl : w1 = (.long i1) := Option.some.inj ei1
  obtain ⟨i2, ei2⟩ := is_v ha2
  obtain rfl : w2 = (.int i2) := Option.some.inj ei2
  obtain ⟨i3, ei3⟩ := is_v ha3
  obtain rfl : w3 = (.int i3) := Option.some.inj ei3
  obtain ⟨i4, ei4⟩ := is_v ha4
  obtain rfl : w4 = (.int i4) := Option.some.inj ei4
  obtain ⟨i5, ei5⟩ := is_v hg5
  obtain rfl : w5 = (.int i5) := Option.some.inj ei5
  obtain ⟨n, o, h1, h2, h3, _, L, rfl, ⟨rfl, N⟩, hq⟩ := law_ct (l := l) hw i0 i1 i2 i3 i4 i5  s.heap s.heap.size (Nat.le_refl _) tables_1 p e ha hc hk s m _ below hf ((Spec.applies_iff_loose hf).mp happ).1 ⟨rfl, State.Warmed39.refl s, rfl⟩ trivial
  refine ⟨n, _, h1, h2, h3, hpost _ _ _ _ _ _ ⟨Cond.after_iff.mpr rfl, Cond.after_iff.mpr (eq_i res_at (Term.int_eval (1)) rfl), trivial⟩ ⟨hq.1, hq.2.1, (hq.2.2.sift fun y hy => Or.inr (N y hy)).mono (by decide) (by decide)⟩⟩
theorem main_1_1 : Claimed_1_1 := comes_1 fun _ _ _ _ _ _ h hF => ⟨h.1, hF⟩
theorem main_1_2 : Claimed_1_2 := comes_1 fun _ _ _ _ _ _ h hF => ⟨h.2.1, hF⟩
end Jvm.Pilot.@@N@@
namespace Jvm.Pilot.@@N@@
open Jvm Jvm.ClassFile Sem Op Lib Jvm.Free Jvm.Stand Jvm.Pilot.@@N@@.Jvm.D
/-! MADE BY PROGRAM (witnessworld.py) out of the Statement's table words and the real class files: 9 classes; the members and pool entries that the words name. The judged class is class 1, her method 4. -/
namespace start1
open Jvm.ClassFile
def u (s : String) : CpInfo := .utf8 (stringToUtf16 s)
/-- a pool by its gaps: so many unusable entries, then the entry; so many at the end -/
def gap : Nat → List CpInfo → List CpInfo
  | 0, r => r
  | n + 1, r => .unusable :: gap n r
def poolList (es : List (Nat × CpInfo)) (last : Nat) : List CpInfo := es.foldr (fun e r => gap e.1 (e.2 :: r)) (gap last [])
def pool (es : List (Nat × CpInfo)) (last : Nat) : Array CpInfo := ⟨poolList es last⟩
def fileOf (pool : Array CpInfo) (this : Nat) (attrs : Array Attribute := #[]) (ms : Array MethodInfo := #[]) (fl : Nat := 33) (sup : Nat := 0) (ifs : Array Nat := #[]) (fds : Array FieldInfo := #[]) : ClassFile where
  minorVersion := 0
  majorVersion := 65
  constantPool := pool
  accessFlags := fl
  thisClass := this
  superClass := sup
  interfaces := ifs
  fields := fds
  methods := ms
  attributes := attrs
def plain (name : String) (sup : Option ClassId) : Class where
  name := name
  kind := .ordinary
  loader := none
  accessFlags := 33
  super := sup
  interfaces := #[]
  cf := none
  fields := #[]
  methods := #[]
  instanceTypes := #[]
  staticTypes := #[]
  resolved := #[]
  callSites := []
  init := .initialized
  statics := none
  mirror := none

def pool0 : Array CpInfo := pool [(5, u "<init>"), (0, u "()V"), (1, .class_ 10), (1, u "java/lang/Object")] 113

def k0m0 : Method := { name := "<init>", desc := "()V", sig := { parameters := [], returnType := none }, accessFlags := 1, code := none }
/-- java/lang/Object -/
def k0 : Class := { plain "java/lang/Object" none with
  accessFlags := 33
  interfaces := #[]
  cf := some (fileOf pool0 8 #[] #[{ accessFlags := 1, nameIndex := 5, descriptorIndex := 6, attributes := #[] }] 33 0 #[] #[])
  fields := #[]
  methods := #[k0m0]
  instanceTypes := #[]
  staticTypes := #[]
  resolved := Array.replicate 124 none
  statics := none }

def pool1 : Array CpInfo := pool [(2, .class_ 4), (1, u "java/lang/Object"), (0, u "<init>"), (0, u "()V"), (0, .long 255), (1, .methodref 10 11), (0, .class_ 12), (0, .nameAndType 13 14), (0, u "io/tagwire/codec/FramingValueStartPinLaw"), (0, u "pick"), (0, u "(I)B"), (0, .methodref 10 16), (0, .nameAndType 17 18), (0, u "fillByte"), (0, u "(JJI)B"), (0, .integer 2147483647), (0, .methodref 10 21), (0, .nameAndType 22 23), (0, u "isDigit"), (0, u "(B)Z"), (0, .methodref 25 26), (0, .class_ 27), (0, .nameAndType 28 29), (0, u "io/tagwire/codec/Framing"), (0, u "valueStart"), (0, u "([BII)I"), (3, u "law"), (0, u "(JJIIII)Z")] 4

def k1m0 : Method := { name := "<init>", desc := "()V", sig := { parameters := [], returnType := none }, accessFlags := 2, code := none }
def k1c1 : Code := { maxStack := 4, maxLocals := 2, code := method_2_code, exceptionTable := #[], attributes := #[] }
def k1m1 : Method := { name := "pick", desc := "(I)B", sig := { parameters := [.int], returnType := some .byte }, accessFlags := 10, code := some k1c1 }
def k1c2 : Code := { maxStack := 5, maxLocals := 6, code := method_3_code, exceptionTable := #[], attributes := #[] }
def k1m2 : Method := { name := "fillByte", desc := "(JJI)B", sig := { parameters := [.long, .long, .int], returnType := some .byte }, accessFlags := 10, code := some k1c2 }
def k1c3 : Code := { maxStack := 2, maxLocals := 1, code := method_4_code, exceptionTable := #[], attributes := #[] }
def k1m3 : Method := { name := "isDigit", desc := "(B)Z", sig := { parameters := [.byte], returnType := some .boolean }, accessFlags := 10, code := some k1c3 }
def k1c4 : Code := { maxStack := 7, maxLocals := 16, code := code, exceptionTable := #[], attributes := #[] }
def k1m4 : Method := { name := "law", desc := "(JJIIII)Z", sig := { parameters := [.long, .long, .int, .int, .int, .int], returnType := some .boolean }, accessFlags := 9, code := some k1c4 }
/-- io/tagwire/codec/FramingValueStartPinLaw -/
def k1 : Class := { plain "io/tagwire/codec/FramingValueStartPinLaw" (some 0) with
  accessFlags := 49
  interfaces := #[]
  cf := some (fileOf pool1 10 #[] #[{ accessFlags := 2, nameIndex := 5, descriptorIndex := 6, attributes := #[] }, { accessFlags := 10, nameIndex := 13, descriptorIndex := 14, attributes := #[] }, { accessFlags := 10, nameIndex := 17, descriptorIndex := 18, attributes := #[] }, { accessFlags := 10, nameIndex := 22, descriptorIndex := 23, attributes := #[] }, { accessFlags := 9, nameIndex := 33, descriptorIndex := 34, attributes := #[] }] 49 2 #[] #[])
  fields := #[]
  methods := #[k1m0, k1m1, k1m2, k1m3, k1m4]
  instanceTypes := #[]
  staticTypes := #[]
  resolved := Array.replicate 39 none
  statics := none }

def pool2 : Array CpInfo := pool [(2, .class_ 4), (1, u "java/lang/Object"), (0, u "<init>"), (0, u "()V"), (0, .class_ 8), (0, u "io/tagwire/codec/Framing"), (11, u "BEGIN_STRING"), (0, u "[B"), (13, u "valueStart"), (0, u "([BII)I"), (6, u "BODY_LENGTH"), (4, u "CHECK_SUM"), (10, u "CHECK_SUM_FIELD_LENGTH"), (0, u "I"), (21, .class_ 84), (1, u "io/tagwire/codec/Framing$Verdict"), (14, .class_ 101), (1, u "io/tagwire/codec/Framing$Verdict$Kind"), (27, u "WORDS"), (0, u "Ljava/lang/invoke/VarHandle;"), (82, u "SOH"), (0, u "B"), (2, u "MAX_MESSAGE_LENGTH"), (0, u "SOH_IN_EVERY_BYTE"), (0, u "J"), (0, u "LOW_SEVEN_BITS"), (0, u "EVERY_OTHER_BYTE"), (0, u "WORDS_PER_SUM")] 27

def k2m0 : Method := { name := "<init>", desc := "()V", sig := { parameters := [], returnType := none }, accessFlags := 2, code := none }
def k2c1 : Code := { maxStack := 2, maxLocals := 4, code := prog_24_method_11_code, exceptionTable := #[], attributes := #[] }
def k2m1 : Method := { name := "valueStart", desc := "([BII)I", sig := { parameters := [(.array .byte), .int, .int], returnType := some .int }, accessFlags := 8, code := some k2c1 }
/-- io/tagwire/codec/Framing -/
def k2 : Class := { plain "io/tagwire/codec/Framing" (some 0) with
  accessFlags := 49
  interfaces := #[]
  cf := some (fileOf pool2 7 #[.nestMembers #[82, 99]] #[{ accessFlags := 2, nameIndex := 5, descriptorIndex := 6, attributes := #[] }, { accessFlags := 8, nameIndex := 35, descriptorIndex := 36, attributes := #[] }] 49 2 #[] #[{ accessFlags := 25, nameIndex := 213, descriptorIndex := 214, attributes := #[] }, { accessFlags := 25, nameIndex := 217, descriptorIndex := 60, attributes := #[] }, { accessFlags := 24, nameIndex := 20, descriptorIndex := 21, attributes := #[] }, { accessFlags := 24, nameIndex := 43, descriptorIndex := 21, attributes := #[] }, { accessFlags := 24, nameIndex := 48, descriptorIndex := 21, attributes := #[] }, { accessFlags := 25, nameIndex := 59, descriptorIndex := 60, attributes := #[] }, { accessFlags := 26, nameIndex := 129, descriptorIndex := 130, attributes := #[] }, { accessFlags := 26, nameIndex := 218, descriptorIndex := 219, attributes := #[] }, { accessFlags := 26, nameIndex := 220, descriptorIndex := 219, attributes := #[] }, { accessFlags := 26, nameIndex := 221, descriptorIndex := 219, attributes := #[] }, { accessFlags := 26, nameIndex := 222, descriptorIndex := 60, attributes := #[] }])
  fields := #[{ name := "SOH", type := .byte, accessFlags := 25, slot := 0, constantValue := 0 }, { name := "MAX_MESSAGE_LENGTH", type := .int, accessFlags := 25, slot := 1, constantValue := 0 }, { name := "BEGIN_STRING", type := (.array .byte), accessFlags := 24, slot := 2, constantValue := 0 }, { name := "BODY_LENGTH", type := (.array .byte), accessFlags := 24, slot := 3, constantValue := 0 }, { name := "CHECK_SUM", type := (.array .byte), accessFlags := 24, slot := 4, constantValue := 0 }, { name := "CHECK_SUM_FIELD_LENGTH", type := .int, accessFlags := 25, slot := 5, constantValue := 0 }, { name := "WORDS", type := (.object "java/lang/invoke/VarHandle"), accessFlags := 26, slot := 6, constantValue := 0 }, { name := "SOH_IN_EVERY_BYTE", type := .long, accessFlags := 26, slot := 7, constantValue := 0 }, { name := "LOW_SEVEN_BITS", type := .long, accessFlags := 26, slot := 8, constantValue := 0 }, { name := "EVERY_OTHER_BYTE", type := .long, accessFlags := 26, slot := 9, constantValue := 0 }, { name := "WORDS_PER_SUM", type := .int, accessFlags := 26, slot := 10, constantValue := 0 }]
  methods := #[k2m0, k2m1]
  instanceTypes := #[]
  staticTypes := #[.byte, .int, (.array .byte), (.array .byte), (.array .byte), .int, (.object "java/lang/invoke/VarHandle"), .long, .long, .long, .int]
  resolved := Array.replicate 250 none
  statics := none }

def pool3 : Array CpInfo := pool [(1, u "java/lang/Cloneable"), (0, .class_ 1), (0, u "java/lang/Object"), (0, .class_ 3)] 3

/-- java/lang/Cloneable -/
def k3 : Class := { plain "java/lang/Cloneable" (some 0) with
  accessFlags := 1537
  interfaces := #[]
  cf := some (fileOf pool3 2 #[] #[] 1537 4 #[] #[])
  fields := #[]
  methods := #[]
  instanceTypes := #[]
  staticTypes := #[]
  resolved := Array.replicate 8 none
  statics := none }

def pool4 : Array CpInfo := pool [(1, u "java/io/Serializable"), (0, .class_ 1), (0, u "java/lang/Object"), (0, .class_ 3)] 3

/-- java/io/Serializable -/
def k4 : Class := { plain "java/io/Serializable" (some 0) with
  accessFlags := 1537
  interfaces := #[]
  cf := some (fileOf pool4 2 #[] #[] 1537 4 #[] #[])
  fields := #[]
  methods := #[]
  instanceTypes := #[]
  staticTypes := #[]
  resolved := Array.replicate 8 none
  statics := none }

/-- the primitive byte -/
def k5 : Class := { plain "byte" none with kind := .primitive 'B', accessFlags := 0x411 }
/-- [B -/
def k6 : Class := { plain "[B" (some 0) with kind := .array 5 .byte, interfaces := #[3, 4], accessFlags := 1041 }

/-- the primitive int -/
def k7 : Class := { plain "int" none with kind := .primitive 'I', accessFlags := 0x411 }
/-- [I -/
def k8 : Class := { plain "[I" (some 0) with kind := .array 7 .int, interfaces := #[3, 4], accessFlags := 1041 }

def heap : Heap := #[]
def classes : Array Class := #[k0, k1, k2, k3, k4, k5, k6, k7, k8]
def interned : List (Array UInt16 × Addr) := []
def slotsUsed : Nat := 0
def theMethod : MethodId := ⟨1, 4⟩
def args0 : Array Value := #[.long 5, .long 7, .int 2, .int 3, .int 4, .int 5]
def aboutOver (below : List Frame) : State where
  vm := { classes := classes, interned := interned.toArray }
  heap := heap
  slotsUsed := slotsUsed
  threads := #[{ frames := .invoking theMethod args0 :: below }]
def below0 : List Frame := [.native { method := ⟨0, 0⟩, args := #[] }]
def about1 : State := aboutOver below0
def p0 : Program := .bare "" "" ""
def e0 : Env := launch0.env 0 0 0
theorem w_frames : about1.frames = Frame.invoking theMethod args0 :: below0 := rfl
set_option maxRecDepth 65536 in
theorem w_args : argsFit about1.vm theMethod args0 = true := by decide +kernel
set_option maxRecDepth 65536 in
theorem w_heap : heapFits about1 = true := by decide +kernel
set_option maxRecDepth 65536 in
theorem w_runnable : about1.curStatus? = some .runnable := by decide +kernel
set_option maxRecDepth 65536 in
theorem w_alone : about1.alone = true := by decide +kernel
set_option maxRecDepth 65536 in
theorem w_named : about1.methodNamed? x = some theMethod := by decide +kernel
set_option maxRecDepth 65536 in
theorem w_hears : about1.hears theMethod below0 = true := by decide +kernel
set_option maxRecDepth 65536 in
theorem w_ripe : about1.ripe theMethod args0 below0 = true := by decide +kernel
theorem w_running : about1.status = .running := rfl
set_option maxRecDepth 65536 in
theorem w_room : about1.hasRoom e0.platform room_1 = true :=
  launch0.hasRoom_least _ room_1 (by decide +kernel) (by decide +kernel) (by decide +kernel) (by decide +kernel) (by decide +kernel) (by decide +kernel)
theorem allAtoms_all (ts : List Jvm.Cond) (a : Array Jvm.Value) (st : Jvm.State) : (allAtoms ts).before a st = ts.all (fun c => c.before a st) := by
  induction ts with
  | nil => rfl
  | cons c t ih =>
    show (Jvm.Cond.and c (allAtoms t)).before a st = _
    rw [Jvm.Cond.before_and, ih, List.all_cons]
def words1 : List Jvm.Cond := Jvm.Cond.code x code maxLocals ret :: tables_1
/-- a 'code' word, met by the world's own term for the bytes: nothing is compared byte by byte -/
theorem code_word {y : MethodName} {bytes : ByteArray} {mx : Nat} {rt : Option FieldType} {a : Array Value} {s : State} {m : MethodId} {meth : Method} {c : Code} (h1 : s.methodNamed? y = some m) (h2 : s.vm.method? m = some meth) (h3 : meth.code = some c) (h4 : c.code = bytes)
    (h5 : (c.maxLocals == mx && c.exceptionTable.isEmpty && decide (c.maxStack ≤ mostOperands) && decide (meth.sig.returnType = rt) && !meth.locks && decide (parseMethodDescriptor y.desc = some meth.sig)) = true) : (Jvm.Cond.code y bytes mx rt).before a s = true := by
  simp only [Bool.and_eq_true, beq_iff_eq, Bool.not_eq_true', decide_eq_true_eq] at h5
  obtain ⟨⟨⟨⟨⟨g1, g2⟩, g3⟩, g4⟩, g5⟩, g6⟩ := h5
  simp [Cond.before, Cond.holds, Cond.value, h1, h2, h3, h4, g1, g2, g3, g4, g5, g6]
def isCode : Jvm.Cond → Bool
  | .code _ _ _ _ => true
  | _ => false
theorem all_split {L : List Jvm.Cond} {P : Jvm.Cond → Bool} (h1 : L.all (fun c => isCode c || P c) = true) (h2 : ∀ c ∈ L.filter isCode, P c = true) : L.all P = true := by
  refine List.all_eq_true.mpr fun c hc => ?_
  have h := List.all_eq_true.mp h1 c hc
  rcases Bool.eq_false_or_eq_true (isCode c) with hi | hi
  · exact h2 c (List.mem_filter.mpr ⟨hc, hi⟩)
  · simpa [hi] using h
set_option maxRecDepth 65536 in
theorem w_c0 : (Jvm.Cond.code x code maxLocals ret).before args0 about1 = true := code_word (m := ⟨1, 4⟩) (meth := k1m4) (c := k1c4) (by decide +kernel) rfl rfl rfl (by decide +kernel)
set_option maxRecDepth 65536 in
theorem w_c1 : (Jvm.Cond.code ({ cls := "io/tagwire/codec/FramingValueStartPinLaw", name := "fillByte", desc := "(JJI)B" } : Jvm.MethodName) method_3_code (6 : Nat) (Option.some Jvm.ClassFile.FieldType.byte)).before args0 about1 = true := code_word (m := ⟨1, 2⟩) (meth := k1m2) (c := k1c2) (by decide +kernel) rfl rfl rfl (by decide +kernel)
set_option maxRecDepth 65536 in
theorem w_c2 : (Jvm.Cond.code ({ cls := "io/tagwire/codec/FramingValueStartPinLaw", name := "pick", desc := "(I)B" } : Jvm.MethodName) method_2_code (2 : Nat) (Option.some Jvm.ClassFile.FieldType.byte)).before args0 about1 = true := code_word (m := ⟨1, 1⟩) (meth := k1m1) (c := k1c1) (by decide +kernel) rfl rfl rfl (by decide +kernel)
set_option maxRecDepth 65536 in
theorem w_c3 : (Jvm.Cond.code ({ cls := "io/tagwire/codec/FramingValueStartPinLaw", name := "isDigit", desc := "(B)Z" } : Jvm.MethodName) method_4_code (1 : Nat) (Option.some Jvm.ClassFile.FieldType.boolean)).before args0 about1 = true := code_word (m := ⟨1, 3⟩) (meth := k1m3) (c := k1c3) (by decide +kernel) rfl rfl rfl (by decide +kernel)
set_option maxRecDepth 65536 in
theorem w_c4 : (Jvm.Cond.code ({ cls := "io/tagwire/codec/Framing", name := "valueStart", desc := "([BII)I" } : Jvm.MethodName) prog_24_method_11_code (4 : Nat) (Option.some Jvm.ClassFile.FieldType.int)).before args0 about1 = true := code_word (m := ⟨2, 1⟩) (meth := k2m1) (c := k2c1) (by decide +kernel) rfl rfl rfl (by decide +kernel)
def codes1 : List Jvm.Cond := [Jvm.Cond.code x code maxLocals ret, Jvm.Cond.code ({ cls := "io/tagwire/codec/FramingValueStartPinLaw", name := "fillByte", desc := "(JJI)B" } : Jvm.MethodName) method_3_code (6 : Nat) (Option.some Jvm.ClassFile.FieldType.byte), Jvm.Cond.code ({ cls := "io/tagwire/codec/FramingValueStartPinLaw", name := "pick", desc := "(I)B" } : Jvm.MethodName) method_2_code (2 : Nat) (Option.some Jvm.ClassFile.FieldType.byte), Jvm.Cond.code ({ cls := "io/tagwire/codec/FramingValueStartPinLaw", name := "isDigit", desc := "(B)Z" } : Jvm.MethodName) method_4_code (1 : Nat) (Option.some Jvm.ClassFile.FieldType.boolean), Jvm.Cond.code ({ cls := "io/tagwire/codec/Framing", name := "valueStart", desc := "([BII)I" } : Jvm.MethodName) prog_24_method_11_code (4 : Nat) (Option.some Jvm.ClassFile.FieldType.int)]
set_option maxRecDepth 65536 in
theorem codes_eq : words1.filter isCode = codes1 := rfl
theorem w_codes : ∀ c ∈ words1.filter isCode, c.before args0 about1 = true := by
  rw [codes_eq]
  intro c hc
  simp only [codes1, List.mem_cons, List.not_mem_nil, or_false] at hc
  rcases hc with rfl | rfl | rfl | rfl | rfl
  · exact w_c0
  · exact w_c1
  · exact w_c2
  · exact w_c3
  · exact w_c4
set_option maxRecDepth 65536 in
theorem w_t1 : words1.all (fun c => isCode c || c.before args0 about1) = true := by decide +kernel
theorem w_tables : (allAtoms (Jvm.Cond.code x code maxLocals ret :: tables_1)).before args0 about1 = true := by
  rw [allAtoms_all]
  show words1.all (fun c => c.before args0 about1) = true
  refine all_split ?_ w_codes
  rw [w_t1]
set_option maxRecDepth 65536 in
theorem w_case : (Jvm.Cond.and given_1 narrow_1).before args0 about1 = true := by decide +kernel
theorem w_applies : (headSpec (Jvm.Cond.code x code maxLocals ret :: tables_1) room_1).applies x e0.platform about1 = true :=
  (Spec.applies_iff w_frames).mpr ⟨w_running, w_runnable, w_alone, w_named, w_hears, w_ripe, w_room, w_tables⟩
theorem atStart : AtStart classFile x code maxLocals ret World_1 tables_1 room_1 Calls_1 rest_1 Pre_1 launch0 p0 e0 about1 theMethod args0 below0 :=
  ⟨lists_1, trivial, launch0.admits_env _ _ _, launch0.least_env, fairChoices_fair.cas, fairChoices_fair.clock, w_frames, w_args, w_heap, w_applies, trivial, trivial, w_case⟩
end start1
theorem witness_1 : WitnessClaimed_1 := ⟨start1.p0, start1.e0, start1.about1, start1.theMethod, start1.args0, start1.below0, start1.atStart⟩
end Jvm.Pilot.@@N@@
