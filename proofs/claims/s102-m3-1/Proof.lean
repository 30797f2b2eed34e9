import JvmDerived
import JvmDerived.Pilot.@@N@@Statement
import JvmDerived.Pilot.@@N@@Code
set_option linter.unusedVariables false
set_option linter.unusedSimpArgs false
namespace Jvm.OwnW
open Jvm Jvm.ClassFile Sem Op Lib Jvm.Free Jvm.Stand Jvm.LawKit Jvm.RoadKit Bundle
/-- the walk stands at pc, over the heap h; k cells and n slots have come; nothing that stood at the start is written -/
def At0 (p : Program) (l : Launch) (e : Env) (R : Room) (s : State) (m : MethodId) (args : Array Value) (below : List Frame) (meth : Method) (c : Code) (n0 : Nat) (S0 : State) (h : Heap) (k n pc : Nat) (Ls : Array Slot) (st : List Value) : Prop :=
  ∃ (T : State) (locs : List Loc), Stand p l e R s m args below meth c T locs k n ∧ T.heap = h ∧ Fr n0 locs ∧ ∀ t, Steps p.tables e below (T.setTop (mkF m pc Ls st)) t → Steps p.tables e below S0 t
/-- the walk has returned v, over the heap h -/
def End0 (p : Program) (e : Env) (R : Room) (s : State) (below : List Frame) (n0 : Nat) (S0 : State) (v : Option Value) (h : Heap) : Prop :=
  ∃ (s₂ : State) (L : List Loc), Steps p.tables e below S0 s₂ ∧ s₂.status = .running ∧ Ended s₂ below (.returned v) ∧ s₂.heap = h ∧ Fr n0 L ∧ FrameEnd s (.returned v) s₂ L R.cells R.slots
abbrev WT := Heap → Nat → Nat → Nat → Array Slot → List Value → Prop
abbrev VT := Option Value → Heap → Prop
/-- W and V are of one walk of the body of y -/
def Wk (l : Launch) (Z : State) (y : MethodName) (code : ByteArray) (mx : Nat) (ret : Option FieldType) (R : Room) (n0 : Nat) (W : WT) (V : VT) : Prop :=
  ∃ (p : Program) (e : Env) (s : State) (m : MethodId) (args : Array Value) (below : List Frame) (meth : Method) (c : Code) (S0 : State),
    p.tables.exec = Jvm.exec ∧ c.code = code ∧ c.maxLocals = mx ∧ s.vm.findClass y.cls = some m.cls ∧ Z.Warmed39 s.vm ∧ meth.name = y.name ∧ meth.sig.returnType = ret ∧ meth.locks = false ∧
    W = At0 p l e R s m args below meth c n0 S0 ∧ V = End0 p e R s below n0 S0
/-- a contract: called with 'as' over the heap h the method returns v and leaves h' with Q v h' -/
def Ct (l : Launch) (Z : State) (y : MethodName) (bytes : ByteArray) (mx : Nat) (ret : Option FieldType) (rm : Room) (n0 : Nat) (as : Array Value) (h : Heap) (Q : Option Value → Heap → Prop) : Prop :=
  ∀ ws : List Jvm.Cond, MetFree l y (head1 (Jvm.Cond.code y bytes mx ret :: ws) rm) (fun a U => a = as ∧ Z.Warmed39 U.vm ∧ U.heap = h) (fun _ _ _ _ _ => True) (fun _ U o U' => ∃ v L, o = .returned v ∧ (Q v U'.heap ∧ Fr n0 L) ∧ FrameEnd U o U' L rm.cells rm.slots)
theorem Ct.of {l : Launch} {Z : State} {y : MethodName} {bytes : ByteArray} {mx : Nat} {ret : Option FieldType} {rm : Room} {n0 : Nat} {as : Array Value} {h : Heap} {Q : Option Value → Heap → Prop} {Ls : Array Slot} (hpn : plainFor y = true) (hef : ∀ m, entryFrame m as mx = mkF m 0 Ls [])
    (body : ∀ W V, Wk l Z y bytes mx ret rm n0 W V → W h 0 0 0 Ls [] → ∃ v h', V v h' ∧ Q v h') : Ct l Z y bytes mx ret rm n0 as h Q := by
  intro ws
  refine MetFree.of_bodySF hpn hisR ?_
  intro p e s m args below meth c s₁ Bd hml0 hP hK
  obtain ⟨rfl, hZ, hh⟩ := hP
  have X0 : Stand p l e rm s m args below meth c s₁ [] 0 0 := Stand.of_body Bd
  have e0 : s₁.heap = h := by rw [← hh, Bd.state]; rfl
  obtain ⟨v, h', ⟨s₂, L, g1, g2, g3, g4, g5, g6⟩, hQ⟩ := body _ _ ⟨p, e, s, m, args, below, meth, c, s₁.setTop (entryFrame m args mx), Bd.exec, Bd.bytes, hml0, findClass_of_methodNamed Bd.named, hZ, (name_of_methodNamed Bd.named Bd.method).1, Bd.returns, Bd.notSynchronized, rfl, rfl⟩
    ⟨s₁, [], X0, e0, Fr.nil n0, fun t k => castTop (hef m) k⟩
  exact ⟨s₂, _, g1, g2, g3, v, L, rfl, ⟨by rw [g4]; exact hQ, g5⟩, g6⟩
theorem Ct.imp {l : Launch} {Z : State} {y : MethodName} {bytes : ByteArray} {mx : Nat} {ret : Option FieldType} {rm : Room} {n0 : Nat} {as : Array Value} {h : Heap} {Q Q' : Option Value → Heap → Prop} (hM : Ct l Z y bytes mx ret rm n0 as h Q) (hi : ∀ v h', Q v h' → Q' v h') : Ct l Z y bytes mx ret rm n0 as h Q' := by
  intro ws p e ha hc hk s m args below hf happ hP hK
  obtain ⟨n, o, h1, h2, h3, v, L, g1, ⟨g2, g3⟩, g4⟩ := hM ws p e ha hc hk s m args below hf happ hP hK
  exact ⟨n, o, h1, h2, h3, v, L, g1, ⟨hi _ _ g2, g3⟩, g4⟩
/-- the class that declares z is no interface, by a word of the sheet -/
def NF (Z : State) (a0 : Array Value) (z : MethodName) : Prop := (∃ C z2, (Jvm.Cond.selects C z2 z2).before a0 Z = true ∧ z2.cls = z.cls) ∨ (∃ S, (Jvm.Cond.superclass z.cls S).before a0 Z = true) ∨ (Jvm.Cond.noSuperclass z.cls).before a0 Z = true
theorem NF.at {Z s : State} {a0 : Array Value} {z : MethodName} (hZ : Z.Warmed39 s.vm) (f : NF Z a0 z) : NotFace s z := by
  rcases f with ⟨C, z2, w, e⟩ | ⟨S, w⟩ | w
  · intro r0 h0
    obtain ⟨c2, r2, m2, q1, q2, q3, q4, kP, hkP, hkPi⟩ := Cond.selects_spec (mvT (args := #[]) hZ w)
    have a := findClass_of_methodNamed h0
    have b := findClass_of_methodNamed q3
    rw [e] at b
    have d : r0.cls = m2.cls := Option.some.inj (a.symm.trans b)
    exact ⟨kP, by rw [d]; exact hkP, hkPi⟩
  · exact nf_super (args := #[]) (mvT hZ w)
  · exact nf_top (args := #[]) (mvT hZ w)
section Steps
variable {l : Launch} {Z : State} {y : MethodName} {code : ByteArray} {mx : Nat} {ret : Option FieldType} {R : Room} {n0 : Nat} {W : WT} {V : VT} {h : Heap} {k n pc pc' : Nat} {Ls Ls' : Array Slot} {st st' : List Value} {a0 : Array Value}
/-- a plain step, by the library's law for it -/
theorem Wk.step (H : Wk l Z y code mx ret R n0 W V) (r : W h k n pc Ls st)
    (f : ∀ {tb : Tables} [Ours tb] {e : Env} {below : List Frame} {T t : State} {m : MethodId} {c : Code}, At T m c below → tb.exec = Jvm.exec → c.code = code → Steps tb e below (T.setTop (mkF m pc' Ls' st')) t → Steps tb e below (T.setTop (mkF m pc Ls st)) t) : W h k n pc' Ls' st' := by
  obtain ⟨p, e, s, m, args, below, meth, c, S0, hx, hby, hml, hown, hZ, hnm, hret, hlk, rfl, rfl⟩ := H
  obtain ⟨T, locs, X, eh, N, sp⟩ := r
  exact ⟨T, locs, X, eh, N, fun t q => sp t (f X.here hx hby q)⟩
/-- the account of cells and slots may be widened -/
theorem Wk.more (H : Wk l Z y code mx ret R n0 W V) {k' n' : Nat} (hk : k ≤ k') (hn : n ≤ n') (r : W h k n pc Ls st) : W h k' n' pc Ls st := by
  obtain ⟨p, e, s, m, args, below, meth, c, S0, hx, hby, hml, hown, hZ, hnm, hret, hlk, rfl, rfl⟩ := H
  obtain ⟨T, locs, X, eh, N, sp⟩ := r
  exact ⟨T, locs, X.mono hk hn, eh, N, sp⟩
/-- a step that reads the tables or the heap -/
theorem Wk.stepX (H : Wk l Z y code mx ret R n0 W V) (r : W h k n pc Ls st)
    (f : ∀ {p : Program} {e : Env} {s : State} {m : MethodId} {args : Array Value} {below : List Frame} {meth : Method} {c : Code} {T : State} {locs : List Loc}, Stand p l e R s m args below meth c T locs k n → p.tables.exec = Jvm.exec → c.code = code → c.maxLocals = mx → s.vm.findClass y.cls = some m.cls → Z.Warmed39 s.vm → T.heap = h → ∃ T', Stand p l e R s m args below meth c T' locs k n ∧ T'.heap = h ∧ ∀ t, Steps p.tables e below (T'.setTop (mkF m pc' Ls' st')) t → Steps p.tables e below (T.setTop (mkF m pc Ls st)) t) : W h k n pc' Ls' st' := by
  obtain ⟨p, e, s, m, args, below, meth, c, S0, hx, hby, hml, hown, hZ, hnm, hret, hlk, rfl, rfl⟩ := H
  obtain ⟨T, locs, X, eh, N, sp⟩ := r
  obtain ⟨T', X', e', q⟩ := f X hx hby hml hown hZ eh
  exact ⟨T', locs, X', e', N, fun t u => sp t (q t u)⟩
theorem Wk.aloadN (H : Wk l Z y code mx ret R n0 W V) {i : Fin 4} {v : Value} (hd : decode code pc = .ok (.aload_n i, 1)) (r : W h k n pc Ls (st)) (hl : Ls[i.val]? = some (.val v)) (hv : v.isRef = true) : W h k n (pc + 1) Ls (v :: st) :=
  H.step r fun A hx hby q => XS.aloadN A hx rfl (hb hby hd) hl hv q
theorem Wk.aload (H : Wk l Z y code mx ret R n0 W V) {i : Nat} {v : Value} (hd : decode code pc = .ok (.aload i, 2)) (r : W h k n pc Ls (st)) (hl : Ls[i]? = some (.val v)) (hv : v.isRef = true) : W h k n (pc + 2) Ls (v :: st) :=
  H.step r fun A hx hby q => XS.aload A hx rfl (hb hby hd) hl hv q
theorem Wk.iloadN (H : Wk l Z y code mx ret R n0 W V) {i : Fin 4} {v : Int32} (hd : decode code pc = .ok (.iload_n i, 1)) (r : W h k n pc Ls (st)) (hl : Ls[i.val]? = some (.val (.int v))) : W h k n (pc + 1) Ls (.int v :: st) :=
  H.step r fun A hx hby q => XS.iloadN A hx rfl (hb hby hd) hl q
theorem Wk.iload (H : Wk l Z y code mx ret R n0 W V) {i : Nat} {v : Int32} (hd : decode code pc = .ok (.iload i, 2)) (r : W h k n pc Ls (st)) (hl : Ls[i]? = some (.val (.int v))) : W h k n (pc + 2) Ls (.int v :: st) :=
  H.step r fun A hx hby q => XS.iload A hx rfl (hb hby hd) hl q
theorem Wk.lloadN (H : Wk l Z y code mx ret R n0 W V) {i : Fin 4} {v : Int64} (hd : decode code pc = .ok (.lload_n i, 1)) (r : W h k n pc Ls (st)) (hl : Ls[i.val]? = some (.val (.long v))) : W h k n (pc + 1) Ls (.long v :: st) :=
  H.step r fun A hx hby q => XS.lloadN A hx rfl (hb hby hd) hl q
theorem Wk.lload (H : Wk l Z y code mx ret R n0 W V) {i : Nat} {v : Int64} (hd : decode code pc = .ok (.lload i, 2)) (r : W h k n pc Ls (st)) (hl : Ls[i]? = some (.val (.long v))) : W h k n (pc + 2) Ls (.long v :: st) :=
  H.step r fun A hx hby q => XS.lload A hx rfl (hb hby hd) hl q
theorem Wk.floadN (H : Wk l Z y code mx ret R n0 W V) {i : Fin 4} {v : UInt32} (hd : decode code pc = .ok (.fload_n i, 1)) (r : W h k n pc Ls (st)) (hl : Ls[i.val]? = some (.val (.float v))) : W h k n (pc + 1) Ls (.float v :: st) :=
  H.step r fun A hx hby q => XS.floadN A hx rfl (hb hby hd) hl q
theorem Wk.iconst (H : Wk l Z y code mx ret R n0 W V) {i : Int} {z : Int32} (hd : decode code pc = .ok (.iconst i, 1)) (r : W h k n pc Ls st) (hz : Int32.ofInt i = z) : W h k n (pc + 1) Ls (.int z :: st) := by
  subst hz
  exact H.step r fun A hx hby q => XS.iconst A hx rfl (hb hby hd) q
theorem Wk.bipush (H : Wk l Z y code mx ret R n0 W V) {i : Int} {z : Int32} (hd : decode code pc = .ok (.bipush i, 2)) (r : W h k n pc Ls st) (hz : (Int8.ofInt i).toInt32 = z) : W h k n (pc + 2) Ls (.int z :: st) := by
  subst hz
  exact H.step r fun A hx hby q => XS.bipush A hx rfl (hb hby hd) q
theorem Wk.sipush (H : Wk l Z y code mx ret R n0 W V) {i : Int} {z : Int32} (hd : decode code pc = .ok (.sipush i, 3)) (r : W h k n pc Ls st) (hz : (Int16.ofInt i).toInt32 = z) : W h k n (pc + 3) Ls (.int z :: st) := by
  subst hz
  exact H.step r fun A hx hby q => XS.sipush A hx rfl (hb hby hd) q
theorem Wk.lconst (H : Wk l Z y code mx ret R n0 W V) {i : Fin 2} {z : Int64} (hd : decode code pc = .ok (.lconst i, 1)) (r : W h k n pc Ls st) (hz : Int64.ofNat i = z) : W h k n (pc + 1) Ls (.long z :: st) := by
  subst hz
  exact H.step r fun A hx hby q => XS.lconst A hx rfl (hb hby hd) q
theorem Wk.fconst0 (H : Wk l Z y code mx ret R n0 W V) {v : UInt32} (hd : decode code pc = .ok (.fconst 0, 1)) (r : W h k n pc Ls st) (hv : FP.fconst0 = v) : W h k n (pc + 1) Ls (.float v :: st) :=
  H.step r fun A hx hby q => XS.fconst0 A hx rfl (hb hby hd) hv q
theorem Wk.fcmp (H : Wk l Z y code mx ret R n0 W V) {o : CmpOp} {x z : UInt32} {v : Int32} (hd : decode code pc = .ok (.fcmp o, 1)) (r : W h k n pc Ls (.float z :: .float x :: st)) (hv : cmpValue (FP.fcmp x z) o = v) : W h k n (pc + 1) Ls (.int v :: st) :=
  H.step r fun A hx hby q => XS.fcmpS A hx rfl (hb hby hd) rfl hv q
theorem Wk.aconstNull (H : Wk l Z y code mx ret R n0 W V) (hd : decode code pc = .ok (.aconst_null, 1)) (r : W h k n pc Ls (st)) : W h k n (pc + 1) Ls (.null :: st) :=
  H.step r fun A hx hby q => XS.aconstNull A hx rfl (hb hby hd)  q
theorem Wk.iadd (H : Wk l Z y code mx ret R n0 W V) {a b : Int32} (hd : decode code pc = .ok (.iadd, 1)) (r : W h k n pc Ls (.int b :: .int a :: st)) : W h k n (pc + 1) Ls (.int (a + b) :: st) :=
  H.step r fun A hx hby q => XS.iadd A hx rfl (hb hby hd) rfl q
theorem Wk.isub (H : Wk l Z y code mx ret R n0 W V) {a b : Int32} (hd : decode code pc = .ok (.isub, 1)) (r : W h k n pc Ls (.int b :: .int a :: st)) : W h k n (pc + 1) Ls (.int (a - b) :: st) :=
  H.step r fun A hx hby q => XS.isub A hx rfl (hb hby hd) rfl q
theorem Wk.iand (H : Wk l Z y code mx ret R n0 W V) {a b : Int32} (hd : decode code pc = .ok (.iand, 1)) (r : W h k n pc Ls (.int b :: .int a :: st)) : W h k n (pc + 1) Ls (.int (a &&& b) :: st) :=
  H.step r fun A hx hby q => XS.iand A hx rfl (hb hby hd) rfl q
theorem Wk.imul (H : Wk l Z y code mx ret R n0 W V) {a b : Int32} (hd : decode code pc = .ok (.imul, 1)) (r : W h k n pc Ls (.int b :: .int a :: st)) : W h k n (pc + 1) Ls (.int (a * b) :: st) :=
  H.step r fun A hx hby q => XS.imul A hx rfl (hb hby hd) rfl q
theorem Wk.ior (H : Wk l Z y code mx ret R n0 W V) {a b : Int32} (hd : decode code pc = .ok (.ior, 1)) (r : W h k n pc Ls (.int b :: .int a :: st)) : W h k n (pc + 1) Ls (.int (a ||| b) :: st) :=
  H.step r fun A hx hby q => XS.ior A hx rfl (hb hby hd) rfl q
theorem Wk.ixor (H : Wk l Z y code mx ret R n0 W V) {a b : Int32} (hd : decode code pc = .ok (.ixor, 1)) (r : W h k n pc Ls (.int b :: .int a :: st)) : W h k n (pc + 1) Ls (.int (a ^^^ b) :: st) :=
  H.step r fun A hx hby q => XS.ixor A hx rfl (hb hby hd) rfl q
theorem Wk.ishl (H : Wk l Z y code mx ret R n0 W V) {a b : Int32} (hd : decode code pc = .ok (.ishl, 1)) (r : W h k n pc Ls (.int b :: .int a :: st)) : W h k n (pc + 1) Ls (.int (a <<< (b &&& 31)) :: st) :=
  H.step r fun A hx hby q => XS.ishl A hx rfl (hb hby hd) rfl q
theorem Wk.ishr (H : Wk l Z y code mx ret R n0 W V) {a b : Int32} (hd : decode code pc = .ok (.ishr, 1)) (r : W h k n pc Ls (.int b :: .int a :: st)) : W h k n (pc + 1) Ls (.int (a >>> (b &&& 31)) :: st) :=
  H.step r fun A hx hby q => XS.ishr A hx rfl (hb hby hd) rfl q
theorem Wk.iushr (H : Wk l Z y code mx ret R n0 W V) {a b : Int32} (hd : decode code pc = .ok (.iushr, 1)) (r : W h k n pc Ls (.int b :: .int a :: st)) : W h k n (pc + 1) Ls (.int ((a.toUInt32 >>> (b &&& 31).toUInt32).toInt32) :: st) :=
  H.step r fun A hx hby q => XS.iushr A hx rfl (hb hby hd) rfl q
theorem Wk.ladd (H : Wk l Z y code mx ret R n0 W V) {a b : Int64} (hd : decode code pc = .ok (.ladd, 1)) (r : W h k n pc Ls (.long b :: .long a :: st)) : W h k n (pc + 1) Ls (.long (a + b) :: st) :=
  H.step r fun A hx hby q => XS.ladd A hx rfl (hb hby hd) rfl q
theorem Wk.lsub (H : Wk l Z y code mx ret R n0 W V) {a b : Int64} (hd : decode code pc = .ok (.lsub, 1)) (r : W h k n pc Ls (.long b :: .long a :: st)) : W h k n (pc + 1) Ls (.long (a - b) :: st) :=
  H.step r fun A hx hby q => XS.lsub A hx rfl (hb hby hd) rfl q
theorem Wk.lmul (H : Wk l Z y code mx ret R n0 W V) {a b : Int64} (hd : decode code pc = .ok (.lmul, 1)) (r : W h k n pc Ls (.long b :: .long a :: st)) : W h k n (pc + 1) Ls (.long (a * b) :: st) :=
  H.step r fun A hx hby q => XS.lmul A hx rfl (hb hby hd) rfl q
theorem Wk.land (H : Wk l Z y code mx ret R n0 W V) {a b : Int64} (hd : decode code pc = .ok (.land, 1)) (r : W h k n pc Ls (.long b :: .long a :: st)) : W h k n (pc + 1) Ls (.long (a &&& b) :: st) :=
  H.step r fun A hx hby q => XS.land A hx rfl (hb hby hd) rfl q
theorem Wk.lor (H : Wk l Z y code mx ret R n0 W V) {a b : Int64} (hd : decode code pc = .ok (.lor, 1)) (r : W h k n pc Ls (.long b :: .long a :: st)) : W h k n (pc + 1) Ls (.long (a ||| b) :: st) :=
  H.step r fun A hx hby q => XS.lor A hx rfl (hb hby hd) rfl q
theorem Wk.lxor (H : Wk l Z y code mx ret R n0 W V) {a b : Int64} (hd : decode code pc = .ok (.lxor, 1)) (r : W h k n pc Ls (.long b :: .long a :: st)) : W h k n (pc + 1) Ls (.long (a ^^^ b) :: st) :=
  H.step r fun A hx hby q => XS.lxor A hx rfl (hb hby hd) rfl q
theorem Wk.lshl (H : Wk l Z y code mx ret R n0 W V) {a : Int64} {b : Int32} (hd : decode code pc = .ok (.lshl, 1)) (r : W h k n pc Ls (.int b :: .long a :: st)) : W h k n (pc + 1) Ls (.long (a <<< (b &&& 0x3f).toInt64) :: st) :=
  H.step r fun A hx hby q => XS.lshl A hx rfl (hb hby hd) rfl q
theorem Wk.lshr (H : Wk l Z y code mx ret R n0 W V) {a : Int64} {b : Int32} (hd : decode code pc = .ok (.lshr, 1)) (r : W h k n pc Ls (.int b :: .long a :: st)) : W h k n (pc + 1) Ls (.long (a >>> (b &&& 0x3f).toInt64) :: st) :=
  H.step r fun A hx hby q => XS.lshr A hx rfl (hb hby hd) rfl q
theorem Wk.lushr (H : Wk l Z y code mx ret R n0 W V) {a : Int64} {b : Int32} (hd : decode code pc = .ok (.lushr, 1)) (r : W h k n pc Ls (.int b :: .long a :: st)) : W h k n (pc + 1) Ls (.long ((a.toUInt64 >>> (b &&& 0x3f).toInt64.toUInt64).toInt64) :: st) :=
  H.step r fun A hx hby q => XS.lushr A hx rfl (hb hby hd) rfl q
theorem Wk.ldiv (H : Wk l Z y code mx ret R n0 W V) {a b : Int64} (hd : decode code pc = .ok (.ldiv, 1)) (r : W h k n pc Ls (.long b :: .long a :: st)) (hy : b ≠ 0) : W h k n (pc + 1) Ls (.long (a / b) :: st) :=
  H.step r fun A hx hby q => XS.ldiv A hx rfl (hb hby hd) rfl hy q
theorem Wk.idiv (H : Wk l Z y code mx ret R n0 W V) {a b : Int32} (hd : decode code pc = .ok (.idiv, 1)) (r : W h k n pc Ls (.int b :: .int a :: st)) (hy : b ≠ 0) : W h k n (pc + 1) Ls (.int (a / b) :: st) :=
  H.step r fun A hx hby q => XS.idiv A hx rfl (hb hby hd) rfl hy q
theorem Wk.lrem (H : Wk l Z y code mx ret R n0 W V) {a b : Int64} (hd : decode code pc = .ok (.lrem, 1)) (r : W h k n pc Ls (.long b :: .long a :: st)) (hy : b ≠ 0) : W h k n (pc + 1) Ls (.long (a % b) :: st) := by
  rw [← lrem_mod a b]
  exact H.step r fun A hx hby q => XS.lrem A hx rfl (hb hby hd) rfl hy q
theorem Wk.irem (H : Wk l Z y code mx ret R n0 W V) {a b : Int32} (hd : decode code pc = .ok (.irem, 1)) (r : W h k n pc Ls (.int b :: .int a :: st)) (hy : b ≠ 0) : W h k n (pc + 1) Ls (.int (a % b) :: st) :=
  H.stepX r fun X hx hby hml hown hZ eT => ⟨_, X, eT, fun t q => iremM X hx rfl (hb hby hd) rfl hy q⟩
theorem Wk.i2b (H : Wk l Z y code mx ret R n0 W V) {a : Int32} (hd : decode code pc = .ok (.i2b, 1)) (r : W h k n pc Ls (.int a :: st)) : W h k n (pc + 1) Ls (.int (a.toInt8.toInt32) :: st) :=
  H.step r fun A hx hby q => XS.i2b A hx rfl (hb hby hd) rfl q
theorem Wk.i2c (H : Wk l Z y code mx ret R n0 W V) {a : Int32} (hd : decode code pc = .ok (.i2c, 1)) (r : W h k n pc Ls (.int a :: st)) : W h k n (pc + 1) Ls (.int (a.toUInt32.toUInt16.toUInt32.toInt32) :: st) :=
  H.step r fun A hx hby q => XS.i2c A hx rfl (hb hby hd) rfl q
theorem Wk.i2s (H : Wk l Z y code mx ret R n0 W V) {a : Int32} (hd : decode code pc = .ok (.i2s, 1)) (r : W h k n pc Ls (.int a :: st)) : W h k n (pc + 1) Ls (.int (a.toInt16.toInt32) :: st) :=
  H.step r fun A hx hby q => XS.i2s A hx rfl (hb hby hd) rfl q
theorem Wk.i2l (H : Wk l Z y code mx ret R n0 W V) {a : Int32} (hd : decode code pc = .ok (.i2l, 1)) (r : W h k n pc Ls (.int a :: st)) : W h k n (pc + 1) Ls (.long (a.toInt64) :: st) :=
  H.step r fun A hx hby q => XS.i2l A hx rfl (hb hby hd) rfl q
theorem Wk.l2i (H : Wk l Z y code mx ret R n0 W V) {a : Int64} (hd : decode code pc = .ok (.l2i, 1)) (r : W h k n pc Ls (.long a :: st)) : W h k n (pc + 1) Ls (.int (a.toInt32) :: st) :=
  H.step r fun A hx hby q => XS.l2i A hx rfl (hb hby hd) rfl q
theorem Wk.ineg (H : Wk l Z y code mx ret R n0 W V) {a : Int32} (hd : decode code pc = .ok (.ineg, 1)) (r : W h k n pc Ls (.int a :: st)) : W h k n (pc + 1) Ls (.int (-a) :: st) :=
  H.step r fun A hx hby q => XS.ineg A hx rfl (hb hby hd) rfl q
theorem Wk.lcmp (H : Wk l Z y code mx ret R n0 W V) {a b : Int64} (hd : decode code pc = .ok (.lcmp, 1)) (r : W h k n pc Ls (.long b :: .long a :: st)) : W h k n (pc + 1) Ls (.int (lcmpW a b) :: st) :=
  H.step r fun A hx hby q => XS.lcmp A hx rfl (hb hby hd) rfl q
theorem Wk.dup (H : Wk l Z y code mx ret R n0 W V) {v : Value} (hd : decode code pc = .ok (.dup, 1)) (r : W h k n pc Ls (v :: st)) (hc : v.category = 1) : W h k n (pc + 1) Ls (v :: v :: st) :=
  H.step r fun A hx hby q => XS.dup A hx rfl (hb hby hd) rfl hc q
theorem Wk.pop (H : Wk l Z y code mx ret R n0 W V) {v : Value} (hd : decode code pc = .ok (.pop, 1)) (r : W h k n pc Ls (v :: st)) (hc : v.category = 1) : W h k n (pc + 1) Ls (st) :=
  H.step r fun A hx hby q => XS.pop A hx rfl (hb hby hd) rfl hc q
theorem Wk.dupX1 (H : Wk l Z y code mx ret R n0 W V) {v w : Value} (hd : decode code pc = .ok (.dup_x1, 1)) (r : W h k n pc Ls (v :: w :: st)) (hc : v.category = 1) (hc2 : w.category = 1) : W h k n (pc + 1) Ls (v :: w :: v :: st) :=
  H.step r fun A hx hby q => XS.dupX1 A hx rfl (hb hby hd) rfl hc hc2 q
theorem Wk.istoreN (H : Wk l Z y code mx ret R n0 W V) {i : Fin 4} {v : Int32} (hd : decode code pc = .ok (.istore_n i, 1)) (r : W h k n pc Ls (.int v :: st)) (hl : storeLocals Ls i.val (.int v) = some Ls') : W h k n (pc + 1) Ls' (st) :=
  H.step r fun A hx hby q => XS.istoreN A hx rfl (hb hby hd) rfl hl q
theorem Wk.istore (H : Wk l Z y code mx ret R n0 W V) {i : Nat} {v : Int32} (hd : decode code pc = .ok (.istore i, 2)) (r : W h k n pc Ls (.int v :: st)) (hl : storeLocals Ls i (.int v) = some Ls') : W h k n (pc + 2) Ls' (st) :=
  H.step r fun A hx hby q => XS.istore A hx rfl (hb hby hd) rfl hl q
theorem Wk.lstoreN (H : Wk l Z y code mx ret R n0 W V) {i : Fin 4} {v : Int64} (hd : decode code pc = .ok (.lstore_n i, 1)) (r : W h k n pc Ls (.long v :: st)) (hl : storeLocals Ls i.val (.long v) = some Ls') : W h k n (pc + 1) Ls' (st) :=
  H.step r fun A hx hby q => XS.lstoreN A hx rfl (hb hby hd) rfl hl q
theorem Wk.lstore (H : Wk l Z y code mx ret R n0 W V) {i : Nat} {v : Int64} (hd : decode code pc = .ok (.lstore i, 2)) (r : W h k n pc Ls (.long v :: st)) (hl : storeLocals Ls i (.long v) = some Ls') : W h k n (pc + 2) Ls' (st) :=
  H.step r fun A hx hby q => XS.lstore A hx rfl (hb hby hd) rfl hl q
theorem Wk.astoreN (H : Wk l Z y code mx ret R n0 W V) {i : Fin 4} {v : Value} (hd : decode code pc = .ok (.astore_n i, 1)) (r : W h k n pc Ls (v :: st)) (hv : v.isRef = true) (hl : storeLocals Ls i.val v = some Ls') : W h k n (pc + 1) Ls' (st) :=
  H.step r fun A hx hby q => XS.astoreN A hx rfl (hb hby hd) rfl hv hl q
theorem Wk.astore (H : Wk l Z y code mx ret R n0 W V) {i : Nat} {v : Value} (hd : decode code pc = .ok (.astore i, 2)) (r : W h k n pc Ls (v :: st)) (hv : v.isRef = true) (hl : storeLocals Ls i v = some Ls') : W h k n (pc + 2) Ls' (st) :=
  H.step r fun A hx hby q => XS.astore A hx rfl (hb hby hd) rfl hv hl q
theorem Wk.istoreNS (H : Wk l Z y code mx ret R n0 W V) {i : Fin 4} {v : Int32} {o : Slot} (hd : decode code pc = .ok (.istore_n i, 1)) (r : W h k n pc Ls (.int v :: st)) (hold : Ls[i.val]? = some o) (ho : One o) : W h k n (pc + 1) (Ls.setIfInBounds i.val (.val (.int v))) st :=
  H.step r fun A hx hby q => XS.istoreNS A hx rfl (hb hby hd) rfl hold ho q
theorem Wk.istoreS (H : Wk l Z y code mx ret R n0 W V) {i : Nat} {v : Int32} {o : Slot} (hd : decode code pc = .ok (.istore i, 2)) (r : W h k n pc Ls (.int v :: st)) (hold : Ls[i]? = some o) (ho : One o) : W h k n (pc + 2) (Ls.setIfInBounds i (.val (.int v))) st :=
  H.step r fun A hx hby q => XS.istoreS A hx rfl (hb hby hd) rfl hold ho q
theorem Wk.iinc (H : Wk l Z y code mx ret R n0 W V) {i : Nat} {cst : Int} {v z : Int32} (hd : decode code pc = .ok (.iinc i cst, 3)) (r : W h k n pc Ls (st)) (hz : v + Int32.ofInt cst = z) (hl : Ls[i]? = some (.val (.int v))) (hl' : storeLocals Ls i (.int z) = some Ls') : W h k n (pc + 3) Ls' (st) :=
  H.step r fun A hx hby q => XS.iinc A hx rfl (hb hby hd) hl (hz ▸ hl') q
theorem Wk.goto (H : Wk l Z y code mx ret R n0 W V) {o : Int} (hd : decode code pc = .ok (.goto o, 3)) (r : W h k n pc Ls st) (ho : 0 ≤ (pc : Int) + o) (hp : ((pc : Int) + o).toNat = pc') : W h k n pc' Ls st :=
  H.step r fun A hx hby q => XS.goto A hx rfl rfl (hb hby hd) ho hp q
theorem Wk.ifYes (H : Wk l Z y code mx ret R n0 W V) {cd : ClassFile.Cond} {a : Int32} {o : Int} (hd : decode code pc = .ok (.ifCond cd o, 3)) (r : W h k n pc Ls (.int a :: st)) (ho : 0 ≤ (pc : Int) + o) (hp : ((pc : Int) + o).toNat = pc') (hc : if_icmp.holds cd a 0 = true) : W h k n pc' Ls st :=
  H.step r fun A hx hby q => XS.ifYes A hx rfl rfl (hb hby hd) rfl ((if0 cd a).trans hc) ho hp q
theorem Wk.ifNo (H : Wk l Z y code mx ret R n0 W V) {cd : ClassFile.Cond} {a : Int32} {o : Int} (hd : decode code pc = .ok (.ifCond cd o, 3)) (r : W h k n pc Ls (.int a :: st)) (hc : if_icmp.holds cd a 0 = false) : W h k n (pc + 3) Ls st :=
  H.step r fun A hx hby q => XS.ifNo A hx rfl (hb hby hd) rfl ((if0 cd a).trans hc) q
theorem Wk.icmpYes (H : Wk l Z y code mx ret R n0 W V) {cd : ClassFile.Cond} {a b : Int32} {o : Int} (hd : decode code pc = .ok (.if_icmp cd o, 3)) (r : W h k n pc Ls (.int b :: .int a :: st)) (ho : 0 ≤ (pc : Int) + o) (hp : ((pc : Int) + o).toNat = pc') (hc : if_icmp.holds cd a b = true) : W h k n pc' Ls st :=
  H.step r fun A hx hby q => XS.icmpYes A hx rfl rfl (hb hby hd) rfl hc ho hp q
theorem Wk.icmpNo (H : Wk l Z y code mx ret R n0 W V) {cd : ClassFile.Cond} {a b : Int32} {o : Int} (hd : decode code pc = .ok (.if_icmp cd o, 3)) (r : W h k n pc Ls (.int b :: .int a :: st)) (hc : if_icmp.holds cd a b = false) : W h k n (pc + 3) Ls st :=
  H.step r fun A hx hby q => XS.icmpNo A hx rfl (hb hby hd) rfl hc q
theorem Wk.ifnullYes (H : Wk l Z y code mx ret R n0 W V) {o : Int} (hd : decode code pc = .ok (.ifnull o, 3)) (r : W h k n pc Ls (.null :: st)) (ho : 0 ≤ (pc : Int) + o) (hp : ((pc : Int) + o).toNat = pc') : W h k n pc' Ls st :=
  H.step r fun A hx hby q => XS.ifnullYes A hx rfl rfl (hb hby hd) rfl ho hp q
theorem Wk.ifnullNo (H : Wk l Z y code mx ret R n0 W V) {a : Addr} {o : Int} (hd : decode code pc = .ok (.ifnull o, 3)) (r : W h k n pc Ls (.ref a :: st)) : W h k n (pc + 3) Ls st :=
  H.step r fun A hx hby q => XS.ifnullNo A hx rfl (hb hby hd) rfl q
theorem Wk.ifnonnullYes (H : Wk l Z y code mx ret R n0 W V) {a : Addr} {o : Int} (hd : decode code pc = .ok (.ifnonnull o, 3)) (r : W h k n pc Ls (.ref a :: st)) (ho : 0 ≤ (pc : Int) + o) (hp : ((pc : Int) + o).toNat = pc') : W h k n pc' Ls st :=
  H.step r fun A hx hby q => XS.ifnonnullYes A hx rfl rfl (hb hby hd) rfl ho hp q
theorem Wk.ifnonnullNo (H : Wk l Z y code mx ret R n0 W V) {o : Int} (hd : decode code pc = .ok (.ifnonnull o, 3)) (r : W h k n pc Ls (.null :: st)) : W h k n (pc + 3) Ls st :=
  H.step r fun A hx hby q => XS.ifnonnullNo A hx rfl (hb hby hd) rfl q
theorem Wk.acmpYes (H : Wk l Z y code mx ret R n0 W V) {cd : ClassFile.ACond} {a b : Value} {o : Int} (hd : decode code pc = .ok (.if_acmp cd o, 3)) (r : W h k n pc Ls (b :: a :: st)) (ho : 0 ≤ (pc : Int) + o) (hp : ((pc : Int) + o).toNat = pc') (ha : a.isRef = true) (hb' : b.isRef = true) (hc : XT.acmp cd a b = true) : W h k n pc' Ls st :=
  H.step r fun A hx hby q => XT.acmpYes A hx rfl rfl (hb hby hd) rfl ha hb' hc ho hp q
theorem Wk.acmpNo (H : Wk l Z y code mx ret R n0 W V) {cd : ClassFile.ACond} {a b : Value} {o : Int} (hd : decode code pc = .ok (.if_acmp cd o, 3)) (r : W h k n pc Ls (b :: a :: st)) (ha : a.isRef = true) (hb' : b.isRef = true) (hc : XT.acmp cd a b = false) : W h k n (pc + 3) Ls st :=
  H.step r fun A hx hby q => XT.acmpNo A hx rfl (hb hby hd) rfl ha hb' hc q
theorem Wk.lookHit (H : Wk l Z y code mx ret R n0 W V) {z : Int32} {dflt : Int} {pairs : Array (Int × Int)} {len : Nat} {a off : Int} (hsorted : (pairs.toList.zip (pairs.toList.drop 1)).all (fun (a, next) => a.1 < next.1) = true) (hfind : pairs.find? (·.1 == z.toInt) = some (a, off)) (ho : 0 ≤ (pc : Int) + off) (hp : ((pc : Int) + off).toNat = pc') (hd : decode code pc = .ok (.lookupswitch dflt pairs, len)) (r : W h k n pc Ls (.int z :: st)) : W h k n pc' Ls st := by
  subst hp
  exact H.stepX r fun X hx hby hml hown hZ eT => ⟨_, X, eT, fun t q => X.lookupswitchHit hx (g := mkF _ pc Ls (.int z :: st)) rfl rfl (hb hby hd) hsorted hfind ho t q⟩
theorem Wk.lookMiss (H : Wk l Z y code mx ret R n0 W V) {z : Int32} {dflt : Int} {pairs : Array (Int × Int)} {len : Nat} (hsorted : (pairs.toList.zip (pairs.toList.drop 1)).all (fun (a, next) => a.1 < next.1) = true) (hfind : pairs.find? (·.1 == z.toInt) = none) (ho : 0 ≤ (pc : Int) + dflt) (hp : ((pc : Int) + dflt).toNat = pc') (hd : decode code pc = .ok (.lookupswitch dflt pairs, len)) (r : W h k n pc Ls (.int z :: st)) : W h k n pc' Ls st := by
  subst hp
  exact H.stepX r fun X hx hby hml hown hZ eT => ⟨_, X, eT, fun t q => X.lookupswitchMiss hx (g := mkF _ pc Ls (.int z :: st)) rfl rfl (hb hby hd) hsorted hfind ho t q⟩
theorem Wk.getS (H : Wk l Z y code mx ret R n0 W V) {i : Nat} {O nm d : String} {v : Value} (w : (Jvm.Cond.fieldLink y.cls i O nm d).before a0 Z = true) (F : Sta Z h O nm d v) (hd : decode code pc = .ok (.getstatic i, 3)) (r : W h k n pc Ls st) : W h k n (pc + 3) Ls (v :: st) :=
  H.stepX r fun X hx hby hml hown hZ eT => RoadKit.getS X hx hZ (host := "") hown w Via.refl eT F (g := mkF _ pc Ls st) rfl (hb hby hd)
theorem Wk.instY (H : Wk l Z y code mx ret R n0 W V) {i : Nat} {K : String} {a : Addr} (w : (Jvm.Cond.classLink y.cls i K).before a0 Z = true) (F : Ins Z h a K true) (hd : decode code pc = .ok (.instanceof i, 3)) (r : W h k n pc Ls (.ref a :: st)) : W h k n (pc + 3) Ls (.int 1 :: st) :=
  H.stepX r fun X hx hby hml hown hZ eT => RoadKit.instY X hx hZ hown w eT F (g := mkF _ pc Ls (.ref a :: st)) rfl rfl (hb hby hd)
theorem Wk.instNo (H : Wk l Z y code mx ret R n0 W V) {i : Nat} {K C : String} {a : Addr} (w : (Jvm.Cond.classLink y.cls i K).before a0 Z = true) (E : Exa Z h a C) (F : ∃ c t, Z.vm.findClass C = some c ∧ Z.vm.findClass K = some t ∧ Z.vm.assignable c t = false) (hd : decode code pc = .ok (.instanceof i, 3)) (r : W h k n pc Ls (.ref a :: st)) : W h k n (pc + 3) Ls (.int 0 :: st) :=
  H.stepX r fun X hx hby hml hown hZ eT => RoadKit.instNo X hx hZ hown w eT E F (g := mkF _ pc Ls (.ref a :: st)) rfl rfl (hb hby hd)
theorem Wk.instNull (H : Wk l Z y code mx ret R n0 W V) {i : Nat} (hd : decode code pc = .ok (.instanceof i, 3)) (r : W h k n pc Ls (.null :: st)) : W h k n (pc + 3) Ls (.int 0 :: st) :=
  H.stepX r fun X hx hby hml hown hZ eT => ⟨_, X, eT, X.instanceofNull hx (g := mkF _ pc Ls (.null :: st)) rfl rfl (hb hby hd)⟩
theorem Wk.castY (H : Wk l Z y code mx ret R n0 W V) {i : Nat} {K : String} {a : Addr} (w : (Jvm.Cond.classLink y.cls i K).before a0 Z = true) (F : Ins Z h a K true) (hd : decode code pc = .ok (.checkcast i, 3)) (r : W h k n pc Ls (.ref a :: st)) : W h k n (pc + 3) Ls (.ref a :: st) :=
  H.stepX r fun X hx hby hml hown hZ eT => RoadKit.castY X hx hZ hown w eT F (g := mkF _ pc Ls (.ref a :: st)) rfl rfl (hb hby hd)
theorem Wk.castNull (H : Wk l Z y code mx ret R n0 W V) {i : Nat} (hd : decode code pc = .ok (.checkcast i, 3)) (r : W h k n pc Ls (.null :: st)) : W h k n (pc + 3) Ls (.null :: st) :=
  H.stepX r fun X hx hby hml hown hZ eT => ⟨_, X, eT, X.checkcastNull hx (g := mkF _ pc Ls (.null :: st)) rfl rfl (hb hby hd)⟩
theorem Wk.ldcInt (H : Wk l Z y code mx ret R n0 W V) {i : Nat} {v : Int32} (hd : decode code pc = .ok (.ldc i, 2)) (r : W h k n pc Ls st) (w : (Jvm.Cond.constant y.cls i v).before a0 Z = true) : W h k n (pc + 2) Ls (.int v :: st) :=
  H.stepX r fun X hx hby hml hown hZ eT => ⟨_, X, eT, X.ldcInt hx hown (mvT hZ w) (g := mkF _ pc Ls st) rfl (hb hby hd)⟩
theorem Wk.ldcWInt (H : Wk l Z y code mx ret R n0 W V) {i : Nat} {v : Int32} (hd : decode code pc = .ok (.ldc_w i, 3)) (r : W h k n pc Ls st) (w : (Jvm.Cond.constant y.cls i v).before a0 Z = true) : W h k n (pc + 3) Ls (.int v :: st) :=
  H.stepX r fun {p e s m args below meth c T locs} X hx hby hml hown hZ eT => ⟨T, X, eT, fun t q => by
    obtain ⟨kc, cf, bytes, hk, hcf, hcp, hb'⟩ := Cond.constant_spec hown (mvT (args := args) hZ w)
    obtain ⟨k', hk', he⟩ := X.warmed.alike.2.2 _ _ hk
    have hdg := hb hby hd
    show Steps p.tables e below (T.setTop (mkF m pc Ls st)) t
    jvm_step X.here [hx, hdg, ldc_w.wp_int (s := T) (f := mkF m pc Ls st) X.here.top hk' (by rw [he]; exact hcf) hcp, hb']
    exact q⟩
theorem Wk.ldcFloat (H : Wk l Z y code mx ret R n0 W V) {i : Nat} {v : UInt32} (w : (Jvm.Cond.constantFloat y.cls i v).before a0 Z = true) (hd : decode code pc = .ok (.ldc i, 2)) (r : W h k n pc Ls st) : W h k n (pc + 2) Ls (.float v :: st) :=
  H.stepX r fun X hx hby hml hown hZ eT => ⟨_, X, eT, X.ldcFloatC hx hown (mvT hZ w) (g := mkF _ pc Ls st) rfl (hb hby hd)⟩
theorem Wk.ldcLong (H : Wk l Z y code mx ret R n0 W V) {i : Nat} {v : Int64} (hd : decode code pc = .ok (.ldc2_w i, 3)) (r : W h k n pc Ls st) (w : (Jvm.Cond.constantLong y.cls i v).before a0 Z = true) : W h k n (pc + 3) Ls (.long v :: st) :=
  H.stepX r fun X hx hby hml hown hZ eT => ⟨_, X, eT, X.ldc2Long hx hown (mvT hZ w) (g := mkF _ pc Ls st) rfl (hb hby hd)⟩
theorem Wk.getF (H : Wk l Z y code mx ret R n0 W V) {i : Nat} {R0 O nm d host : String} {a : Addr} {v : Value} (w : (Jvm.Cond.fieldLink y.cls i R0 nm d).before a0 Z = true ∨ (Jvm.Cond.fieldLinkNest y.cls i R0 nm d host).before a0 Z = true) (via : Via Z R0 O nm d) (F : Fld Z h a O nm d v) (hd : decode code pc = .ok (.getfield i, 3)) (r : W h k n pc Ls (.ref a :: st)) : W h k n (pc + 3) Ls (v :: st) :=
  H.stepX r fun X hx hby hml hown hZ eT => RoadKit.getF X hx hZ hown w via eT F (g := mkF _ pc Ls (.ref a :: st)) rfl rfl (hb hby hd)
theorem Wk.getF' (H : Wk l Z y code mx ret R n0 W V) {i : Nat} {O nm d : String} {a : Addr} {v : Value} (w : (Jvm.Cond.fieldLink y.cls i O nm d).before a0 Z = true) (F : Fld Z h a O nm d v) (hd : decode code pc = .ok (.getfield i, 3)) (r : W h k n pc Ls (.ref a :: st)) : W h k n (pc + 3) Ls (v :: st) :=
  H.getF (host := "") (Or.inl w) Via.refl F hd r
theorem Wk.putF (H : Wk l Z y code mx ret R n0 W V) {i kk : Nat} {R0 O nm d host C : String} {ty : FieldType} {a : Addr} {v old : Value} (w : (Jvm.Cond.fieldLink y.cls i R0 nm d).before a0 Z = true ∨ (Jvm.Cond.fieldLinkNest y.cls i R0 nm d host).before a0 Z = true) (via : Via Z R0 O nm d) (F : Fld Z h a O nm d old) (E : Exa Z h a C) (L : (Jvm.Cond.lays C O nm d).before a0 Z = true ∨ ((Jvm.Cond.laysFinal C O nm d).before a0 Z = true ∧ y.cls = O ∧ y.name = "<init>")) (wi : (Jvm.Cond.instantiable C kk).before a0 Z = true)
    (hty : parseFieldDescriptor d = some ty) (hn : narrow ty v = v) (hf : fits ty v = true) (hn0 : n0 ≤ a) (hd : decode code pc = .ok (.putfield i, 3)) (r : W h k n pc Ls (v :: .ref a :: st)) : ∃ h', Wr h h' a (Jvm.RoadKit.slotOf Z O nm d) v ∧ W h' k n (pc + 3) Ls st := by
  obtain ⟨p, e, s, m, args, below, meth, c, S0, hx, hby, hml, hown, hZ, hnm, hret, hlk, rfl, rfl⟩ := H
  obtain ⟨T, locs, X, eh, N, sp⟩ := r
  obtain ⟨T', h', X', e', W', q⟩ := RoadKit.putF X hx hZ hown w via eh F E (L.imp id fun u => ⟨u.1, u.2.1, by rw [hnm]; exact u.2.2⟩) wi hty hn hf (g := mkF m pc Ls (v :: .ref a :: st)) rfl rfl (hb hby hd)
  exact ⟨h', W', T', _, X', e', Fr.snoc X' N hn0, fun t u => sp t (q t u)⟩
theorem Wk.newO (H : Wk l Z y code mx ret R n0 W V) {i q : Nat} {C : String} (w : (Jvm.Cond.classLink y.cls i C).before a0 Z = true) (wi : (Jvm.Cond.instantiable C q).before a0 Z = true) (wz : (Jvm.Cond.initialized C).before a0 Z = true) (hc : k + 1 ≤ R.cells) (hl : n + q ≤ R.slots) (hd : decode code pc = .ok (.new i, 3)) (r : W h k n pc Ls st) :
    ∃ h' a, a = h.size ∧ Ext h h' ∧ Exa Z h' a C ∧ (∀ {O nm d : String} {ty : FieldType}, Laid Z a0 C O nm d → parseFieldDescriptor d = some ty → Fld Z h' a O nm d (defaultValue ty)) ∧ (∃ cell : Cell, h'[a]? = some cell ∧ cell.vm = .none ∧ cell.monitor = {}) ∧ W h' (k + 1) (n + q) (pc + 3) Ls (.ref a :: st) := by
  obtain ⟨p, e, s, m, args, below, meth, c, S0, hx, hby, hml, hown, hZ, hnm, hret, hlk, rfl, rfl⟩ := H
  obtain ⟨T, locs, X, eh, N, sp⟩ := r
  obtain ⟨T', h', X', e', E', A', D', U', q'⟩ := RoadKit.newO X hx hZ hown w wi wz eh (g := mkF m pc Ls st) rfl (hb hby hd) hc hl
  exact ⟨h', _, rfl, E', A', D', U', T', _, X', e', N, fun t u => sp t (q' t u)⟩
theorem Wk.newP (H : Wk l Z y code mx ret R n0 W V) {aty : ArrayType} {ty : FieldType} {z : Int32} {cap : Nat} (hty : newarray.typeOf aty = ty) (w : (Jvm.Cond.arrayClass ty).before a0 Z = true) (hn : ¬ z < 0) (hcap : z.toNatClampNeg ≤ cap) (hb8 : cap * 8 ≤ 536870912) (hc : k + 1 ≤ R.cells) (hl : n + cap ≤ R.slots) (hd : decode code pc = .ok (.newarray aty, 2)) (r : W h k n pc Ls (.int z :: st)) :
    ∃ h' a cA, a = h.size ∧ Ext h h' ∧ Arr Z h' a (newA cA ty z) ty ∧ W h' (k + 1) (n + cap) (pc + 2) Ls (.ref a :: st) := by
  subst hty
  obtain ⟨p, e, s, m, args, below, meth, c, S0, hx, hby, hml, hown, hZ, hnm, hret, hlk, rfl, rfl⟩ := H
  obtain ⟨T, locs, X, eh, N, sp⟩ := r
  obtain ⟨T', h', cA, X', e', E', A', q'⟩ := RoadKit.newP X hx hZ w eh (g := mkF m pc Ls (.int z :: st)) rfl (hb hby hd) rfl hn hcap hb8 hc hl
  exact ⟨h', _, cA, rfl, E', A', T', _, X', e', N, fun t u => sp t (q' t u)⟩
theorem Wk.arrLen (H : Wk l Z y code mx ret R n0 W V) {a : Addr} {cl : Cell} {ty : FieldType} {z : Int32} (A : Arr Z h a cl ty) (hz : cl.slots.size.toInt32 = z) (hd : decode code pc = .ok (.arraylength, 1)) (r : W h k n pc Ls (.ref a :: st)) : W h k n (pc + 1) Ls (.int z :: st) := by
  subst hz
  exact H.stepX r fun X hx hby hml hown hZ eT => ⟨_, X, eT, X.arraylength hx (by rw [eT]; exact A.1) (State.isArrayOf_alike hZ.alike A.2.1) (g := mkF _ pc Ls (.ref a :: st)) rfl rfl (hb hby hd)⟩
theorem Wk.iaload (H : Wk l Z y code mx ret R n0 W V) {a : Addr} {cl : Cell} {j : Int32} {v : Value} (A : Arr Z h a cl .int) (hin : ¬ (j < 0 ∨ cl.slots.size ≤ j.toNatClampNeg)) (hv : cl.slots[j.toNatClampNeg]? = some v) (hd : decode code pc = .ok (.iaload, 1)) (r : W h k n pc Ls (.int j :: .ref a :: st)) : W h k n (pc + 1) Ls (v :: st) :=
  H.stepX r fun X hx hby hml hown hZ eT => ⟨_, X, eT, X.iaload hx (by rw [eT]; exact A.1) (State.isArrayOf_alike hZ.alike A.2.1) A.2.2 hin hv (g := mkF _ pc Ls (.int j :: .ref a :: st)) rfl rfl (hb hby hd)⟩
theorem Wk.laload (H : Wk l Z y code mx ret R n0 W V) {a : Addr} {cl : Cell} {j : Int32} {v : Value} (A : Arr Z h a cl .long) (hin : ¬ (j < 0 ∨ cl.slots.size ≤ j.toNatClampNeg)) (hv : cl.slots[j.toNatClampNeg]? = some v) (hd : decode code pc = .ok (.laload, 1)) (r : W h k n pc Ls (.int j :: .ref a :: st)) : W h k n (pc + 1) Ls (v :: st) :=
  H.stepX r fun X hx hby hml hown hZ eT => ⟨_, X, eT, X.laload hx (by rw [eT]; exact A.1) (State.isArrayOf_alike hZ.alike A.2.1) A.2.2 hin hv (g := mkF _ pc Ls (.int j :: .ref a :: st)) rfl rfl (hb hby hd)⟩
theorem Wk.caload (H : Wk l Z y code mx ret R n0 W V) {a : Addr} {cl : Cell} {j : Int32} {v : Value} (A : Arr Z h a cl .char) (hin : ¬ (j < 0 ∨ cl.slots.size ≤ j.toNatClampNeg)) (hv : cl.slots[j.toNatClampNeg]? = some v) (hd : decode code pc = .ok (.caload, 1)) (r : W h k n pc Ls (.int j :: .ref a :: st)) : W h k n (pc + 1) Ls (v :: st) :=
  H.stepX r fun X hx hby hml hown hZ eT => ⟨_, X, eT, X.caload hx (by rw [eT]; exact A.1) (State.isArrayOf_alike hZ.alike A.2.1) A.2.2 hin hv (g := mkF _ pc Ls (.int j :: .ref a :: st)) rfl rfl (hb hby hd)⟩
theorem Wk.baload (H : Wk l Z y code mx ret R n0 W V) {a : Addr} {cl : Cell} {j : Int32} {v : Value} (A : Arr Z h a cl .byte) (hin : ¬ (j < 0 ∨ cl.slots.size ≤ j.toNatClampNeg)) (hv : cl.slots[j.toNatClampNeg]? = some v) (hd : decode code pc = .ok (.baload, 1)) (r : W h k n pc Ls (.int j :: .ref a :: st)) : W h k n (pc + 1) Ls (v :: st) :=
  H.stepX r fun X hx hby hml hown hZ eT => ⟨_, X, eT, X.baloadBytes hx (by rw [eT]; exact A.1) (State.isArrayOf_alike hZ.alike A.2.1) A.2.2 hin hv (g := mkF _ pc Ls (.int j :: .ref a :: st)) rfl rfl (hb hby hd)⟩
theorem Wk.aaload (H : Wk l Z y code mx ret R n0 W V) {a : Addr} {cl : Cell} {ty : FieldType} {j : Int32} {v : Value} (A : Arr Z h a cl ty) (hty : ty.isReference = true) (hin : ¬ (j < 0 ∨ cl.slots.size ≤ j.toNatClampNeg)) (hv : cl.slots[j.toNatClampNeg]? = some v) (hd : decode code pc = .ok (.aaload, 1)) (r : W h k n pc Ls (.int j :: .ref a :: st)) : W h k n (pc + 1) Ls (v :: st) :=
  H.stepX r fun X hx hby hml hown hZ eT => ⟨_, X, eT, X.aaload hx (by rw [eT]; exact A.1) (State.isArrayOf_alike hZ.alike A.2.1) hty A.2.2 hin hv (g := mkF _ pc Ls (.int j :: .ref a :: st)) rfl rfl (hb hby hd)⟩
theorem Wk.stI (H : Wk l Z y code mx ret R n0 W V) {a : Addr} {cl : Cell} {j : Int32} {x : Int32} (A : Arr Z h a cl .int) (hin : ¬ (j < 0 ∨ cl.slots.size ≤ j.toNatClampNeg)) (hn0 : n0 ≤ a) (hd : decode code pc = .ok (.iastore, 1)) (r : W h k n pc Ls (.int x :: .int j :: .ref a :: st)) : ∃ h', Wr h h' a j.toNatClampNeg (.int x) ∧ W h' k n (pc + 1) Ls st := by
  obtain ⟨p, e, s, m, args, below, meth, c, S0, hx, hby, hml, hown, hZ, hnm, hret, hlk, rfl, rfl⟩ := H
  obtain ⟨T, locs, X, eh, N, sp⟩ := r
  obtain ⟨T', h', X', e', W', q⟩ := RoadKit.stI X hx hZ eh A hin (g := mkF m pc Ls (.int x :: .int j :: .ref a :: st)) rfl rfl (hb hby hd)
  exact ⟨h', W', T', _, X', e', Fr.snoc X' N hn0, fun t u => sp t (q t u)⟩
theorem Wk.stJ (H : Wk l Z y code mx ret R n0 W V) {a : Addr} {cl : Cell} {j : Int32} {x : Int64} (A : Arr Z h a cl .long) (hin : ¬ (j < 0 ∨ cl.slots.size ≤ j.toNatClampNeg)) (hn0 : n0 ≤ a) (hd : decode code pc = .ok (.lastore, 1)) (r : W h k n pc Ls (.long x :: .int j :: .ref a :: st)) : ∃ h', Wr h h' a j.toNatClampNeg (.long x) ∧ W h' k n (pc + 1) Ls st := by
  obtain ⟨p, e, s, m, args, below, meth, c, S0, hx, hby, hml, hown, hZ, hnm, hret, hlk, rfl, rfl⟩ := H
  obtain ⟨T, locs, X, eh, N, sp⟩ := r
  obtain ⟨T', h', X', e', W', q⟩ := RoadKit.stJ X hx hZ eh A hin (g := mkF m pc Ls (.long x :: .int j :: .ref a :: st)) rfl rfl (hb hby hd)
  exact ⟨h', W', T', _, X', e', Fr.snoc X' N hn0, fun t u => sp t (q t u)⟩
theorem Wk.stC (H : Wk l Z y code mx ret R n0 W V) {a : Addr} {cl : Cell} {j : Int32} {x : Int32} (A : Arr Z h a cl .char) (hin : ¬ (j < 0 ∨ cl.slots.size ≤ j.toNatClampNeg)) (hn0 : n0 ≤ a) (hd : decode code pc = .ok (.castore, 1)) (r : W h k n pc Ls (.int x :: .int j :: .ref a :: st)) : ∃ h', Wr h h' a j.toNatClampNeg (.int (nar .char x)) ∧ W h' k n (pc + 1) Ls st := by
  obtain ⟨p, e, s, m, args, below, meth, c, S0, hx, hby, hml, hown, hZ, hnm, hret, hlk, rfl, rfl⟩ := H
  obtain ⟨T, locs, X, eh, N, sp⟩ := r
  obtain ⟨T', h', X', e', W', q⟩ := RoadKit.stC X hx hZ eh A hin (g := mkF m pc Ls (.int x :: .int j :: .ref a :: st)) rfl rfl (hb hby hd)
  exact ⟨h', W', T', _, X', e', Fr.snoc X' N hn0, fun t u => sp t (q t u)⟩
theorem Wk.stB (H : Wk l Z y code mx ret R n0 W V) {a : Addr} {cl : Cell} {j : Int32} {x : Int32} (A : Arr Z h a cl .byte) (hin : ¬ (j < 0 ∨ cl.slots.size ≤ j.toNatClampNeg)) (hn0 : n0 ≤ a) (hd : decode code pc = .ok (.bastore, 1)) (r : W h k n pc Ls (.int x :: .int j :: .ref a :: st)) : ∃ h', Wr h h' a j.toNatClampNeg (.int (nar .byte x)) ∧ W h' k n (pc + 1) Ls st := by
  obtain ⟨p, e, s, m, args, below, meth, c, S0, hx, hby, hml, hown, hZ, hnm, hret, hlk, rfl, rfl⟩ := H
  obtain ⟨T, locs, X, eh, N, sp⟩ := r
  obtain ⟨T', h', X', e', W', q⟩ := RoadKit.stB X hx hZ eh A hin (g := mkF m pc Ls (.int x :: .int j :: .ref a :: st)) rfl rfl (hb hby hd)
  exact ⟨h', W', T', _, X', e', Fr.snoc X' N hn0, fun t u => sp t (q t u)⟩
theorem Wk.initO (H : Wk l Z y code mx ret R n0 W V) {i w : Nat} {a : Addr} (w1 : (Jvm.Cond.methodLink y.cls i Lib.objectInit).before a0 Z = true) (w2 : (Jvm.Cond.instanceMethod Lib.objectInit).before a0 Z = true) (w3 : (Jvm.Cond.code Lib.objectInit ⟨#[0xb1]⟩ 1 none).before a0 Z = true) (hsz : Ls.size = mx) (hf : 1 ≤ R.frames) (hw : (st.map fun v => v.category).sum ≤ w) (hl : w + 12 ≤ R.locals) (hd : decode code pc = .ok (.invokespecial i, 3)) (r : W h k n pc Ls (.ref a :: st)) : W h k n (pc + 3) Ls st :=
  H.stepX r fun X hx hby hml hown hZ eT => RoadKit.initO X hx hZ hown w1 w2 w3 eT (g := mkF _ pc Ls (.ref a :: st)) rfl (by rw [hml]; exact hsz) rfl (hb hby hd) hf (by show 2 * 0 + _ ≤ _; omega) hl
variable {y' : MethodName} {bytes' : ByteArray} {mx' : Nat} {ret' : Option FieldType} {rm' : Room} {as' : Array Value} {Q : Option Value → Heap → Prop} {i w : Nat} {ps : List FieldType} {rt : Option FieldType} {argsL rest : List Value}
theorem Wk.callS (H : Wk l Z y code mx ret R n0 W V) (w1 : (Jvm.Cond.methodLink y.cls i y').before a0 Z = true) (w2 : (Jvm.Cond.static y').before a0 Z = true) (w3 : (Jvm.Cond.initialized y'.cls).before a0 Z = true) (w4 : (Jvm.Cond.code y' bytes' mx' ret').before a0 Z = true) (hy : y'.cls ≠ "java/lang/invoke/MethodHandle" ∧ y'.cls ≠ "java/lang/invoke/VarHandle")
    (hpd : parseMethodDescriptor y'.desc = some ⟨ps, rt⟩) (hf : rm'.frames + 1 ≤ R.frames) (hl : w + (mx' + 11) + rm'.locals ≤ R.locals) (hc : k + rm'.cells ≤ R.cells) (hn : n + rm'.slots ≤ R.slots) (hM : Ct l Z y' bytes' mx' ret' rm' n0 argsL.toArray h Q) (hlen : argsL.length = ps.length) (hsz : Ls.size = mx) (hw : (rest.map fun v => v.category).sum ≤ w) (hst : st = argsL.reverse ++ rest) (hd : decode code pc = .ok (.invokestatic i, 3)) (r : W h k n pc Ls st) :
    ∃ v h', Q v h' ∧ W h' (k + rm'.cells) (n + rm'.slots) (pc + 3) Ls (v.toList ++ rest) := by
  subst hst
  obtain ⟨p, e, s, m, args, below, meth, c, S0, hx, hby, hml, hown, hZ, hnm, hret, hlk, rfl, rfl⟩ := H
  obtain ⟨T, locs, X, eh, N, sp⟩ := r
  obtain ⟨v, _, ⟨T1, L1, k1, n1⟩, -, X1, ⟨Lc, hQ, g1, g2, g3⟩, st1⟩ := Jvm.LawKit.callS X hx (y := y') hown (mvT hZ w1) (mvT hZ w2) (mvT hZ w3) (mvT hZ w4) hy (backOf (W := w) (Q := fun v hh L => Q v hh ∧ Fr n0 L) (hM []) hZ w4 w3 hf hl) (g := mkF m pc Ls (argsL.reverse ++ rest)) rfl (by rw [hml]; exact hsz) (argsL := argsL) (rest := rest) (lenOf hpd hlen) rfl (by show 2 * 0 + _ ≤ _; omega) (hb hby hd) (fun _ _ => ⟨rfl, eh, hc, hn⟩)
  dsimp only [Pt.U, Pt.locs, Pt.cells, Pt.slots] at X1 g1 g2 g3 st1 hQ
  subst g1 g2 g3
  exact ⟨v, T1.heap, hQ.1, T1, _, X1, rfl, Fr.app N hQ.2, fun t u => sp t (st1 t u)⟩
theorem Wk.callI (H : Wk l Z y code mx ret R n0 W V) {a : Addr} (hi : y'.name = "<init>") (w1 : (Jvm.Cond.methodLink y.cls i y').before a0 Z = true) (w2 : (Jvm.Cond.instanceMethod y').before a0 Z = true) (w3 : (Jvm.Cond.initialized y'.cls).before a0 Z = true) (w4 : (Jvm.Cond.code y' bytes' mx' none).before a0 Z = true) (hy : y'.cls ≠ "java/lang/invoke/MethodHandle" ∧ y'.cls ≠ "java/lang/invoke/VarHandle")
    (hpd : parseMethodDescriptor y'.desc = some ⟨ps, rt⟩) (hf : rm'.frames + 1 ≤ R.frames) (hl : w + (mx' + 11) + rm'.locals ≤ R.locals) (hc : k + rm'.cells ≤ R.cells) (hn : n + rm'.slots ≤ R.slots) (hM : Ct l Z y' bytes' mx' none rm' n0 (.ref a :: argsL).toArray h Q) (hlen : argsL.length = ps.length) (hsz : Ls.size = mx) (hw : (rest.map fun v => v.category).sum ≤ w) (hst : st = argsL.reverse ++ .ref a :: rest) (hd : decode code pc = .ok (.invokespecial i, 3)) (r : W h k n pc Ls st) :
    ∃ v h', Q v h' ∧ W h' (k + rm'.cells) (n + rm'.slots) (pc + 3) Ls (v.toList ++ rest) := by
  subst hst
  obtain ⟨p, e, s, m, args, below, meth, c, S0, hx, hby, hml, hown, hZ, hnm, hret, hlk, rfl, rfl⟩ := H
  obtain ⟨T, locs, X, eh, N, sp⟩ := r
  obtain ⟨v, _, ⟨T1, L1, k1, n1⟩, -, X1, ⟨Lc, hQ, g1, g2, g3⟩, st1⟩ := X.specialBack hx (y := y') hi hown (mvT hZ w1) (mvT hZ w2) (mvT hZ w4) hy (backOf (W := w) (Q := fun v hh L => Q v hh ∧ Fr n0 L) (hM []) hZ w4 w3 hf hl) (g := mkF m pc Ls (argsL.reverse ++ .ref a :: rest)) rfl (by rw [hml]; exact hsz) (Steps.refl _) (a := a) (argsL := argsL) (rest := rest) (lenOf hpd hlen) rfl (by show 2 * 0 + _ ≤ _; omega) (hb hby hd) (fun _ _ => ⟨rfl, eh, hc, hn⟩)
  dsimp only [Pt.U, Pt.locs, Pt.cells, Pt.slots] at X1 g1 g2 g3 st1 hQ
  subst g1 g2 g3
  exact ⟨v, T1.heap, hQ.1, T1, _, X1, rfl, Fr.app N hQ.2, fun t u => sp t (st1.trans u)⟩
theorem Wk.callV (H : Wk l Z y code mx ret R n0 W V) {a : Addr} {C : String} {z' : MethodName} (w1 : (Jvm.Cond.methodLink y.cls i z').before a0 Z = true) (w2 : (Jvm.Cond.declares z').before a0 Z = true) (nf : NF Z a0 z') (w5 : (Jvm.Cond.selects C z' y').before a0 Z = true) (w6 : (Jvm.Cond.instanceMethod y').before a0 Z = true) (w3 : (Jvm.Cond.initialized y'.cls).before a0 Z = true) (w4 : (Jvm.Cond.code y' bytes' mx' ret').before a0 Z = true) (hy : z'.cls ≠ "java/lang/invoke/MethodHandle" ∧ z'.cls ≠ "java/lang/invoke/VarHandle")
    (hpd : parseMethodDescriptor z'.desc = some ⟨ps, rt⟩) (hf : rm'.frames + 1 ≤ R.frames) (hl : w + (mx' + 11) + rm'.locals ≤ R.locals) (hc : k + rm'.cells ≤ R.cells) (hn : n + rm'.slots ≤ R.slots) (E : Exa Z h a C) (hM : Ct l Z y' bytes' mx' ret' rm' n0 (.ref a :: argsL).toArray h Q) (hlen : argsL.length = ps.length) (hsz : Ls.size = mx) (hw : (rest.map fun v => v.category).sum ≤ w) (hst : st = argsL.reverse ++ .ref a :: rest) (hd : decode code pc = .ok (.invokevirtual i, 3)) (r : W h k n pc Ls st) :
    ∃ v h', Q v h' ∧ W h' (k + rm'.cells) (n + rm'.slots) (pc + 3) Ls (v.toList ++ rest) := by
  subst hst
  obtain ⟨p, e, s, m, args, below, meth, c, S0, hx, hby, hml, hown, hZ, hnm, hret, hlk, rfl, rfl⟩ := H
  obtain ⟨T, locs, X, eh, N, sp⟩ := r
  obtain ⟨cq, kq, qa, qb, qc⟩ := isOf (s := s) (T := T) hZ eh E
  obtain ⟨v, _, ⟨T1, L1, k1, n1⟩, -, X1, ⟨Lc, hQ, g1, g2, g3⟩, st1⟩ := X.virtualBack hx (y := z') (z := y') hown (mvT hZ w1) (mvT hZ w2) (nf.at hZ) (mvT hZ w5) (mvT hZ w6) hy (backOf (W := w) (Q := fun v hh L => Q v hh ∧ Fr n0 L) (hM []) hZ w4 w3 hf hl) qa qc (g := mkF m pc Ls (argsL.reverse ++ .ref a :: rest)) rfl (by rw [hml]; exact hsz) (Steps.refl _) (argsL := argsL) (rest := rest) (lenOf hpd hlen) rfl (by show 2 * 0 + _ ≤ _; omega) (hb hby hd) (fun _ _ => ⟨rfl, eh, hc, hn⟩)
  dsimp only [Pt.U, Pt.locs, Pt.cells, Pt.slots] at X1 g1 g2 g3 st1 hQ
  subst g1 g2 g3
  exact ⟨v, T1.heap, hQ.1, T1, _, X1, rfl, Fr.app N hQ.2, fun t u => sp t (st1.trans u)⟩
theorem Wk.callSP (H : Wk l Z y code mx ret R n0 W V) {v0 : Option Value} (w1 : (Jvm.Cond.methodLink y.cls i y').before a0 Z = true) (w2 : (Jvm.Cond.static y').before a0 Z = true) (w3 : (Jvm.Cond.initialized y'.cls).before a0 Z = true) (w4 : (Jvm.Cond.code y' bytes' mx' ret').before a0 Z = true) (hy : y'.cls ≠ "java/lang/invoke/MethodHandle" ∧ y'.cls ≠ "java/lang/invoke/VarHandle")
    (hpd : parseMethodDescriptor y'.desc = some ⟨ps, rt⟩) (hf : rm'.frames + 1 ≤ R.frames) (hl : w + (mx' + 11) + rm'.locals ≤ R.locals) (hc : k + rm'.cells ≤ R.cells) (hn : n + rm'.slots ≤ R.slots) (hM : Ct l Z y' bytes' mx' ret' rm' n0 argsL.toArray h (fun v h' => v = v0 ∧ h' = h)) (hlen : argsL.length = ps.length) (hsz : Ls.size = mx) (hw : (rest.map fun v => v.category).sum ≤ w) (hst : st = argsL.reverse ++ rest) (hd : decode code pc = .ok (.invokestatic i, 3)) (r : W h k n pc Ls st) :
    W h (k + rm'.cells) (n + rm'.slots) (pc + 3) Ls (v0.toList ++ rest) := by
  obtain ⟨v, h', ⟨e1, e2⟩, r'⟩ := H.callS w1 w2 w3 w4 hy hpd hf hl hc hn hM hlen hsz hw hst hd r
  rw [← e1, ← e2]
  rw [e2] at r' ⊢
  exact r'
theorem Wk.callVP (H : Wk l Z y code mx ret R n0 W V) {v0 : Option Value} {a : Addr} {C : String} {z' : MethodName} (w1 : (Jvm.Cond.methodLink y.cls i z').before a0 Z = true) (w2 : (Jvm.Cond.declares z').before a0 Z = true) (nf : NF Z a0 z') (w5 : (Jvm.Cond.selects C z' y').before a0 Z = true) (w6 : (Jvm.Cond.instanceMethod y').before a0 Z = true) (w3 : (Jvm.Cond.initialized y'.cls).before a0 Z = true) (w4 : (Jvm.Cond.code y' bytes' mx' ret').before a0 Z = true) (hy : z'.cls ≠ "java/lang/invoke/MethodHandle" ∧ z'.cls ≠ "java/lang/invoke/VarHandle")
    (hpd : parseMethodDescriptor z'.desc = some ⟨ps, rt⟩) (hf : rm'.frames + 1 ≤ R.frames) (hl : w + (mx' + 11) + rm'.locals ≤ R.locals) (hc : k + rm'.cells ≤ R.cells) (hn : n + rm'.slots ≤ R.slots) (E : Exa Z h a C) (hM : Ct l Z y' bytes' mx' ret' rm' n0 (.ref a :: argsL).toArray h (fun v h' => v = v0 ∧ h' = h)) (hlen : argsL.length = ps.length) (hsz : Ls.size = mx) (hw : (rest.map fun v => v.category).sum ≤ w) (hst : st = argsL.reverse ++ .ref a :: rest) (hd : decode code pc = .ok (.invokevirtual i, 3)) (r : W h k n pc Ls st) :
    W h (k + rm'.cells) (n + rm'.slots) (pc + 3) Ls (v0.toList ++ rest) := by
  obtain ⟨v, h', ⟨e1, e2⟩, r'⟩ := H.callV w1 w2 nf w5 w6 w3 w4 hy hpd hf hl hc hn E hM hlen hsz hw hst hd r
  rw [← e1, ← e2]
  rw [e2] at r' ⊢
  exact r'
theorem Wk.retV (H : Wk l Z y code mx ret R n0 W V) {v : Value} {t : FieldType} {ins : Instr} (ht : ret = some t) (hn' : narrow t v = v) (hi : (ins = .ireturn ∧ (t = .int ∨ t = .boolean ∨ t = .byte ∨ t = .char ∨ t = .short) ∧ ∃ z, v = .int z) ∨ (ins = .lreturn ∧ t = .long ∧ ∃ z, v = .long z) ∨ (ins = .dreturn ∧ t = .double ∧ ∃ z, v = .double z) ∨ (ins = .freturn ∧ t = .float ∧ ∃ z, v = .float z) ∨ (ins = .areturn ∧ t.isReference = true ∧ v.isRef = true))
    (hk : k ≤ R.cells) (hn : n ≤ R.slots) (hd : decode code pc = .ok (ins, 1)) (r : W h k n pc Ls (v :: st)) : V (some v) h := by
  obtain ⟨p, e, s, m, args, below, meth, c, S0, hx, hby, hml, hown, hZ, hnm, hret, hlk, rfl, rfl⟩ := H
  obtain ⟨T, locs, X, eh, N, sp⟩ := r
  have hrt : meth.sig.returnType = some t := hret.trans ht
  obtain ⟨fs, hr, hrun, hended, hW, hsame⟩ := X.leave (v := some v) (fun q => by rw [hrt] at q; cases q) hlk
  exact ⟨_, locs, sp _ (retOut X hx hrt hn' hi (hb hby hd) hr), hrun, hended, eh, N, ⟨_, rfl⟩, hW, hsame.mono hk hn⟩
theorem Wk.retI (H : Wk l Z y code mx ret R n0 W V) {z : Int32} (ht : ret = some .int) (hk : k ≤ R.cells) (hn : n ≤ R.slots) (hd : decode code pc = .ok (.ireturn, 1)) (r : W h k n pc Ls (.int z :: st)) : V (some (.int z)) h :=
  H.retV ht rfl (Or.inl ⟨rfl, Or.inl rfl, z, rfl⟩) hk hn hd r
theorem Wk.retJ (H : Wk l Z y code mx ret R n0 W V) {z : Int64} (ht : ret = some .long) (hk : k ≤ R.cells) (hn : n ≤ R.slots) (hd : decode code pc = .ok (.lreturn, 1)) (r : W h k n pc Ls (.long z :: st)) : V (some (.long z)) h :=
  H.retV ht rfl (Or.inr (Or.inl ⟨rfl, rfl, z, rfl⟩)) hk hn hd r
theorem Wk.retZ (H : Wk l Z y code mx ret R n0 W V) {z z' : Int32} (hz : z &&& 1 = z') (ht : ret = some .boolean) (hk : k ≤ R.cells) (hn : n ≤ R.slots) (hd : decode code pc = .ok (.ireturn, 1)) (r : W h k n pc Ls (.int z :: st)) : V (some (.int z')) h := by
  subst hz
  obtain ⟨p, e, s, m, args, below, meth, c, S0, hx, hby, hml, hown, hZ, hnm, hret, hlk, rfl, rfl⟩ := H
  obtain ⟨T, locs, X, eh, N, sp⟩ := r
  have hrt : meth.sig.returnType = some .boolean := hret.trans ht
  obtain ⟨fs, hr, hrun, hended, hW, hsame⟩ := X.leave (v := some (.int (nar .boolean z))) (fun q => by rw [hrt] at q; cases q) hlk
  exact ⟨_, locs, sp _ (retN X hx hrt (by simp) (hb hby hd) hr), hrun, hended, eh, N, ⟨_, rfl⟩, hW, hsame.mono hk hn⟩
theorem Wk.retB (H : Wk l Z y code mx ret R n0 W V) {z z' : Int32} (hz : z.toInt8.toInt32 = z') (ht : ret = some .byte) (hk : k ≤ R.cells) (hn : n ≤ R.slots) (hd : decode code pc = .ok (.ireturn, 1)) (r : W h k n pc Ls (.int z :: st)) : V (some (.int z')) h := by
  subst hz
  obtain ⟨p, e, s, m, args, below, meth, c, S0, hx, hby, hml, hown, hZ, hnm, hret, hlk, rfl, rfl⟩ := H
  obtain ⟨T, locs, X, eh, N, sp⟩ := r
  have hrt : meth.sig.returnType = some .byte := hret.trans ht
  obtain ⟨fs, hr, hrun, hended, hW, hsame⟩ := X.leave (v := some (.int (nar .byte z))) (fun q => by rw [hrt] at q; cases q) hlk
  exact ⟨_, locs, sp _ (retN X hx hrt (by simp) (hb hby hd) hr), hrun, hended, eh, N, ⟨_, rfl⟩, hW, hsame.mono hk hn⟩
theorem Wk.retC (H : Wk l Z y code mx ret R n0 W V) {z z' : Int32} (hz : z.toUInt32.toUInt16.toUInt32.toInt32 = z') (ht : ret = some .char) (hk : k ≤ R.cells) (hn : n ≤ R.slots) (hd : decode code pc = .ok (.ireturn, 1)) (r : W h k n pc Ls (.int z :: st)) : V (some (.int z')) h := by
  subst hz
  obtain ⟨p, e, s, m, args, below, meth, c, S0, hx, hby, hml, hown, hZ, hnm, hret, hlk, rfl, rfl⟩ := H
  obtain ⟨T, locs, X, eh, N, sp⟩ := r
  have hrt : meth.sig.returnType = some .char := hret.trans ht
  obtain ⟨fs, hr, hrun, hended, hW, hsame⟩ := X.leave (v := some (.int (nar .char z))) (fun q => by rw [hrt] at q; cases q) hlk
  exact ⟨_, locs, sp _ (retN X hx hrt (by simp) (hb hby hd) hr), hrun, hended, eh, N, ⟨_, rfl⟩, hW, hsame.mono hk hn⟩
theorem Wk.retR (H : Wk l Z y code mx ret R n0 W V) {v : Value} {t : FieldType} (ht : ret = some t) (htr : t.isReference = true) (hv : v.isRef = true) (hk : k ≤ R.cells) (hn : n ≤ R.slots) (hd : decode code pc = .ok (.areturn, 1)) (r : W h k n pc Ls (v :: st)) : V (some v) h :=
  H.retV ht (by cases v <;> simp [Value.isRef] at hv <;> cases t <;> simp [FieldType.isReference] at htr <;> rfl) (Or.inr (Or.inr (Or.inr (Or.inr ⟨rfl, htr, hv⟩)))) hk hn hd r
theorem Wk.retN (H : Wk l Z y code mx ret R n0 W V) (ht : ret = none) (hk : k ≤ R.cells) (hn : n ≤ R.slots) (hd : decode code pc = .ok (.return_, 1)) (r : W h k n pc Ls []) : V none h := by
  obtain ⟨p, e, s, m, args, below, meth, c, S0, hx, hby, hml, hown, hZ, hnm, hret, hlk, rfl, rfl⟩ := H
  obtain ⟨T, locs, X, eh, N, sp⟩ := r
  have hrt : meth.sig.returnType = none := hret.trans ht
  obtain ⟨fs, hr, hrun, hended, hW, hsame⟩ := X.leave (v := none) (fun _ => rfl) hlk
  exact ⟨_, locs, sp _ (X.returnOut hx hrt (hb hby hd) hr), hrun, hended, eh, N, ⟨_, rfl⟩, hW, hsame.mono hk hn⟩
end Steps
end Jvm.OwnW
namespace Jvm.OwnW
open Jvm Jvm.ClassFile Sem Op Lib Jvm.Free Jvm.Stand Jvm.LawKit Jvm.RoadKit Bundle
/-- an array at a, of components ty, that holds just vs -/
def Ary (Z : State) (h : Heap) (a : Addr) (ty : FieldType) (vs : List Value) : Prop := ∃ c : Cell, Arr Z h a c ty ∧ c.slots = vs.toArray
section Arrays
variable {l : Launch} {Z : State} {y : MethodName} {code : ByteArray} {mx : Nat} {ret : Option FieldType} {R : Room} {n0 : Nat} {W : WT} {V : VT} {h h' : Heap} {k n pc : Nat} {Ls : Array Slot} {st : List Value} {a0 : Array Value} {a b : Addr} {ty : FieldType} {vs : List Value} {ws : List Addr} {sl : Nat} {v : Value}
theorem Ary.lt (A : Ary Z h a ty vs) : a < h.size := by obtain ⟨c, A, -⟩ := A; exact A.lt
theorem Ary.ext (A : Ary Z h a ty vs) (E : Ext h h') : Ary Z h' a ty vs := by obtain ⟨c, A, q⟩ := A; exact ⟨c, A.ext E, q⟩
theorem Ary.other (A : Ary Z h b ty vs) (w : Wr h h' a sl v) (ne : b ≠ a) : Ary Z h' b ty vs := by obtain ⟨c, A, q⟩ := A; exact ⟨c, A.other w ne, q⟩
theorem Ary.keep (A : Ary Z h a ty vs) (K : Keep h h' ws) (q : a ∉ ws) : Ary Z h' a ty vs := by obtain ⟨c, A, r⟩ := A; exact ⟨c, ⟨K.2.1 a c A.1 q, A.2⟩, r⟩
theorem Ary.same (A : Ary Z h a ty vs) (w : Wr h h' a sl v) : Ary Z h' a ty (vs.set sl v) := by
  obtain ⟨c, A, q⟩ := A
  refine ⟨_, A.same w, ?_⟩
  show c.slots.setIfInBounds sl v = _
  rw [q, List.setIfInBounds_toArray]
theorem idx_ok {j : Int32} {i : Nat} (hj : j.toInt = i) : j.toNatClampNeg = i ∧ ¬ j < 0 := by
  refine ⟨?_, ?_⟩
  · show j.toInt.toNat = i
    rw [hj]; rfl
  · rw [Int32.lt_iff_toInt_lt, hj, Int32.toInt_zero]
    omega
theorem idx_in' {j : Int32} {i : Nat} (hj : j.toInt = i) {c : Cell} (q : c.slots = vs.toArray) (hi : i < vs.length) : ¬ (j < 0 ∨ c.slots.size ≤ j.toNatClampNeg) := by
  obtain ⟨h1, h2⟩ := idx_ok hj
  rw [h1, q, List.size_toArray]
  exact fun u => u.elim h2 (fun u => by omega)
theorem Wk.newA (H : Wk l Z y code mx ret R n0 W V) {aty : ArrayType} {z : Int32} {cap i : Nat} {d : Value} (hty : newarray.typeOf aty = ty) (hdv : defaultValue ty = d) (w : (Jvm.Cond.arrayClass ty).before a0 Z = true) (hz : z.toInt = i) (hcap : i ≤ cap) (hb8 : cap * 8 ≤ 536870912) (hc : k + 1 ≤ R.cells) (hl : n + cap ≤ R.slots) (hd : decode code pc = .ok (.newarray aty, 2)) (r : W h k n pc Ls (.int z :: st)) :
    ∃ h' a, a = h.size ∧ Ext h h' ∧ Ary Z h' a ty (List.replicate i d) ∧ W h' (k + 1) (n + cap) (pc + 2) Ls (.ref a :: st) := by
  obtain ⟨h1, h2⟩ := idx_ok hz
  obtain ⟨h', a, cA, e, E, A, r'⟩ := H.newP hty w h2 (by rw [h1]; exact hcap) hb8 hc hl hd r
  refine ⟨h', a, e, E, ⟨_, A, ?_⟩, r'⟩
  show Array.replicate z.toNatClampNeg (defaultValue ty) = _
  rw [h1, hdv, List.toArray_replicate]
theorem Wk.newAE (H : Wk l Z y code mx ret R n0 W V) {aty : ArrayType} {z : Int32} {cap i : Nat} {d : Value} {ad : String} (hty : newarray.typeOf aty = ty) (hdv : defaultValue ty = d) (had : "[" ++ ty.toString = ad) (w : (Jvm.Cond.arrayClass ty).before a0 Z = true) (hz : z.toInt = i) (hcap : i ≤ cap) (hb8 : cap * 8 ≤ 536870912) (hc : k + 1 ≤ R.cells) (hl : n + cap ≤ R.slots) (hd : decode code pc = .ok (.newarray aty, 2)) (r : W h k n pc Ls (.int z :: st)) :
    ∃ h' a, a = h.size ∧ Ext h h' ∧ Ary Z h' a ty (List.replicate i d) ∧ Exa Z h' a ad ∧ W h' (k + 1) (n + cap) (pc + 2) Ls (.ref a :: st) := by
  obtain ⟨h1, h2⟩ := idx_ok hz
  subst hty
  obtain ⟨p, e, s, m, args, below, meth, c, S0, hx, hby, hml, hown, hZ, hnm, hret, hlk, rfl, rfl⟩ := H
  obtain ⟨T, locs, X, eh, N, sp⟩ := r
  obtain ⟨T', h', cA, X', e', E', A', EX, q'⟩ := RoadKit.newPE X hx hZ w eh (g := mkF m pc Ls (.int z :: st)) rfl (hb hby hd) rfl h2 (by rw [h1]; exact hcap) hb8 hc hl had
  refine ⟨h', _, rfl, E', ⟨_, A', ?_⟩, EX, T', _, X', e', N, fun t u => sp t (q' t u)⟩
  show Array.replicate z.toNatClampNeg (defaultValue (newarray.typeOf aty)) = _
  rw [h1, hdv, List.toArray_replicate]
theorem Wk.cloneA (H : Wk l Z y code mx ret R n0 W V) {i w cap : Nat} {ad : String} (w1 : (Jvm.Cond.methodLink y.cls i ⟨ad, "clone", "()Ljava/lang/Object;"⟩).before a0 Z = true) (w2 : (Jvm.Cond.sameMethod ad "java/lang/Object" "clone" "()Ljava/lang/Object;").before a0 Z = true) (w3 : (Jvm.Cond.native ⟨"java/lang/Object", "clone", "()Ljava/lang/Object;"⟩).before a0 Z = true)
    (w4 : (Jvm.Cond.instanceMethod ⟨"java/lang/Object", "clone", "()Ljava/lang/Object;"⟩).before a0 Z = true) (w5 : (Jvm.Cond.selects ad ⟨ad, "clone", "()Ljava/lang/Object;"⟩ ⟨"java/lang/Object", "clone", "()Ljava/lang/Object;"⟩).before a0 Z = true) (w6 : (Jvm.Cond.castable ad "java/lang/Cloneable").before a0 Z = true)
    (A : Ary Z h a ty vs) (E : Exa Z h a ad) (hfit : ∀ v ∈ vs, fits ty v = true) (hsz : Ls.size = mx) (hf : 1 ≤ R.frames) (hw : (st.map fun v => v.category).sum ≤ w) (hl : w + 14 ≤ R.locals) (hcap : vs.length ≤ cap) (hc : k + 1 ≤ R.cells) (hsl : n + cap ≤ R.slots) (hd : decode code pc = .ok (.invokevirtual i, 3)) (r : W h k n pc Ls (.ref a :: st)) :
    ∃ h' b, b = h.size ∧ Ext h h' ∧ Ary Z h' b ty vs ∧ Exa Z h' b ad ∧ W h' (k + 1) (n + cap) (pc + 3) Ls (.ref b :: st) := by
  obtain ⟨p, e, s, m, args, below, meth, c, S0, hx, hby, hml, hown, hZ, hnm, hret, hlk, rfl, rfl⟩ := H
  obtain ⟨T, locs, X, eh, N, sp⟩ := r
  obtain ⟨cl, Ar, q⟩ := A
  have hF : FitC Z cl := fitC_of Ar (fun j hj v hv => hfit v (by rw [q, List.getElem?_toArray] at hv; exact List.mem_of_getElem? hv))
  obtain ⟨T', h', X', e', E', A', EX, q'⟩ := RoadKit.cloneA X hx hZ hown w1 w2 w3 w4 w5 w6 eh Ar E hF (g := mkF m pc Ls (.ref a :: st)) rfl (by rw [hml]; exact hsz) rfl (hb hby hd) hf (by show 2 * 0 + _ ≤ _; omega) hl (by rw [q, List.size_toArray]; exact hcap) hc hsl
  exact ⟨h', _, rfl, E', ⟨_, A', q⟩, EX, T', _, X', e', N, fun t u => sp t (q' t u)⟩
theorem Wk.lenA (H : Wk l Z y code mx ret R n0 W V) {z : Int32} (A : Ary Z h a ty vs) (hz : vs.length.toInt32 = z) (hd : decode code pc = .ok (.arraylength, 1)) (r : W h k n pc Ls (.ref a :: st)) : W h k n (pc + 1) Ls (.int z :: st) := by
  obtain ⟨c, A, q⟩ := A
  exact H.arrLen A (by rw [q, List.size_toArray]; exact hz) hd r
theorem Wk.ldI (H : Wk l Z y code mx ret R n0 W V) {j : Int32} {i : Nat} (A : Ary Z h a .int vs) (hj : j.toInt = i) (hv : vs[i]? = some v) (hd : decode code pc = .ok (.iaload, 1)) (r : W h k n pc Ls (.int j :: .ref a :: st)) : W h k n (pc + 1) Ls (v :: st) := by
  obtain ⟨c, A, q⟩ := A
  obtain ⟨h1, h2⟩ := idx_ok hj
  exact H.iaload A (idx_in' hj q (List.getElem?_eq_some_iff.mp hv).1) (by rw [h1, q, List.getElem?_toArray]; exact hv) hd r
theorem Wk.ldJ (H : Wk l Z y code mx ret R n0 W V) {j : Int32} {i : Nat} (A : Ary Z h a .long vs) (hj : j.toInt = i) (hv : vs[i]? = some v) (hd : decode code pc = .ok (.laload, 1)) (r : W h k n pc Ls (.int j :: .ref a :: st)) : W h k n (pc + 1) Ls (v :: st) := by
  obtain ⟨c, A, q⟩ := A
  obtain ⟨h1, h2⟩ := idx_ok hj
  exact H.laload A (idx_in' hj q (List.getElem?_eq_some_iff.mp hv).1) (by rw [h1, q, List.getElem?_toArray]; exact hv) hd r
theorem Wk.ldC (H : Wk l Z y code mx ret R n0 W V) {j : Int32} {i : Nat} (A : Ary Z h a .char vs) (hj : j.toInt = i) (hv : vs[i]? = some v) (hd : decode code pc = .ok (.caload, 1)) (r : W h k n pc Ls (.int j :: .ref a :: st)) : W h k n (pc + 1) Ls (v :: st) := by
  obtain ⟨c, A, q⟩ := A
  obtain ⟨h1, h2⟩ := idx_ok hj
  exact H.caload A (idx_in' hj q (List.getElem?_eq_some_iff.mp hv).1) (by rw [h1, q, List.getElem?_toArray]; exact hv) hd r
theorem Wk.ldB (H : Wk l Z y code mx ret R n0 W V) {j : Int32} {i : Nat} (A : Ary Z h a .byte vs) (hj : j.toInt = i) (hv : vs[i]? = some v) (hd : decode code pc = .ok (.baload, 1)) (r : W h k n pc Ls (.int j :: .ref a :: st)) : W h k n (pc + 1) Ls (v :: st) := by
  obtain ⟨c, A, q⟩ := A
  obtain ⟨h1, h2⟩ := idx_ok hj
  exact H.baload A (idx_in' hj q (List.getElem?_eq_some_iff.mp hv).1) (by rw [h1, q, List.getElem?_toArray]; exact hv) hd r
theorem Wk.putI (H : Wk l Z y code mx ret R n0 W V) {j : Int32} {i : Nat} {x : Int32} (A : Ary Z h a .int vs) (hj : j.toInt = i) (hi : i < vs.length) (hn0 : n0 ≤ a) (hd : decode code pc = .ok (.iastore, 1)) (r : W h k n pc Ls (.int x :: .int j :: .ref a :: st)) : ∃ h', Wr h h' a i (.int x) ∧ Ary Z h' a .int (vs.set i (.int x)) ∧ W h' k n (pc + 1) Ls st := by
  obtain ⟨h1, h2⟩ := idx_ok hj
  obtain ⟨c, A', q⟩ := id A
  obtain ⟨h', w, r'⟩ := H.stI A' (idx_in' hj q hi) hn0 hd r
  rw [h1] at w
  exact ⟨h', w, A.same w, r'⟩
theorem Wk.putJ (H : Wk l Z y code mx ret R n0 W V) {j : Int32} {i : Nat} {x : Int64} (A : Ary Z h a .long vs) (hj : j.toInt = i) (hi : i < vs.length) (hn0 : n0 ≤ a) (hd : decode code pc = .ok (.lastore, 1)) (r : W h k n pc Ls (.long x :: .int j :: .ref a :: st)) : ∃ h', Wr h h' a i (.long x) ∧ Ary Z h' a .long (vs.set i (.long x)) ∧ W h' k n (pc + 1) Ls st := by
  obtain ⟨h1, h2⟩ := idx_ok hj
  obtain ⟨c, A', q⟩ := id A
  obtain ⟨h', w, r'⟩ := H.stJ A' (idx_in' hj q hi) hn0 hd r
  rw [h1] at w
  exact ⟨h', w, A.same w, r'⟩
theorem Wk.putC (H : Wk l Z y code mx ret R n0 W V) {j : Int32} {i : Nat} {x : Int32} {z : Int32} (hz : x.toUInt32.toUInt16.toUInt32.toInt32 = z) (A : Ary Z h a .char vs) (hj : j.toInt = i) (hi : i < vs.length) (hn0 : n0 ≤ a) (hd : decode code pc = .ok (.castore, 1)) (r : W h k n pc Ls (.int x :: .int j :: .ref a :: st)) : ∃ h', Wr h h' a i (.int z) ∧ Ary Z h' a .char (vs.set i (.int z)) ∧ W h' k n (pc + 1) Ls st := by
  subst hz
  obtain ⟨h1, h2⟩ := idx_ok hj
  obtain ⟨c, A', q⟩ := id A
  obtain ⟨h', w, r'⟩ := H.stC A' (idx_in' hj q hi) hn0 hd r
  rw [h1] at w
  exact ⟨h', w, A.same w, r'⟩
theorem Wk.putB (H : Wk l Z y code mx ret R n0 W V) {j : Int32} {i : Nat} {x : Int32} {z : Int32} (hz : x.toInt8.toInt32 = z) (A : Ary Z h a .byte vs) (hj : j.toInt = i) (hi : i < vs.length) (hn0 : n0 ≤ a) (hd : decode code pc = .ok (.bastore, 1)) (r : W h k n pc Ls (.int x :: .int j :: .ref a :: st)) : ∃ h', Wr h h' a i (.int z) ∧ Ary Z h' a .byte (vs.set i (.int z)) ∧ W h' k n (pc + 1) Ls st := by
  subst hz
  obtain ⟨h1, h2⟩ := idx_ok hj
  obtain ⟨c, A', q⟩ := id A
  obtain ⟨h', w, r'⟩ := H.stB A' (idx_in' hj q hi) hn0 hd r
  rw [h1] at w
  exact ⟨h', w, A.same w, r'⟩
end Arrays
theorem ns_root {Z : State} {a0 : Array Value} {O K : String} {q : Nat} (w : (Jvm.Cond.noSuperclass O).before a0 Z = true) (wk : (Jvm.Cond.instantiable K q).before a0 Z = true) (hn : O ≠ K) : NS Z O K := by
  obtain ⟨c, k, h1, h2, h3, -, -⟩ := Cond.noSuperclass_spec w
  obtain ⟨t, k', g1, g2, -⟩ := Cond.instantiable_spec wk
  have ne := ids_ne h1 g1 hn
  refine ⟨c, t, h1, g1, fun fuel => ?_⟩
  cases fuel with
  | zero => rfl
  | succ f => simp [Vm.isSubclassAux, ne, h2, h3]
theorem ns_no {Z : State} {a0 : Array Value} {C S K : String} {q : Nat} (w : (Jvm.Cond.superclass C S).before a0 Z = true) (wk : (Jvm.Cond.instantiable K q).before a0 Z = true) (n : NS Z C K) (hn : C ≠ K) : ∃ c t, Z.vm.findClass C = some c ∧ Z.vm.findClass K = some t ∧ Z.vm.assignable c t = false := by
  obtain ⟨c, t, h0, g0, n3⟩ := n
  obtain ⟨p, k, kp, h1, h2, h3, h4, h5, -, h7⟩ := Cond.superclass_spec h0 w
  obtain ⟨t', k', g1, g2, g5, g7, -⟩ := Cond.instantiable_spec wk
  cases g0.symm.trans g1
  have ne := ids_ne h0 g0 hn
  have g8 : k'.isInterface = false := by cases hh : k'.isInterface <;> simp [hh] at g7 ⊢
  refine ⟨c, t, h0, g0, ?_⟩
  show Z.vm.assignableAux (255 + 1) c t = false
  simp [Vm.assignableAux, ne, h2, g2, h5, g5, g8, Vm.isSubclass, n3]
/-- (k & 0x7fffffff) % m as a natural -/
theorem own_modn (k : Int32) (m : Nat) (h0 : 0 < m) (hm : m < 2147483648) : ∃ i : Nat, i < m ∧ (k &&& (2147483647 : Int32)) % Int32.ofNat m = Int32.ofNat i := by
  have h1 : (k &&& (2147483647 : Int32)).toInt = k.toInt % (2 ^ 31 : Nat) := c_mask k _ 31 (by decide) (by decide)
  have hM : (Int32.ofNat m).toInt = (m : Int) := Int32.toInt_ofNat_of_lt (by omega)
  have h2 := (c_irem (k &&& (2147483647 : Int32)) (Int32.ofNat m) m hM).1 (by rw [h1]; omega)
  have h3 : 0 ≤ (k &&& (2147483647 : Int32)).toInt % (m : Int) := Int.emod_nonneg _ (by omega)
  have h4 : (k &&& (2147483647 : Int32)).toInt % (m : Int) < m := Int.emod_lt_of_pos _ (by omega)
  refine ⟨((k &&& (2147483647 : Int32)) % Int32.ofNat m).toInt.toNat, by omega, ?_⟩
  apply Int32.toInt_inj.mp
  rw [Int32.toInt_ofNat_of_lt (by omega)]
  omega
theorem own_ofNat {i : Nat} (hi : i < 2147483648) : (Int32.ofNat i).toInt = (i : Int) := Int32.toInt_ofNat_of_lt (by omega)
theorem own_ltN {i j : Nat} (hi : i < 2147483648) (hj : j < 2147483648) : Int32.ofNat i < Int32.ofNat j ↔ i < j := by
  rw [Int32.lt_iff_toInt_lt, own_ofNat hi, own_ofNat hj]
  omega
theorem own_eqN {i j : Nat} (hi : i < 2147483648) (hj : j < 2147483648) : Int32.ofNat i = Int32.ofNat j ↔ i = j := by
  rw [← Int32.toInt_inj, own_ofNat hi, own_ofNat hj]
  omega
theorem own_nn {n : Nat} (hn : n < 2147483648) : ¬ Int32.ofNat n < 0 := by
  rw [Int32.lt_iff_toInt_lt, own_ofNat hn, show (0 : Int32).toInt = 0 from rfl]
  omega
theorem own_pred {n : Nat} (hp : 0 < n) (hn : n < 2147483648) : (Int32.ofNat n - (1 : Int32)).toInt = ((n - 1 : Nat) : Int) := by
  have h2 := c_isub (Int32.ofNat n) (1 : Int32)
  have r2 := rng32 (Int32.ofNat n - (1 : Int32))
  rw [own_ofNat hn, show (1 : Int32).toInt = 1 from rfl] at h2
  omega
theorem own_succ (i : Nat) : Int32.ofNat i + (1 : Int32) = Int32.ofNat (i + 1) := (Int32.ofNat_add i 1).symm
end Jvm.OwnW

namespace Jvm.Pilot.@@N@@
open Jvm Jvm.ClassFile Sem Op Lib Jvm.Free Jvm.Stand Jvm.LawKit Jvm.RoadKit Bundle Jvm.OwnW Jvm.Pilot.@@N@@.Jvm.D
/-- 10 to the k-th, as the code multiplies it -/
def own_pw : Nat → Int64
  | 0 => 1
  | k + 1 => own_pw k * 10
theorem own_pw_ne (k : Nat) (hk : k < 19) : own_pw k ≠ 0 := by
  have : ∀ k : Fin 19, own_pw k.val ≠ 0 := by decide +kernel
  exact this ⟨k, hk⟩
theorem own_pws (k : Nat) (hk : k < 19) : ([.long (own_pw 0), .long (own_pw 1), .long (own_pw 2), .long (own_pw 3), .long (own_pw 4), .long (own_pw 5), .long (own_pw 6), .long (own_pw 7), .long (own_pw 8), .long (own_pw 9), .long (own_pw 10), .long (own_pw 11), .long (own_pw 12), .long (own_pw 13), .long (own_pw 14), .long (own_pw 15), .long (own_pw 16), .long (own_pw 17), .long (own_pw 18)] : List Value)[k]? = some (.long (own_pw k)) := by
  match k, hk with
  | 0, _ => exact rfl
  | 1, _ => exact rfl
  | 2, _ => exact rfl
  | 3, _ => exact rfl
  | 4, _ => exact rfl
  | 5, _ => exact rfl
  | 6, _ => exact rfl
  | 7, _ => exact rfl
  | 8, _ => exact rfl
  | 9, _ => exact rfl
  | 10, _ => exact rfl
  | 11, _ => exact rfl
  | 12, _ => exact rfl
  | 13, _ => exact rfl
  | 14, _ => exact rfl
  | 15, _ => exact rfl
  | 16, _ => exact rfl
  | 17, _ => exact rfl
  | 18, _ => exact rfl
  | n + 19, h => exact absurd h (by omega)
theorem d1_0 : decode prog_20_method_2_code 0 = .ok (.iconst 1, 1) := by decide +kernel
theorem d1_1 : decode prog_20_method_2_code 1 = .ok (.istore_n 2, 1) := by decide +kernel
theorem d1_2 : decode prog_20_method_2_code 2 = .ok (.ldc2_w 7, 3) := by decide +kernel
theorem d1_5 : decode prog_20_method_2_code 5 = .ok (.lstore_n 3, 1) := by decide +kernel
theorem d1_6 : decode prog_20_method_2_code 6 = .ok (.iload_n 2, 1) := by decide +kernel
theorem d1_7 : decode prog_20_method_2_code 7 = .ok (.bipush 19, 2) := by decide +kernel
theorem d1_9 : decode prog_20_method_2_code 9 = .ok (.if_icmp .ge 21, 3) := by decide +kernel
theorem d1_12 : decode prog_20_method_2_code 12 = .ok (.lload_n 0, 1) := by decide +kernel
theorem d1_13 : decode prog_20_method_2_code 13 = .ok (.lload_n 3, 1) := by decide +kernel
theorem d1_14 : decode prog_20_method_2_code 14 = .ok (.lcmp, 1) := by decide +kernel
theorem d1_15 : decode prog_20_method_2_code 15 = .ok (.ifCond .lt 15, 3) := by decide +kernel
theorem d1_18 : decode prog_20_method_2_code 18 = .ok (.iinc 2 1, 3) := by decide +kernel
theorem d1_21 : decode prog_20_method_2_code 21 = .ok (.lload_n 3, 1) := by decide +kernel
theorem d1_22 : decode prog_20_method_2_code 22 = .ok (.ldc2_w 7, 3) := by decide +kernel
theorem d1_25 : decode prog_20_method_2_code 25 = .ok (.lmul, 1) := by decide +kernel
theorem d1_26 : decode prog_20_method_2_code 26 = .ok (.lstore_n 3, 1) := by decide +kernel
theorem d1_27 : decode prog_20_method_2_code 27 = .ok (.goto (-21), 3) := by decide +kernel
theorem d1_30 : decode prog_20_method_2_code 30 = .ok (.iload_n 2, 1) := by decide +kernel
theorem d1_31 : decode prog_20_method_2_code 31 = .ok (.ireturn, 1) := by decide +kernel
theorem pd_0 : parseMethodDescriptor "(J)I" = some ⟨[.long], some .int⟩ := by decide +kernel
theorem pn_0 : plainName "io/tagwire/codec/Decimal" = true := by first | (simp [plainName, overriddenIn]; done) | decide +kernel
theorem pn_1 : plainName "io/tagwire/codec/DecimalDigitsPinLaw" = true := by first | (simp [plainName, overriddenIn]; done) | decide +kernel
theorem ef_d (x0 : Int64) (m : MethodId) : entryFrame m #[(.long x0)] 5 = mkF m 0 #[.val (.long x0), .second, .unset, .unset, .unset] [] := by first | (simp [entryFrame, mkF, argsToLocals, Value.category]; done) | rfl
theorem ef_0 (x0 : Int64) (x1 : Int32) (x2 : Int32) (m : MethodId) : entryFrame m #[(.long x0), (.int x1), (.int x2)] maxLocals = mkF m 0 #[.val (.long x0), .second, .val (.int x1), .val (.int x2), .unset, .unset, .unset, .unset, .unset, .unset, .unset, .unset, .unset, .unset] [] := by first | (simp [entryFrame, mkF, argsToLocals, Value.category, maxLocals]; done) | rfl
set_option maxRecDepth 65536 in
set_option maxHeartbeats 40000000 in
theorem dig_loop {l : Launch} {Z : State} {a0 : Array Value} (hw : ∀ d ∈ tables_1, d.before a0 Z = true) {ret : Option FieldType} {R : Room} {n0 : Nat} {W : WT} {V : VT} {h0 : Heap} (q : Int64) (H : Wk l Z (⟨"io/tagwire/codec/Decimal", "digits", "(J)I"⟩ : MethodName) prog_20_method_2_code 5 ret R n0 W V) :
    ∀ (k i : Nat), i + k = 19 → 1 ≤ i → (i = 1 ∨ ¬ q < own_pw (i - 1)) → W h0 0 0 6 #[.val (.long q), .second, .val (.int (Int32.ofNat i)), .val (.long (own_pw i)), .second] [] → ∃ (d : Nat) (pw : Int64), 1 ≤ d ∧ d ≤ 19 ∧ (d = 1 ∨ ¬ q < own_pw (d - 1)) ∧ (d = 19 ∨ q < own_pw d) ∧ W h0 0 0 30 #[.val (.long q), .second, .val (.int (Int32.ofNat d)), .val (.long pw), .second] [] := by
  intro k
  induction k with
  | zero =>
    intro i hk hi hlow r0
    obtain rfl : i = 19 := by omega
    have hge : ¬ Int32.ofNat 19 < (19 : Int32) := by decide
    have r1 : W h0 0 0 30 #[.val (.long q), .second, .val (.int (Int32.ofNat 19)), .val (.long (own_pw 19)), .second] [] := (H.icmpYes (pc' := 30) d1_9 (H.bipush (z := (19 : Int32)) d1_7 (H.iloadN d1_6 r0 rfl) rfl) (by decide) (by decide) (flt hge).2.1)
    exact ⟨19, own_pw 19, by omega, by omega, hlow, Or.inl rfl, r1⟩
  | succ k ih =>
    intro i hk hi hlow r0
    have hlt : Int32.ofNat i < (19 : Int32) := (own_ltN (j := 19) (by omega) (by omega)).mpr (by omega)
    have r2 : W h0 0 0 12 #[.val (.long q), .second, .val (.int (Int32.ofNat i)), .val (.long (own_pw i)), .second] [] := (H.icmpNo d1_9 (H.bipush (z := (19 : Int32)) d1_7 (H.iloadN d1_6 r0 rfl) rfl) (tlt hlt).2.1)
    have r3 : W h0 0 0 15 #[.val (.long q), .second, .val (.int (Int32.ofNat i)), .val (.long (own_pw i)), .second] [(.int (lcmpW q (own_pw i)))] := (H.lcmp d1_14 (H.lloadN d1_13 (H.lloadN d1_12 r2 rfl) rfl))
    by_cases h1 : (lcmpW q (own_pw i)) < (0 : Int32)
    · have r4 : W h0 0 0 30 #[.val (.long q), .second, .val (.int (Int32.ofNat i)), .val (.long (own_pw i)), .second] [] := (H.ifYes (pc' := 30) d1_15 r3 (by decide) (by decide) (tlt h1).1)
      exact ⟨i, own_pw i, hi, by omega, hlow, Or.inr ((lw_lt _ _).mp h1), r4⟩
    · have r5 : W h0 0 0 18 #[.val (.long q), .second, .val (.int (Int32.ofNat i)), .val (.long (own_pw i)), .second] [] := (H.ifNo d1_15 r3 (flt h1).1)
      have r6 : W h0 0 0 21 #[.val (.long q), .second, .val (.int ((Int32.ofNat i) + (1 : Int32))), .val (.long (own_pw i)), .second] [] := (H.iinc (z := ((Int32.ofNat i) + (1 : Int32))) d1_18 r5 rfl rfl rfl)
      rw [own_succ] at r6
      have r7 : W h0 0 0 27 #[.val (.long q), .second, .val (.int (Int32.ofNat (i + 1))), .val (.long ((own_pw i) * (10 : Int64))), .second] [] := (H.lstoreN d1_26 (H.lmul d1_25 (H.ldcLong d1_22 (H.lloadN d1_21 r6 rfl) (hw _ (List.mem_of_getElem? (i := 8) rfl)))) rfl)
      have r8 : W h0 0 0 6 #[.val (.long q), .second, .val (.int (Int32.ofNat (i + 1))), .val (.long (own_pw (i + 1))), .second] [] := (H.goto (pc' := 6) d1_27 r7 (by decide) (by decide))
      exact ih (i + 1) (by omega) (by omega) (Or.inr (fun q => h1 ((lw_lt _ _).mpr q))) r8
set_option maxRecDepth 65536 in
set_option maxHeartbeats 40000000 in
theorem dig_ct {l : Launch} {Z : State} {a0 : Array Value} (hw : ∀ d ∈ tables_1, d.before a0 Z = true) (q : Int64) (h0 : Heap) (n0 : Nat) :
    Ct l Z (⟨"io/tagwire/codec/Decimal", "digits", "(J)I"⟩ : MethodName) prog_20_method_2_code 5 (some .int) ({ frames := 0, cells := 0, slots := 0, locals := 0 } : Room) n0 #[(.long q)] h0 (fun v h' => ∃ d : Nat, v = some (.int (Int32.ofNat d)) ∧ 1 ≤ d ∧ d ≤ 19 ∧ (d = 1 ∨ ¬ q < own_pw (d - 1)) ∧ (d = 19 ∨ q < own_pw d) ∧ h' = h0) := by
  refine Ct.of (plainFor_of_name pn_0) (fun m => ef_d q m) ?_
  intro W V H r0
  have r9 : W h0 0 0 2 #[.val (.long q), .second, .val (.int (1 : Int32)), .unset, .unset] [] := (H.istoreN d1_1 (H.iconst (z := (1 : Int32)) d1_0 r0 rfl) rfl)
  have r10 : W h0 0 0 6 #[.val (.long q), .second, .val (.int (1 : Int32)), .val (.long (10 : Int64)), .second] [] := (H.lstoreN d1_5 (H.ldcLong d1_2 r9 (hw _ (List.mem_of_getElem? (i := 8) rfl))) rfl)
  obtain ⟨d, pw, g1, g2, g3, g4, r9⟩ := dig_loop hw q H 18 1 rfl (by decide) (Or.inl rfl) r10
  have r11 : W h0 0 0 31 #[.val (.long q), .second, .val (.int (Int32.ofNat d)), .val (.long pw), .second] [(.int (Int32.ofNat d))] := (H.iloadN d1_30 r9 rfl)
  exact ⟨_, _, H.retI rfl (Nat.le_refl _) (Nat.le_refl _) d1_31 r11, d, rfl, g1, g2, g3, g4, rfl⟩
set_option maxRecDepth 65536 in
set_option maxHeartbeats 40000000 in
theorem law_ct {l : Launch} {Z : State} {a0 : Array Value} (hw : ∀ d ∈ tables_1, d.before a0 Z = true) (x : Int64) (kr mode : Int32) (h0 : Heap) (n0 : Nat) (Z0 : n0 ≤ h0.size) :
    Ct l Z Jvm.Pilot.@@N@@.x code maxLocals ret room_1 n0 #[(.long x), (.int kr), (.int mode)] h0 (fun v h' => v = some (.int 1)) := by
  refine Ct.of (plainFor_of_name pn_1) (fun m => ef_0 x kr mode m) ?_
  intro W V H r0
  have r12 : W h0 0 0 2 #[.val (.long x), .second, .val (.int kr), .val (.int mode), .unset, .unset, .unset, .unset, .unset, .unset, .unset, .unset, .unset, .unset] [(.int (19 : Int32))] := (H.bipush (z := (19 : Int32)) at_0 r0 rfl)
  obtain ⟨h13, pa, ea14, E15, A16, r17⟩ := H.newA (i := 19) (cap := 19) (d := (.long 0)) rfl rfl (hw _ (List.mem_of_getElem? (i := 0) rfl)) (by decide) (by decide) (by decide) (by decide) (by decide) at_2 r12
  have N18 : n0 ≤ pa := by rw [ea14]; exact Z0
  have Z19 : n0 ≤ h13.size := Nat.le_trans Z0 E15.1
  have A16l : Ary Z h13 pa .long [.long 0, .long 0, .long 0, .long 0, .long 0, .long 0, .long 0, .long 0, .long 0, .long 0, .long 0, .long 0, .long 0, .long 0, .long 0, .long 0, .long 0, .long 0, .long 0] := A16
  replace r17 : W h13 1 19 4 #[.val (.long x), .second, .val (.int kr), .val (.int mode), .unset, .unset, .unset, .unset, .unset, .unset, .unset, .unset, .unset, .unset] [(.ref pa)] := r17
  have r20 : W h13 1 19 6 #[.val (.long x), .second, .val (.int kr), .val (.int mode), .val (.ref pa), .unset, .unset, .unset, .unset, .unset, .unset, .unset, .unset, .unset] [] := (H.astore at_4 r17 rfl rfl)
  have r21 : W h13 1 19 10 #[.val (.long x), .second, .val (.int kr), .val (.int mode), .val (.ref pa), .unset, .unset, .unset, .unset, .unset, .unset, .unset, .unset, .unset] [(.long (own_pw 0)), (.int (0 : Int32)), (.ref pa)] := (H.lconst (z := (1 : Int64)) at_9 (H.iconst (z := (0 : Int32)) at_8 (H.aload at_6 r20 rfl rfl) rfl) rfl)
  obtain ⟨h22, w23, A24, r25⟩ := H.putJ (i := 0) A16l (by decide) (by decide) N18 at_10 r21
  have Z26 : n0 ≤ h22.size := by rw [w23.size]; exact Z19
  replace A24 : Ary Z h22 pa .long [.long (own_pw 0), .long 0, .long 0, .long 0, .long 0, .long 0, .long 0, .long 0, .long 0, .long 0, .long 0, .long 0, .long 0, .long 0, .long 0, .long 0, .long 0, .long 0, .long 0] := A24
  replace r25 : W h22 1 19 11 #[.val (.long x), .second, .val (.int kr), .val (.int mode), .val (.ref pa), .unset, .unset, .unset, .unset, .unset, .unset, .unset, .unset, .unset] [] := r25
  have r27 : W h22 1 19 17 #[.val (.long x), .second, .val (.int kr), .val (.int mode), .val (.ref pa), .unset, .unset, .unset, .unset, .unset, .unset, .unset, .unset, .unset] [(.int (0 : Int32)), (.ref pa), (.int (1 : Int32)), (.ref pa)] := (H.iconst (z := (0 : Int32)) at_16 (H.aload at_14 (H.iconst (z := (1 : Int32)) at_13 (H.aload at_11 r25 rfl rfl) rfl) rfl rfl) rfl)
  have r28 : W h22 1 19 18 #[.val (.long x), .second, .val (.int kr), .val (.int mode), .val (.ref pa), .unset, .unset, .unset, .unset, .unset, .unset, .unset, .unset, .unset] [(.long (own_pw 0)), (.int (1 : Int32)), (.ref pa)] := H.ldJ (i := 0) (v := (.long (own_pw 0))) A24 (by decide) rfl at_17 r27
  have r29 : W h22 1 19 22 #[.val (.long x), .second, .val (.int kr), .val (.int mode), .val (.ref pa), .unset, .unset, .unset, .unset, .unset, .unset, .unset, .unset, .unset] [(.long ((own_pw 0) * (10 : Int64))), (.int (1 : Int32)), (.ref pa)] := (H.lmul at_21 (H.ldcLong at_18 r28 (hw _ (List.mem_of_getElem? (i := 1) rfl))))
  replace r29 : W h22 1 19 22 #[.val (.long x), .second, .val (.int kr), .val (.int mode), .val (.ref pa), .unset, .unset, .unset, .unset, .unset, .unset, .unset, .unset, .unset] [(.long (own_pw 1)), (.int (1 : Int32)), (.ref pa)] := r29
  obtain ⟨h30, w31, A32, r33⟩ := H.putJ (i := 1) A24 (by decide) (by decide) N18 at_22 r29
  have Z34 : n0 ≤ h30.size := by rw [w31.size]; exact Z26
  replace A32 : Ary Z h30 pa .long [.long (own_pw 0), .long (own_pw 1), .long 0, .long 0, .long 0, .long 0, .long 0, .long 0, .long 0, .long 0, .long 0, .long 0, .long 0, .long 0, .long 0, .long 0, .long 0, .long 0, .long 0] := A32
  replace r33 : W h30 1 19 23 #[.val (.long x), .second, .val (.int kr), .val (.int mode), .val (.ref pa), .unset, .unset, .unset, .unset, .unset, .unset, .unset, .unset, .unset] [] := r33
  have r35 : W h30 1 19 29 #[.val (.long x), .second, .val (.int kr), .val (.int mode), .val (.ref pa), .unset, .unset, .unset, .unset, .unset, .unset, .unset, .unset, .unset] [(.int (1 : Int32)), (.ref pa), (.int (2 : Int32)), (.ref pa)] := (H.iconst (z := (1 : Int32)) at_28 (H.aload at_26 (H.iconst (z := (2 : Int32)) at_25 (H.aload at_23 r33 rfl rfl) rfl) rfl rfl) rfl)
  have r36 : W h30 1 19 30 #[.val (.long x), .second, .val (.int kr), .val (.int mode), .val (.ref pa), .unset, .unset, .unset, .unset, .unset, .unset, .unset, .unset, .unset] [(.long (own_pw 1)), (.int (2 : Int32)), (.ref pa)] := H.ldJ (i := 1) (v := (.long (own_pw 1))) A32 (by decide) rfl at_29 r35
  have r37 : W h30 1 19 34 #[.val (.long x), .second, .val (.int kr), .val (.int mode), .val (.ref pa), .unset, .unset, .unset, .unset, .unset, .unset, .unset, .unset, .unset] [(.long ((own_pw 1) * (10 : Int64))), (.int (2 : Int32)), (.ref pa)] := (H.lmul at_33 (H.ldcLong at_30 r36 (hw _ (List.mem_of_getElem? (i := 1) rfl))))
  replace r37 : W h30 1 19 34 #[.val (.long x), .second, .val (.int kr), .val (.int mode), .val (.ref pa), .unset, .unset, .unset, .unset, .unset, .unset, .unset, .unset, .unset] [(.long (own_pw 2)), (.int (2 : Int32)), (.ref pa)] := r37
  obtain ⟨h38, w39, A40, r41⟩ := H.putJ (i := 2) A32 (by decide) (by decide) N18 at_34 r37
  have Z42 : n0 ≤ h38.size := by rw [w39.size]; exact Z34
  replace A40 : Ary Z h38 pa .long [.long (own_pw 0), .long (own_pw 1), .long (own_pw 2), .long 0, .long 0, .long 0, .long 0, .long 0, .long 0, .long 0, .long 0, .long 0, .long 0, .long 0, .long 0, .long 0, .long 0, .long 0, .long 0] := A40
  replace r41 : W h38 1 19 35 #[.val (.long x), .second, .val (.int kr), .val (.int mode), .val (.ref pa), .unset, .unset, .unset, .unset, .unset, .unset, .unset, .unset, .unset] [] := r41
  have r43 : W h38 1 19 41 #[.val (.long x), .second, .val (.int kr), .val (.int mode), .val (.ref pa), .unset, .unset, .unset, .unset, .unset, .unset, .unset, .unset, .unset] [(.int (2 : Int32)), (.ref pa), (.int (3 : Int32)), (.ref pa)] := (H.iconst (z := (2 : Int32)) at_40 (H.aload at_38 (H.iconst (z := (3 : Int32)) at_37 (H.aload at_35 r41 rfl rfl) rfl) rfl rfl) rfl)
  have r44 : W h38 1 19 42 #[.val (.long x), .second, .val (.int kr), .val (.int mode), .val (.ref pa), .unset, .unset, .unset, .unset, .unset, .unset, .unset, .unset, .unset] [(.long (own_pw 2)), (.int (3 : Int32)), (.ref pa)] := H.ldJ (i := 2) (v := (.long (own_pw 2))) A40 (by decide) rfl at_41 r43
  have r45 : W h38 1 19 46 #[.val (.long x), .second, .val (.int kr), .val (.int mode), .val (.ref pa), .unset, .unset, .unset, .unset, .unset, .unset, .unset, .unset, .unset] [(.long ((own_pw 2) * (10 : Int64))), (.int (3 : Int32)), (.ref pa)] := (H.lmul at_45 (H.ldcLong at_42 r44 (hw _ (List.mem_of_getElem? (i := 1) rfl))))
  replace r45 : W h38 1 19 46 #[.val (.long x), .second, .val (.int kr), .val (.int mode), .val (.ref pa), .unset, .unset, .unset, .unset, .unset, .unset, .unset, .unset, .unset] [(.long (own_pw 3)), (.int (3 : Int32)), (.ref pa)] := r45
  obtain ⟨h46, w47, A48, r49⟩ := H.putJ (i := 3) A40 (by decide) (by decide) N18 at_46 r45
  have Z50 : n0 ≤ h46.size := by rw [w47.size]; exact Z42
  replace A48 : Ary Z h46 pa .long [.long (own_pw 0), .long (own_pw 1), .long (own_pw 2), .long (own_pw 3), .long 0, .long 0, .long 0, .long 0, .long 0, .long 0, .long 0, .long 0, .long 0, .long 0, .long 0, .long 0, .long 0, .long 0, .long 0] := A48
  replace r49 : W h46 1 19 47 #[.val (.long x), .second, .val (.int kr), .val (.int mode), .val (.ref pa), .unset, .unset, .unset, .unset, .unset, .unset, .unset, .unset, .unset] [] := r49
  have r51 : W h46 1 19 53 #[.val (.long x), .second, .val (.int kr), .val (.int mode), .val (.ref pa), .unset, .unset, .unset, .unset, .unset, .unset, .unset, .unset, .unset] [(.int (3 : Int32)), (.ref pa), (.int (4 : Int32)), (.ref pa)] := (H.iconst (z := (3 : Int32)) at_52 (H.aload at_50 (H.iconst (z := (4 : Int32)) at_49 (H.aload at_47 r49 rfl rfl) rfl) rfl rfl) rfl)
  have r52 : W h46 1 19 54 #[.val (.long x), .second, .val (.int kr), .val (.int mode), .val (.ref pa), .unset, .unset, .unset, .unset, .unset, .unset, .unset, .unset, .unset] [(.long (own_pw 3)), (.int (4 : Int32)), (.ref pa)] := H.ldJ (i := 3) (v := (.long (own_pw 3))) A48 (by decide) rfl at_53 r51
  have r53 : W h46 1 19 58 #[.val (.long x), .second, .val (.int kr), .val (.int mode), .val (.ref pa), .unset, .unset, .unset, .unset, .unset, .unset, .unset, .unset, .unset] [(.long ((own_pw 3) * (10 : Int64))), (.int (4 : Int32)), (.ref pa)] := (H.lmul at_57 (H.ldcLong at_54 r52 (hw _ (List.mem_of_getElem? (i := 1) rfl))))
  replace r53 : W h46 1 19 58 #[.val (.long x), .second, .val (.int kr), .val (.int mode), .val (.ref pa), .unset, .unset, .unset, .unset, .unset, .unset, .unset, .unset, .unset] [(.long (own_pw 4)), (.int (4 : Int32)), (.ref pa)] := r53
  obtain ⟨h54, w55, A56, r57⟩ := H.putJ (i := 4) A48 (by decide) (by decide) N18 at_58 r53
  have Z58 : n0 ≤ h54.size := by rw [w55.size]; exact Z50
  replace A56 : Ary Z h54 pa .long [.long (own_pw 0), .long (own_pw 1), .long (own_pw 2), .long (own_pw 3), .long (own_pw 4), .long 0, .long 0, .long 0, .long 0, .long 0, .long 0, .long 0, .long 0, .long 0, .long 0, .long 0, .long 0, .long 0, .long 0] := A56
  replace r57 : W h54 1 19 59 #[.val (.long x), .second, .val (.int kr), .val (.int mode), .val (.ref pa), .unset, .unset, .unset, .unset, .unset, .unset, .unset, .unset, .unset] [] := r57
  have r59 : W h54 1 19 65 #[.val (.long x), .second, .val (.int kr), .val (.int mode), .val (.ref pa), .unset, .unset, .unset, .unset, .unset, .unset, .unset, .unset, .unset] [(.int (4 : Int32)), (.ref pa), (.int (5 : Int32)), (.ref pa)] := (H.iconst (z := (4 : Int32)) at_64 (H.aload at_62 (H.iconst (z := (5 : Int32)) at_61 (H.aload at_59 r57 rfl rfl) rfl) rfl rfl) rfl)
  have r60 : W h54 1 19 66 #[.val (.long x), .second, .val (.int kr), .val (.int mode), .val (.ref pa), .unset, .unset, .unset, .unset, .unset, .unset, .unset, .unset, .unset] [(.long (own_pw 4)), (.int (5 : Int32)), (.ref pa)] := H.ldJ (i := 4) (v := (.long (own_pw 4))) A56 (by decide) rfl at_65 r59
  have r61 : W h54 1 19 70 #[.val (.long x), .second, .val (.int kr), .val (.int mode), .val (.ref pa), .unset, .unset, .unset, .unset, .unset, .unset, .unset, .unset, .unset] [(.long ((own_pw 4) * (10 : Int64))), (.int (5 : Int32)), (.ref pa)] := (H.lmul at_69 (H.ldcLong at_66 r60 (hw _ (List.mem_of_getElem? (i := 1) rfl))))
  replace r61 : W h54 1 19 70 #[.val (.long x), .second, .val (.int kr), .val (.int mode), .val (.ref pa), .unset, .unset, .unset, .unset, .unset, .unset, .unset, .unset, .unset] [(.long (own_pw 5)), (.int (5 : Int32)), (.ref pa)] := r61
  obtain ⟨h62, w63, A64, r65⟩ := H.putJ (i := 5) A56 (by decide) (by decide) N18 at_70 r61
  have Z66 : n0 ≤ h62.size := by rw [w63.size]; exact Z58
  replace A64 : Ary Z h62 pa .long [.long (own_pw 0), .long (own_pw 1), .long (own_pw 2), .long (own_pw 3), .long (own_pw 4), .long (own_pw 5), .long 0, .long 0, .long 0, .long 0, .long 0, .long 0, .long 0, .long 0, .long 0, .long 0, .long 0, .long 0, .long 0] := A64
  replace r65 : W h62 1 19 71 #[.val (.long x), .second, .val (.int kr), .val (.int mode), .val (.ref pa), .unset, .unset, .unset, .unset, .unset, .unset, .unset, .unset, .unset] [] := r65
  have r67 : W h62 1 19 78 #[.val (.long x), .second, .val (.int kr), .val (.int mode), .val (.ref pa), .unset, .unset, .unset, .unset, .unset, .unset, .unset, .unset, .unset] [(.int (5 : Int32)), (.ref pa), (.int (6 : Int32)), (.ref pa)] := (H.iconst (z := (5 : Int32)) at_77 (H.aload at_75 (H.bipush (z := (6 : Int32)) at_73 (H.aload at_71 r65 rfl rfl) rfl) rfl rfl) rfl)
  have r68 : W h62 1 19 79 #[.val (.long x), .second, .val (.int kr), .val (.int mode), .val (.ref pa), .unset, .unset, .unset, .unset, .unset, .unset, .unset, .unset, .unset] [(.long (own_pw 5)), (.int (6 : Int32)), (.ref pa)] := H.ldJ (i := 5) (v := (.long (own_pw 5))) A64 (by decide) rfl at_78 r67
  have r69 : W h62 1 19 83 #[.val (.long x), .second, .val (.int kr), .val (.int mode), .val (.ref pa), .unset, .unset, .unset, .unset, .unset, .unset, .unset, .unset, .unset] [(.long ((own_pw 5) * (10 : Int64))), (.int (6 : Int32)), (.ref pa)] := (H.lmul at_82 (H.ldcLong at_79 r68 (hw _ (List.mem_of_getElem? (i := 1) rfl))))
  replace r69 : W h62 1 19 83 #[.val (.long x), .second, .val (.int kr), .val (.int mode), .val (.ref pa), .unset, .unset, .unset, .unset, .unset, .unset, .unset, .unset, .unset] [(.long (own_pw 6)), (.int (6 : Int32)), (.ref pa)] := r69
  obtain ⟨h70, w71, A72, r73⟩ := H.putJ (i := 6) A64 (by decide) (by decide) N18 at_83 r69
  have Z74 : n0 ≤ h70.size := by rw [w71.size]; exact Z66
  replace A72 : Ary Z h70 pa .long [.long (own_pw 0), .long (own_pw 1), .long (own_pw 2), .long (own_pw 3), .long (own_pw 4), .long (own_pw 5), .long (own_pw 6), .long 0, .long 0, .long 0, .long 0, .long 0, .long 0, .long 0, .long 0, .long 0, .long 0, .long 0, .long 0] := A72
  replace r73 : W h70 1 19 84 #[.val (.long x), .second, .val (.int kr), .val (.int mode), .val (.ref pa), .unset, .unset, .unset, .unset, .unset, .unset, .unset, .unset, .unset] [] := r73
  have r75 : W h70 1 19 92 #[.val (.long x), .second, .val (.int kr), .val (.int mode), .val (.ref pa), .unset, .unset, .unset, .unset, .unset, .unset, .unset, .unset, .unset] [(.int (6 : Int32)), (.ref pa), (.int (7 : Int32)), (.ref pa)] := (H.bipush (z := (6 : Int32)) at_90 (H.aload at_88 (H.bipush (z := (7 : Int32)) at_86 (H.aload at_84 r73 rfl rfl) rfl) rfl rfl) rfl)
  have r76 : W h70 1 19 93 #[.val (.long x), .second, .val (.int kr), .val (.int mode), .val (.ref pa), .unset, .unset, .unset, .unset, .unset, .unset, .unset, .unset, .unset] [(.long (own_pw 6)), (.int (7 : Int32)), (.ref pa)] := H.ldJ (i := 6) (v := (.long (own_pw 6))) A72 (by decide) rfl at_92 r75
  have r77 : W h70 1 19 97 #[.val (.long x), .second, .val (.int kr), .val (.int mode), .val (.ref pa), .unset, .unset, .unset, .unset, .unset, .unset, .unset, .unset, .unset] [(.long ((own_pw 6) * (10 : Int64))), (.int (7 : Int32)), (.ref pa)] := (H.lmul at_96 (H.ldcLong at_93 r76 (hw _ (List.mem_of_getElem? (i := 1) rfl))))
  replace r77 : W h70 1 19 97 #[.val (.long x), .second, .val (.int kr), .val (.int mode), .val (.ref pa), .unset, .unset, .unset, .unset, .unset, .unset, .unset, .unset, .unset] [(.long (own_pw 7)), (.int (7 : Int32)), (.ref pa)] := r77
  obtain ⟨h78, w79, A80, r81⟩ := H.putJ (i := 7) A72 (by decide) (by decide) N18 at_97 r77
  have Z82 : n0 ≤ h78.size := by rw [w79.size]; exact Z74
  replace A80 : Ary Z h78 pa .long [.long (own_pw 0), .long (own_pw 1), .long (own_pw 2), .long (own_pw 3), .long (own_pw 4), .long (own_pw 5), .long (own_pw 6), .long (own_pw 7), .long 0, .long 0, .long 0, .long 0, .long 0, .long 0, .long 0, .long 0, .long 0, .long 0, .long 0] := A80
  replace r81 : W h78 1 19 98 #[.val (.long x), .second, .val (.int kr), .val (.int mode), .val (.ref pa), .unset, .unset, .unset, .unset, .unset, .unset, .unset, .unset, .unset] [] := r81
  have r83 : W h78 1 19 106 #[.val (.long x), .second, .val (.int kr), .val (.int mode), .val (.ref pa), .unset, .unset, .unset, .unset, .unset, .unset, .unset, .unset, .unset] [(.int (7 : Int32)), (.ref pa), (.int (8 : Int32)), (.ref pa)] := (H.bipush (z := (7 : Int32)) at_104 (H.aload at_102 (H.bipush (z := (8 : Int32)) at_100 (H.aload at_98 r81 rfl rfl) rfl) rfl rfl) rfl)
  have r84 : W h78 1 19 107 #[.val (.long x), .second, .val (.int kr), .val (.int mode), .val (.ref pa), .unset, .unset, .unset, .unset, .unset, .unset, .unset, .unset, .unset] [(.long (own_pw 7)), (.int (8 : Int32)), (.ref pa)] := H.ldJ (i := 7) (v := (.long (own_pw 7))) A80 (by decide) rfl at_106 r83
  have r85 : W h78 1 19 111 #[.val (.long x), .second, .val (.int kr), .val (.int mode), .val (.ref pa), .unset, .unset, .unset, .unset, .unset, .unset, .unset, .unset, .unset] [(.long ((own_pw 7) * (10 : Int64))), (.int (8 : Int32)), (.ref pa)] := (H.lmul at_110 (H.ldcLong at_107 r84 (hw _ (List.mem_of_getElem? (i := 1) rfl))))
  replace r85 : W h78 1 19 111 #[.val (.long x), .second, .val (.int kr), .val (.int mode), .val (.ref pa), .unset, .unset, .unset, .unset, .unset, .unset, .unset, .unset, .unset] [(.long (own_pw 8)), (.int (8 : Int32)), (.ref pa)] := r85
  obtain ⟨h86, w87, A88, r89⟩ := H.putJ (i := 8) A80 (by decide) (by decide) N18 at_111 r85
  have Z90 : n0 ≤ h86.size := by rw [w87.size]; exact Z82
  replace A88 : Ary Z h86 pa .long [.long (own_pw 0), .long (own_pw 1), .long (own_pw 2), .long (own_pw 3), .long (own_pw 4), .long (own_pw 5), .long (own_pw 6), .long (own_pw 7), .long (own_pw 8), .long 0, .long 0, .long 0, .long 0, .long 0, .long 0, .long 0, .long 0, .long 0, .long 0] := A88
  replace r89 : W h86 1 19 112 #[.val (.long x), .second, .val (.int kr), .val (.int mode), .val (.ref pa), .unset, .unset, .unset, .unset, .unset, .unset, .unset, .unset, .unset] [] := r89
  have r91 : W h86 1 19 120 #[.val (.long x), .second, .val (.int kr), .val (.int mode), .val (.ref pa), .unset, .unset, .unset, .unset, .unset, .unset, .unset, .unset, .unset] [(.int (8 : Int32)), (.ref pa), (.int (9 : Int32)), (.ref pa)] := (H.bipush (z := (8 : Int32)) at_118 (H.aload at_116 (H.bipush (z := (9 : Int32)) at_114 (H.aload at_112 r89 rfl rfl) rfl) rfl rfl) rfl)
  have r92 : W h86 1 19 121 #[.val (.long x), .second, .val (.int kr), .val (.int mode), .val (.ref pa), .unset, .unset, .unset, .unset, .unset, .unset, .unset, .unset, .unset] [(.long (own_pw 8)), (.int (9 : Int32)), (.ref pa)] := H.ldJ (i := 8) (v := (.long (own_pw 8))) A88 (by decide) rfl at_120 r91
  have r93 : W h86 1 19 125 #[.val (.long x), .second, .val (.int kr), .val (.int mode), .val (.ref pa), .unset, .unset, .unset, .unset, .unset, .unset, .unset, .unset, .unset] [(.long ((own_pw 8) * (10 : Int64))), (.int (9 : Int32)), (.ref pa)] := (H.lmul at_124 (H.ldcLong at_121 r92 (hw _ (List.mem_of_getElem? (i := 1) rfl))))
  replace r93 : W h86 1 19 125 #[.val (.long x), .second, .val (.int kr), .val (.int mode), .val (.ref pa), .unset, .unset, .unset, .unset, .unset, .unset, .unset, .unset, .unset] [(.long (own_pw 9)), (.int (9 : Int32)), (.ref pa)] := r93
  obtain ⟨h94, w95, A96, r97⟩ := H.putJ (i := 9) A88 (by decide) (by decide) N18 at_125 r93
  have Z98 : n0 ≤ h94.size := by rw [w95.size]; exact Z90
  replace A96 : Ary Z h94 pa .long [.long (own_pw 0), .long (own_pw 1), .long (own_pw 2), .long (own_pw 3), .long (own_pw 4), .long (own_pw 5), .long (own_pw 6), .long (own_pw 7), .long (own_pw 8), .long (own_pw 9), .long 0, .long 0, .long 0, .long 0, .long 0, .long 0, .long 0, .long 0, .long 0] := A96
  replace r97 : W h94 1 19 126 #[.val (.long x), .second, .val (.int kr), .val (.int mode), .val (.ref pa), .unset, .unset, .unset, .unset, .unset, .unset, .unset, .unset, .unset] [] := r97
  have r99 : W h94 1 19 134 #[.val (.long x), .second, .val (.int kr), .val (.int mode), .val (.ref pa), .unset, .unset, .unset, .unset, .unset, .unset, .unset, .unset, .unset] [(.int (9 : Int32)), (.ref pa), (.int (10 : Int32)), (.ref pa)] := (H.bipush (z := (9 : Int32)) at_132 (H.aload at_130 (H.bipush (z := (10 : Int32)) at_128 (H.aload at_126 r97 rfl rfl) rfl) rfl rfl) rfl)
  have r100 : W h94 1 19 135 #[.val (.long x), .second, .val (.int kr), .val (.int mode), .val (.ref pa), .unset, .unset, .unset, .unset, .unset, .unset, .unset, .unset, .unset] [(.long (own_pw 9)), (.int (10 : Int32)), (.ref pa)] := H.ldJ (i := 9) (v := (.long (own_pw 9))) A96 (by decide) rfl at_134 r99
  have r101 : W h94 1 19 139 #[.val (.long x), .second, .val (.int kr), .val (.int mode), .val (.ref pa), .unset, .unset, .unset, .unset, .unset, .unset, .unset, .unset, .unset] [(.long ((own_pw 9) * (10 : Int64))), (.int (10 : Int32)), (.ref pa)] := (H.lmul at_138 (H.ldcLong at_135 r100 (hw _ (List.mem_of_getElem? (i := 1) rfl))))
  replace r101 : W h94 1 19 139 #[.val (.long x), .second, .val (.int kr), .val (.int mode), .val (.ref pa), .unset, .unset, .unset, .unset, .unset, .unset, .unset, .unset, .unset] [(.long (own_pw 10)), (.int (10 : Int32)), (.ref pa)] := r101
  obtain ⟨h102, w103, A104, r105⟩ := H.putJ (i := 10) A96 (by decide) (by decide) N18 at_139 r101
  have Z106 : n0 ≤ h102.size := by rw [w103.size]; exact Z98
  replace A104 : Ary Z h102 pa .long [.long (own_pw 0), .long (own_pw 1), .long (own_pw 2), .long (own_pw 3), .long (own_pw 4), .long (own_pw 5), .long (own_pw 6), .long (own_pw 7), .long (own_pw 8), .long (own_pw 9), .long (own_pw 10), .long 0, .long 0, .long 0, .long 0, .long 0, .long 0, .long 0, .long 0] := A104
  replace r105 : W h102 1 19 140 #[.val (.long x), .second, .val (.int kr), .val (.int mode), .val (.ref pa), .unset, .unset, .unset, .unset, .unset, .unset, .unset, .unset, .unset] [] := r105
  have r107 : W h102 1 19 148 #[.val (.long x), .second, .val (.int kr), .val (.int mode), .val (.ref pa), .unset, .unset, .unset, .unset, .unset, .unset, .unset, .unset, .unset] [(.int (10 : Int32)), (.ref pa), (.int (11 : Int32)), (.ref pa)] := (H.bipush (z := (10 : Int32)) at_146 (H.aload at_144 (H.bipush (z := (11 : Int32)) at_142 (H.aload at_140 r105 rfl rfl) rfl) rfl rfl) rfl)
  have r108 : W h102 1 19 149 #[.val (.long x), .second, .val (.int kr), .val (.int mode), .val (.ref pa), .unset, .unset, .unset, .unset, .unset, .unset, .unset, .unset, .unset] [(.long (own_pw 10)), (.int (11 : Int32)), (.ref pa)] := H.ldJ (i := 10) (v := (.long (own_pw 10))) A104 (by decide) rfl at_148 r107
  have r109 : W h102 1 19 153 #[.val (.long x), .second, .val (.int kr), .val (.int mode), .val (.ref pa), .unset, .unset, .unset, .unset, .unset, .unset, .unset, .unset, .unset] [(.long ((own_pw 10) * (10 : Int64))), (.int (11 : Int32)), (.ref pa)] := (H.lmul at_152 (H.ldcLong at_149 r108 (hw _ (List.mem_of_getElem? (i := 1) rfl))))
  replace r109 : W h102 1 19 153 #[.val (.long x), .second, .val (.int kr), .val (.int mode), .val (.ref pa), .unset, .unset, .unset, .unset, .unset, .unset, .unset, .unset, .unset] [(.long (own_pw 11)), (.int (11 : Int32)), (.ref pa)] := r109
  obtain ⟨h110, w111, A112, r113⟩ := H.putJ (i := 11) A104 (by decide) (by decide) N18 at_153 r109
  have Z114 : n0 ≤ h110.size := by rw [w111.size]; exact Z106
  replace A112 : Ary Z h110 pa .long [.long (own_pw 0), .long (own_pw 1), .long (own_pw 2), .long (own_pw 3), .long (own_pw 4), .long (own_pw 5), .long (own_pw 6), .long (own_pw 7), .long (own_pw 8), .long (own_pw 9), .long (own_pw 10), .long (own_pw 11), .long 0, .long 0, .long 0, .long 0, .long 0, .long 0, .long 0] := A112
  replace r113 : W h110 1 19 154 #[.val (.long x), .second, .val (.int kr), .val (.int mode), .val (.ref pa), .unset, .unset, .unset, .unset, .unset, .unset, .unset, .unset, .unset] [] := r113
  have r115 : W h110 1 19 162 #[.val (.long x), .second, .val (.int kr), .val (.int mode), .val (.ref pa), .unset, .unset, .unset, .unset, .unset, .unset, .unset, .unset, .unset] [(.int (11 : Int32)), (.ref pa), (.int (12 : Int32)), (.ref pa)] := (H.bipush (z := (11 : Int32)) at_160 (H.aload at_158 (H.bipush (z := (12 : Int32)) at_156 (H.aload at_154 r113 rfl rfl) rfl) rfl rfl) rfl)
  have r116 : W h110 1 19 163 #[.val (.long x), .second, .val (.int kr), .val (.int mode), .val (.ref pa), .unset, .unset, .unset, .unset, .unset, .unset, .unset, .unset, .unset] [(.long (own_pw 11)), (.int (12 : Int32)), (.ref pa)] := H.ldJ (i := 11) (v := (.long (own_pw 11))) A112 (by decide) rfl at_162 r115
  have r117 : W h110 1 19 167 #[.val (.long x), .second, .val (.int kr), .val (.int mode), .val (.ref pa), .unset, .unset, .unset, .unset, .unset, .unset, .unset, .unset, .unset] [(.long ((own_pw 11) * (10 : Int64))), (.int (12 : Int32)), (.ref pa)] := (H.lmul at_166 (H.ldcLong at_163 r116 (hw _ (List.mem_of_getElem? (i := 1) rfl))))
  replace r117 : W h110 1 19 167 #[.val (.long x), .second, .val (.int kr), .val (.int mode), .val (.ref pa), .unset, .unset, .unset, .unset, .unset, .unset, .unset, .unset, .unset] [(.long (own_pw 12)), (.int (12 : Int32)), (.ref pa)] := r117
  obtain ⟨h118, w119, A120, r121⟩ := H.putJ (i := 12) A112 (by decide) (by decide) N18 at_167 r117
  have Z122 : n0 ≤ h118.size := by rw [w119.size]; exact Z114
  replace A120 : Ary Z h118 pa .long [.long (own_pw 0), .long (own_pw 1), .long (own_pw 2), .long (own_pw 3), .long (own_pw 4), .long (own_pw 5), .long (own_pw 6), .long (own_pw 7), .long (own_pw 8), .long (own_pw 9), .long (own_pw 10), .long (own_pw 11), .long (own_pw 12), .long 0, .long 0, .long 0, .long 0, .long 0, .long 0] := A120
  replace r121 : W h118 1 19 168 #[.val (.long x), .second, .val (.int kr), .val (.int mode), .val (.ref pa), .unset, .unset, .unset, .unset, .unset, .unset, .unset, .unset, .unset] [] := r121
  have r123 : W h118 1 19 176 #[.val (.long x), .second, .val (.int kr), .val (.int mode), .val (.ref pa), .unset, .unset, .unset, .unset, .unset, .unset, .unset, .unset, .unset] [(.int (12 : Int32)), (.ref pa), (.int (13 : Int32)), (.ref pa)] := (H.bipush (z := (12 : Int32)) at_174 (H.aload at_172 (H.bipush (z := (13 : Int32)) at_170 (H.aload at_168 r121 rfl rfl) rfl) rfl rfl) rfl)
  have r124 : W h118 1 19 177 #[.val (.long x), .second, .val (.int kr), .val (.int mode), .val (.ref pa), .unset, .unset, .unset, .unset, .unset, .unset, .unset, .unset, .unset] [(.long (own_pw 12)), (.int (13 : Int32)), (.ref pa)] := H.ldJ (i := 12) (v := (.long (own_pw 12))) A120 (by decide) rfl at_176 r123
  have r125 : W h118 1 19 181 #[.val (.long x), .second, .val (.int kr), .val (.int mode), .val (.ref pa), .unset, .unset, .unset, .unset, .unset, .unset, .unset, .unset, .unset] [(.long ((own_pw 12) * (10 : Int64))), (.int (13 : Int32)), (.ref pa)] := (H.lmul at_180 (H.ldcLong at_177 r124 (hw _ (List.mem_of_getElem? (i := 1) rfl))))
  replace r125 : W h118 1 19 181 #[.val (.long x), .second, .val (.int kr), .val (.int mode), .val (.ref pa), .unset, .unset, .unset, .unset, .unset, .unset, .unset, .unset, .unset] [(.long (own_pw 13)), (.int (13 : Int32)), (.ref pa)] := r125
  obtain ⟨h126, w127, A128, r129⟩ := H.putJ (i := 13) A120 (by decide) (by decide) N18 at_181 r125
  have Z130 : n0 ≤ h126.size := by rw [w127.size]; exact Z122
  replace A128 : Ary Z h126 pa .long [.long (own_pw 0), .long (own_pw 1), .long (own_pw 2), .long (own_pw 3), .long (own_pw 4), .long (own_pw 5), .long (own_pw 6), .long (own_pw 7), .long (own_pw 8), .long (own_pw 9), .long (own_pw 10), .long (own_pw 11), .long (own_pw 12), .long (own_pw 13), .long 0, .long 0, .long 0, .long 0, .long 0] := A128
  replace r129 : W h126 1 19 182 #[.val (.long x), .second, .val (.int kr), .val (.int mode), .val (.ref pa), .unset, .unset, .unset, .unset, .unset, .unset, .unset, .unset, .unset] [] := r129
  have r131 : W h126 1 19 190 #[.val (.long x), .second, .val (.int kr), .val (.int mode), .val (.ref pa), .unset, .unset, .unset, .unset, .unset, .unset, .unset, .unset, .unset] [(.int (13 : Int32)), (.ref pa), (.int (14 : Int32)), (.ref pa)] := (H.bipush (z := (13 : Int32)) at_188 (H.aload at_186 (H.bipush (z := (14 : Int32)) at_184 (H.aload at_182 r129 rfl rfl) rfl) rfl rfl) rfl)
  have r132 : W h126 1 19 191 #[.val (.long x), .second, .val (.int kr), .val (.int mode), .val (.ref pa), .unset, .unset, .unset, .unset, .unset, .unset, .unset, .unset, .unset] [(.long (own_pw 13)), (.int (14 : Int32)), (.ref pa)] := H.ldJ (i := 13) (v := (.long (own_pw 13))) A128 (by decide) rfl at_190 r131
  have r133 : W h126 1 19 195 #[.val (.long x), .second, .val (.int kr), .val (.int mode), .val (.ref pa), .unset, .unset, .unset, .unset, .unset, .unset, .unset, .unset, .unset] [(.long ((own_pw 13) * (10 : Int64))), (.int (14 : Int32)), (.ref pa)] := (H.lmul at_194 (H.ldcLong at_191 r132 (hw _ (List.mem_of_getElem? (i := 1) rfl))))
  replace r133 : W h126 1 19 195 #[.val (.long x), .second, .val (.int kr), .val (.int mode), .val (.ref pa), .unset, .unset, .unset, .unset, .unset, .unset, .unset, .unset, .unset] [(.long (own_pw 14)), (.int (14 : Int32)), (.ref pa)] := r133
  obtain ⟨h134, w135, A136, r137⟩ := H.putJ (i := 14) A128 (by decide) (by decide) N18 at_195 r133
  have Z138 : n0 ≤ h134.size := by rw [w135.size]; exact Z130
  replace A136 : Ary Z h134 pa .long [.long (own_pw 0), .long (own_pw 1), .long (own_pw 2), .long (own_pw 3), .long (own_pw 4), .long (own_pw 5), .long (own_pw 6), .long (own_pw 7), .long (own_pw 8), .long (own_pw 9), .long (own_pw 10), .long (own_pw 11), .long (own_pw 12), .long (own_pw 13), .long (own_pw 14), .long 0, .long 0, .long 0, .long 0] := A136
  replace r137 : W h134 1 19 196 #[.val (.long x), .second, .val (.int kr), .val (.int mode), .val (.ref pa), .unset, .unset, .unset, .unset, .unset, .unset, .unset, .unset, .unset] [] := r137
  have r139 : W h134 1 19 204 #[.val (.long x), .second, .val (.int kr), .val (.int mode), .val (.ref pa), .unset, .unset, .unset, .unset, .unset, .unset, .unset, .unset, .unset] [(.int (14 : Int32)), (.ref pa), (.int (15 : Int32)), (.ref pa)] := (H.bipush (z := (14 : Int32)) at_202 (H.aload at_200 (H.bipush (z := (15 : Int32)) at_198 (H.aload at_196 r137 rfl rfl) rfl) rfl rfl) rfl)
  have r140 : W h134 1 19 205 #[.val (.long x), .second, .val (.int kr), .val (.int mode), .val (.ref pa), .unset, .unset, .unset, .unset, .unset, .unset, .unset, .unset, .unset] [(.long (own_pw 14)), (.int (15 : Int32)), (.ref pa)] := H.ldJ (i := 14) (v := (.long (own_pw 14))) A136 (by decide) rfl at_204 r139
  have r141 : W h134 1 19 209 #[.val (.long x), .second, .val (.int kr), .val (.int mode), .val (.ref pa), .unset, .unset, .unset, .unset, .unset, .unset, .unset, .unset, .unset] [(.long ((own_pw 14) * (10 : Int64))), (.int (15 : Int32)), (.ref pa)] := (H.lmul at_208 (H.ldcLong at_205 r140 (hw _ (List.mem_of_getElem? (i := 1) rfl))))
  replace r141 : W h134 1 19 209 #[.val (.long x), .second, .val (.int kr), .val (.int mode), .val (.ref pa), .unset, .unset, .unset, .unset, .unset, .unset, .unset, .unset, .unset] [(.long (own_pw 15)), (.int (15 : Int32)), (.ref pa)] := r141
  obtain ⟨h142, w143, A144, r145⟩ := H.putJ (i := 15) A136 (by decide) (by decide) N18 at_209 r141
  have Z146 : n0 ≤ h142.size := by rw [w143.size]; exact Z138
  replace A144 : Ary Z h142 pa .long [.long (own_pw 0), .long (own_pw 1), .long (own_pw 2), .long (own_pw 3), .long (own_pw 4), .long (own_pw 5), .long (own_pw 6), .long (own_pw 7), .long (own_pw 8), .long (own_pw 9), .long (own_pw 10), .long (own_pw 11), .long (own_pw 12), .long (own_pw 13), .long (own_pw 14), .long (own_pw 15), .long 0, .long 0, .long 0] := A144
  replace r145 : W h142 1 19 210 #[.val (.long x), .second, .val (.int kr), .val (.int mode), .val (.ref pa), .unset, .unset, .unset, .unset, .unset, .unset, .unset, .unset, .unset] [] := r145
  have r147 : W h142 1 19 218 #[.val (.long x), .second, .val (.int kr), .val (.int mode), .val (.ref pa), .unset, .unset, .unset, .unset, .unset, .unset, .unset, .unset, .unset] [(.int (15 : Int32)), (.ref pa), (.int (16 : Int32)), (.ref pa)] := (H.bipush (z := (15 : Int32)) at_216 (H.aload at_214 (H.bipush (z := (16 : Int32)) at_212 (H.aload at_210 r145 rfl rfl) rfl) rfl rfl) rfl)
  have r148 : W h142 1 19 219 #[.val (.long x), .second, .val (.int kr), .val (.int mode), .val (.ref pa), .unset, .unset, .unset, .unset, .unset, .unset, .unset, .unset, .unset] [(.long (own_pw 15)), (.int (16 : Int32)), (.ref pa)] := H.ldJ (i := 15) (v := (.long (own_pw 15))) A144 (by decide) rfl at_218 r147
  have r149 : W h142 1 19 223 #[.val (.long x), .second, .val (.int kr), .val (.int mode), .val (.ref pa), .unset, .unset, .unset, .unset, .unset, .unset, .unset, .unset, .unset] [(.long ((own_pw 15) * (10 : Int64))), (.int (16 : Int32)), (.ref pa)] := (H.lmul at_222 (H.ldcLong at_219 r148 (hw _ (List.mem_of_getElem? (i := 1) rfl))))
  replace r149 : W h142 1 19 223 #[.val (.long x), .second, .val (.int kr), .val (.int mode), .val (.ref pa), .unset, .unset, .unset, .unset, .unset, .unset, .unset, .unset, .unset] [(.long (own_pw 16)), (.int (16 : Int32)), (.ref pa)] := r149
  obtain ⟨h150, w151, A152, r153⟩ := H.putJ (i := 16) A144 (by decide) (by decide) N18 at_223 r149
  have Z154 : n0 ≤ h150.size := by rw [w151.size]; exact Z146
  replace A152 : Ary Z h150 pa .long [.long (own_pw 0), .long (own_pw 1), .long (own_pw 2), .long (own_pw 3), .long (own_pw 4), .long (own_pw 5), .long (own_pw 6), .long (own_pw 7), .long (own_pw 8), .long (own_pw 9), .long (own_pw 10), .long (own_pw 11), .long (own_pw 12), .long (own_pw 13), .long (own_pw 14), .long (own_pw 15), .long (own_pw 16), .long 0, .long 0] := A152
  replace r153 : W h150 1 19 224 #[.val (.long x), .second, .val (.int kr), .val (.int mode), .val (.ref pa), .unset, .unset, .unset, .unset, .unset, .unset, .unset, .unset, .unset] [] := r153
  have r155 : W h150 1 19 232 #[.val (.long x), .second, .val (.int kr), .val (.int mode), .val (.ref pa), .unset, .unset, .unset, .unset, .unset, .unset, .unset, .unset, .unset] [(.int (16 : Int32)), (.ref pa), (.int (17 : Int32)), (.ref pa)] := (H.bipush (z := (16 : Int32)) at_230 (H.aload at_228 (H.bipush (z := (17 : Int32)) at_226 (H.aload at_224 r153 rfl rfl) rfl) rfl rfl) rfl)
  have r156 : W h150 1 19 233 #[.val (.long x), .second, .val (.int kr), .val (.int mode), .val (.ref pa), .unset, .unset, .unset, .unset, .unset, .unset, .unset, .unset, .unset] [(.long (own_pw 16)), (.int (17 : Int32)), (.ref pa)] := H.ldJ (i := 16) (v := (.long (own_pw 16))) A152 (by decide) rfl at_232 r155
  have r157 : W h150 1 19 237 #[.val (.long x), .second, .val (.int kr), .val (.int mode), .val (.ref pa), .unset, .unset, .unset, .unset, .unset, .unset, .unset, .unset, .unset] [(.long ((own_pw 16) * (10 : Int64))), (.int (17 : Int32)), (.ref pa)] := (H.lmul at_236 (H.ldcLong at_233 r156 (hw _ (List.mem_of_getElem? (i := 1) rfl))))
  replace r157 : W h150 1 19 237 #[.val (.long x), .second, .val (.int kr), .val (.int mode), .val (.ref pa), .unset, .unset, .unset, .unset, .unset, .unset, .unset, .unset, .unset] [(.long (own_pw 17)), (.int (17 : Int32)), (.ref pa)] := r157
  obtain ⟨h158, w159, A160, r161⟩ := H.putJ (i := 17) A152 (by decide) (by decide) N18 at_237 r157
  have Z162 : n0 ≤ h158.size := by rw [w159.size]; exact Z154
  replace A160 : Ary Z h158 pa .long [.long (own_pw 0), .long (own_pw 1), .long (own_pw 2), .long (own_pw 3), .long (own_pw 4), .long (own_pw 5), .long (own_pw 6), .long (own_pw 7), .long (own_pw 8), .long (own_pw 9), .long (own_pw 10), .long (own_pw 11), .long (own_pw 12), .long (own_pw 13), .long (own_pw 14), .long (own_pw 15), .long (own_pw 16), .long (own_pw 17), .long 0] := A160
  replace r161 : W h158 1 19 238 #[.val (.long x), .second, .val (.int kr), .val (.int mode), .val (.ref pa), .unset, .unset, .unset, .unset, .unset, .unset, .unset, .unset, .unset] [] := r161
  have r163 : W h158 1 19 246 #[.val (.long x), .second, .val (.int kr), .val (.int mode), .val (.ref pa), .unset, .unset, .unset, .unset, .unset, .unset, .unset, .unset, .unset] [(.int (17 : Int32)), (.ref pa), (.int (18 : Int32)), (.ref pa)] := (H.bipush (z := (17 : Int32)) at_244 (H.aload at_242 (H.bipush (z := (18 : Int32)) at_240 (H.aload at_238 r161 rfl rfl) rfl) rfl rfl) rfl)
  have r164 : W h158 1 19 247 #[.val (.long x), .second, .val (.int kr), .val (.int mode), .val (.ref pa), .unset, .unset, .unset, .unset, .unset, .unset, .unset, .unset, .unset] [(.long (own_pw 17)), (.int (18 : Int32)), (.ref pa)] := H.ldJ (i := 17) (v := (.long (own_pw 17))) A160 (by decide) rfl at_246 r163
  have r165 : W h158 1 19 251 #[.val (.long x), .second, .val (.int kr), .val (.int mode), .val (.ref pa), .unset, .unset, .unset, .unset, .unset, .unset, .unset, .unset, .unset] [(.long ((own_pw 17) * (10 : Int64))), (.int (18 : Int32)), (.ref pa)] := (H.lmul at_250 (H.ldcLong at_247 r164 (hw _ (List.mem_of_getElem? (i := 1) rfl))))
  replace r165 : W h158 1 19 251 #[.val (.long x), .second, .val (.int kr), .val (.int mode), .val (.ref pa), .unset, .unset, .unset, .unset, .unset, .unset, .unset, .unset, .unset] [(.long (own_pw 18)), (.int (18 : Int32)), (.ref pa)] := r165
  obtain ⟨h166, w167, A168, r169⟩ := H.putJ (i := 18) A160 (by decide) (by decide) N18 at_251 r165
  have Z170 : n0 ≤ h166.size := by rw [w167.size]; exact Z162
  replace A168 : Ary Z h166 pa .long [.long (own_pw 0), .long (own_pw 1), .long (own_pw 2), .long (own_pw 3), .long (own_pw 4), .long (own_pw 5), .long (own_pw 6), .long (own_pw 7), .long (own_pw 8), .long (own_pw 9), .long (own_pw 10), .long (own_pw 11), .long (own_pw 12), .long (own_pw 13), .long (own_pw 14), .long (own_pw 15), .long (own_pw 16), .long (own_pw 17), .long (own_pw 18)] := A168
  replace r169 : W h166 1 19 252 #[.val (.long x), .second, .val (.int kr), .val (.int mode), .val (.ref pa), .unset, .unset, .unset, .unset, .unset, .unset, .unset, .unset, .unset] [] := r169
  have r171 : W h166 1 19 261 #[.val (.long x), .second, .val (.int kr), .val (.int mode), .val (.ref pa), .val (.int ((kr &&& (2147483647 : Int32)) % (19 : Int32))), .unset, .unset, .unset, .unset, .unset, .unset, .unset, .unset] [] := (H.istore at_259 (H.irem at_258 (H.bipush (z := (19 : Int32)) at_256 (H.iand at_255 (H.ldcInt at_253 (H.iloadN at_252 r169 rfl) (hw _ (List.mem_of_getElem? (i := 2) rfl)))) rfl) (by decide)) rfl)
  have r172 : W h166 1 19 268 #[.val (.long x), .second, .val (.int kr), .val (.int mode), .val (.ref pa), .val (.int ((kr &&& (2147483647 : Int32)) % (19 : Int32))), .val (.long (x &&& (9223372036854775807 : Int64))), .second, .unset, .unset, .unset, .unset, .unset, .unset] [] := (H.lstore at_266 (H.land at_265 (H.ldcLong at_262 (H.lloadN at_261 r171 rfl) (hw _ (List.mem_of_getElem? (i := 3) rfl)))) rfl)
  have r173 : W h166 1 19 273 #[.val (.long x), .second, .val (.int kr), .val (.int mode), .val (.ref pa), .val (.int ((kr &&& (2147483647 : Int32)) % (19 : Int32))), .val (.long (x &&& (9223372036854775807 : Int64))), .second, .val (.int (mode &&& (3 : Int32))), .unset, .unset, .unset, .unset, .unset] [] := (H.istore at_271 (H.iand at_270 (H.iconst (z := (3 : Int32)) at_269 (H.iloadN at_268 r172 rfl) rfl)) rfl)
  have r174 : W h166 1 19 275 #[.val (.long x), .second, .val (.int kr), .val (.int mode), .val (.ref pa), .val (.int ((kr &&& (2147483647 : Int32)) % (19 : Int32))), .val (.long (x &&& (9223372036854775807 : Int64))), .second, .val (.int (mode &&& (3 : Int32))), .unset, .unset, .unset, .unset, .unset] [(.int (mode &&& (3 : Int32)))] := (H.iload at_273 r173 rfl)
  obtain ⟨k, hk, ek⟩ := own_modn kr 19 (by decide) (by decide)
  replace ek : ((kr &&& (2147483647 : Int32)) % (19 : Int32)) = Int32.ofNat k := ek
  rw [ek] at r174
  have rJ : ∃ q : Int64, W h166 1 19 329 #[.val (.long x), .second, .val (.int kr), .val (.int mode), .val (.ref pa), .val (.int (Int32.ofNat k)), .val (.long (x &&& (9223372036854775807 : Int64))), .second, .val (.int (mode &&& (3 : Int32))), .val (.long q), .second, .unset, .unset, .unset] [] := by
    by_cases h1 : (mode &&& (3 : Int32)) = (0 : Int32)
    · have r175 : W h166 1 19 278 #[.val (.long x), .second, .val (.int kr), .val (.int mode), .val (.ref pa), .val (.int (Int32.ofNat k)), .val (.long (x &&& (9223372036854775807 : Int64))), .second, .val (.int (mode &&& (3 : Int32))), .unset, .unset, .unset, .unset, .unset] [] := (H.ifNo at_275 r174 (teq h1).2)
      have r177 : W h166 1 19 282 #[.val (.long x), .second, .val (.int kr), .val (.int mode), .val (.ref pa), .val (.int (Int32.ofNat k)), .val (.long (x &&& (9223372036854775807 : Int64))), .second, .val (.int (mode &&& (3 : Int32))), .val (.long (x &&& (9223372036854775807 : Int64))), .second, .unset, .unset, .unset] [] := (H.lstore at_280 (H.lload at_278 r175 rfl) rfl)
      have r178 : W h166 1 19 329 #[.val (.long x), .second, .val (.int kr), .val (.int mode), .val (.ref pa), .val (.int (Int32.ofNat k)), .val (.long (x &&& (9223372036854775807 : Int64))), .second, .val (.int (mode &&& (3 : Int32))), .val (.long (x &&& (9223372036854775807 : Int64))), .second, .unset, .unset, .unset] [] := (H.goto (pc' := 329) at_282 r177 (by decide) (by decide))
      exact ⟨_, r178⟩
    · have r176 : W h166 1 19 285 #[.val (.long x), .second, .val (.int kr), .val (.int mode), .val (.ref pa), .val (.int (Int32.ofNat k)), .val (.long (x &&& (9223372036854775807 : Int64))), .second, .val (.int (mode &&& (3 : Int32))), .unset, .unset, .unset, .unset, .unset] [] := (H.ifYes (pc' := 285) at_275 r174 (by decide) (by decide) (feq h1).2)
      have r179 : W h166 1 19 288 #[.val (.long x), .second, .val (.int kr), .val (.int mode), .val (.ref pa), .val (.int (Int32.ofNat k)), .val (.long (x &&& (9223372036854775807 : Int64))), .second, .val (.int (mode &&& (3 : Int32))), .unset, .unset, .unset, .unset, .unset] [(.int (1 : Int32)), (.int (mode &&& (3 : Int32)))] := (H.iconst (z := (1 : Int32)) at_287 (H.iload at_285 r176 rfl) rfl)
      by_cases h2 : (mode &&& (3 : Int32)) = (1 : Int32)
      · have r180 : W h166 1 19 291 #[.val (.long x), .second, .val (.int kr), .val (.int mode), .val (.ref pa), .val (.int (Int32.ofNat k)), .val (.long (x &&& (9223372036854775807 : Int64))), .second, .val (.int (mode &&& (3 : Int32))), .unset, .unset, .unset, .unset, .unset] [] := (H.icmpNo at_288 r179 (teq h2).2)
        have r182 : W h166 1 19 295 #[.val (.long x), .second, .val (.int kr), .val (.int mode), .val (.ref pa), .val (.int (Int32.ofNat k)), .val (.long (x &&& (9223372036854775807 : Int64))), .second, .val (.int (mode &&& (3 : Int32))), .unset, .unset, .unset, .unset, .unset] [(.int (Int32.ofNat k)), (.ref pa)] := (H.iload at_293 (H.aload at_291 r180 rfl rfl) rfl)
        have r183 : W h166 1 19 296 #[.val (.long x), .second, .val (.int kr), .val (.int mode), .val (.ref pa), .val (.int (Int32.ofNat k)), .val (.long (x &&& (9223372036854775807 : Int64))), .second, .val (.int (mode &&& (3 : Int32))), .unset, .unset, .unset, .unset, .unset] [(.long (own_pw k))] := H.ldJ (i := k) (v := (.long (own_pw k))) A168 (own_ofNat (by omega)) (own_pws k hk) at_295 r182
        have r184 : W h166 1 19 298 #[.val (.long x), .second, .val (.int kr), .val (.int mode), .val (.ref pa), .val (.int (Int32.ofNat k)), .val (.long (x &&& (9223372036854775807 : Int64))), .second, .val (.int (mode &&& (3 : Int32))), .val (.long (own_pw k)), .second, .unset, .unset, .unset] [] := (H.lstore at_296 r183 rfl)
        have r185 : W h166 1 19 329 #[.val (.long x), .second, .val (.int kr), .val (.int mode), .val (.ref pa), .val (.int (Int32.ofNat k)), .val (.long (x &&& (9223372036854775807 : Int64))), .second, .val (.int (mode &&& (3 : Int32))), .val (.long (own_pw k)), .second, .unset, .unset, .unset] [] := (H.goto (pc' := 329) at_298 r184 (by decide) (by decide))
        exact ⟨_, r185⟩
      · have r181 : W h166 1 19 301 #[.val (.long x), .second, .val (.int kr), .val (.int mode), .val (.ref pa), .val (.int (Int32.ofNat k)), .val (.long (x &&& (9223372036854775807 : Int64))), .second, .val (.int (mode &&& (3 : Int32))), .unset, .unset, .unset, .unset, .unset] [] := (H.icmpYes (pc' := 301) at_288 r179 (by decide) (by decide) (feq h2).2)
        have r186 : W h166 1 19 304 #[.val (.long x), .second, .val (.int kr), .val (.int mode), .val (.ref pa), .val (.int (Int32.ofNat k)), .val (.long (x &&& (9223372036854775807 : Int64))), .second, .val (.int (mode &&& (3 : Int32))), .unset, .unset, .unset, .unset, .unset] [(.int (2 : Int32)), (.int (mode &&& (3 : Int32)))] := (H.iconst (z := (2 : Int32)) at_303 (H.iload at_301 r181 rfl) rfl)
        by_cases h3 : (mode &&& (3 : Int32)) = (2 : Int32)
        · have r187 : W h166 1 19 307 #[.val (.long x), .second, .val (.int kr), .val (.int mode), .val (.ref pa), .val (.int (Int32.ofNat k)), .val (.long (x &&& (9223372036854775807 : Int64))), .second, .val (.int (mode &&& (3 : Int32))), .unset, .unset, .unset, .unset, .unset] [] := (H.icmpNo at_304 r186 (teq h3).2)
          have r189 : W h166 1 19 311 #[.val (.long x), .second, .val (.int kr), .val (.int mode), .val (.ref pa), .val (.int (Int32.ofNat k)), .val (.long (x &&& (9223372036854775807 : Int64))), .second, .val (.int (mode &&& (3 : Int32))), .unset, .unset, .unset, .unset, .unset] [(.int (Int32.ofNat k)), (.ref pa)] := (H.iload at_309 (H.aload at_307 r187 rfl rfl) rfl)
          have r190 : W h166 1 19 312 #[.val (.long x), .second, .val (.int kr), .val (.int mode), .val (.ref pa), .val (.int (Int32.ofNat k)), .val (.long (x &&& (9223372036854775807 : Int64))), .second, .val (.int (mode &&& (3 : Int32))), .unset, .unset, .unset, .unset, .unset] [(.long (own_pw k))] := H.ldJ (i := k) (v := (.long (own_pw k))) A168 (own_ofNat (by omega)) (own_pws k hk) at_311 r189
          have r191 : W h166 1 19 316 #[.val (.long x), .second, .val (.int kr), .val (.int mode), .val (.ref pa), .val (.int (Int32.ofNat k)), .val (.long (x &&& (9223372036854775807 : Int64))), .second, .val (.int (mode &&& (3 : Int32))), .val (.long ((own_pw k) - (1 : Int64))), .second, .unset, .unset, .unset] [] := (H.lstore at_314 (H.lsub at_313 (H.lconst (z := (1 : Int64)) at_312 r190 rfl)) rfl)
          have r192 : W h166 1 19 329 #[.val (.long x), .second, .val (.int kr), .val (.int mode), .val (.ref pa), .val (.int (Int32.ofNat k)), .val (.long (x &&& (9223372036854775807 : Int64))), .second, .val (.int (mode &&& (3 : Int32))), .val (.long ((own_pw k) - (1 : Int64))), .second, .unset, .unset, .unset] [] := (H.goto (pc' := 329) at_316 r191 (by decide) (by decide))
          exact ⟨_, r192⟩
        · have r188 : W h166 1 19 319 #[.val (.long x), .second, .val (.int kr), .val (.int mode), .val (.ref pa), .val (.int (Int32.ofNat k)), .val (.long (x &&& (9223372036854775807 : Int64))), .second, .val (.int (mode &&& (3 : Int32))), .unset, .unset, .unset, .unset, .unset] [] := (H.icmpYes (pc' := 319) at_304 r186 (by decide) (by decide) (feq h3).2)
          have r193 : W h166 1 19 325 #[.val (.long x), .second, .val (.int kr), .val (.int mode), .val (.ref pa), .val (.int (Int32.ofNat k)), .val (.long (x &&& (9223372036854775807 : Int64))), .second, .val (.int (mode &&& (3 : Int32))), .unset, .unset, .unset, .unset, .unset] [(.int (Int32.ofNat k)), (.ref pa), (.long (x &&& (9223372036854775807 : Int64)))] := (H.iload at_323 (H.aload at_321 (H.lload at_319 r188 rfl) rfl rfl) rfl)
          have r194 : W h166 1 19 326 #[.val (.long x), .second, .val (.int kr), .val (.int mode), .val (.ref pa), .val (.int (Int32.ofNat k)), .val (.long (x &&& (9223372036854775807 : Int64))), .second, .val (.int (mode &&& (3 : Int32))), .unset, .unset, .unset, .unset, .unset] [(.long (own_pw k)), (.long (x &&& (9223372036854775807 : Int64)))] := H.ldJ (i := k) (v := (.long (own_pw k))) A168 (own_ofNat (by omega)) (own_pws k hk) at_325 r193
          have r195 : W h166 1 19 329 #[.val (.long x), .second, .val (.int kr), .val (.int mode), .val (.ref pa), .val (.int (Int32.ofNat k)), .val (.long (x &&& (9223372036854775807 : Int64))), .second, .val (.int (mode &&& (3 : Int32))), .val (.long ((x &&& (9223372036854775807 : Int64)) % (own_pw k))), .second, .unset, .unset, .unset] [] := (H.lstore at_327 (H.lrem at_326 r194 (own_pw_ne k hk)) rfl)
          exact ⟨_, r195⟩
  obtain ⟨q, rJ⟩ := rJ
  have r196 : W h166 1 19 331 #[.val (.long x), .second, .val (.int kr), .val (.int mode), .val (.ref pa), .val (.int (Int32.ofNat k)), .val (.long (x &&& (9223372036854775807 : Int64))), .second, .val (.int (mode &&& (3 : Int32))), .val (.long q), .second, .unset, .unset, .unset] [(.long q)] := (H.lload at_329 rJ rfl)
  obtain ⟨_, hq, ⟨d, rfl, g1, g2, g3, g4, eh⟩, r197⟩ := H.callS (w := 0) (argsL := [(.long q)]) (rest := []) (hw _ (List.mem_of_getElem? (i := 4) rfl)) (hw _ (List.mem_of_getElem? (i := 5) rfl)) (hw _ (List.mem_of_getElem? (i := 6) rfl)) (hw _ (List.mem_of_getElem? (i := 7) rfl)) (by decide) pd_0 (by decide) (by decide) (by decide) (by decide) (dig_ct hw q h166 n0) rfl rfl (Nat.le_of_eq rfl) rfl at_331 r196
  replace r197 : W hq 1 19 334 #[.val (.long x), .second, .val (.int kr), .val (.int mode), .val (.ref pa), .val (.int (Int32.ofNat k)), .val (.long (x &&& (9223372036854775807 : Int64))), .second, .val (.int (mode &&& (3 : Int32))), .val (.long q), .second, .unset, .unset, .unset] [(.int (Int32.ofNat d))] := r197
  rw [eh] at r197
  have r198 : W h166 1 19 336 #[.val (.long x), .second, .val (.int kr), .val (.int mode), .val (.ref pa), .val (.int (Int32.ofNat k)), .val (.long (x &&& (9223372036854775807 : Int64))), .second, .val (.int (mode &&& (3 : Int32))), .val (.long q), .second, .val (.int (Int32.ofNat d)), .unset, .unset] [] := (H.istore at_334 r197 rfl)
  have r199 : W h166 1 19 342 #[.val (.long x), .second, .val (.int kr), .val (.int mode), .val (.ref pa), .val (.int (Int32.ofNat k)), .val (.long (x &&& (9223372036854775807 : Int64))), .second, .val (.int (mode &&& (3 : Int32))), .val (.long q), .second, .val (.int (Int32.ofNat d)), .unset, .unset] [] := (H.icmpNo at_339 (H.iconst (z := (1 : Int32)) at_338 (H.iload at_336 r198 rfl) rfl) (flt (fun u => absurd ((own_ltN (j := 1) (by omega) (by omega)).mp u) (by omega))).1)
  have r200 : W h166 1 19 351 #[.val (.long x), .second, .val (.int kr), .val (.int mode), .val (.ref pa), .val (.int (Int32.ofNat k)), .val (.long (x &&& (9223372036854775807 : Int64))), .second, .val (.int (mode &&& (3 : Int32))), .val (.long q), .second, .val (.int (Int32.ofNat d)), .unset, .unset] [] := (H.icmpYes (pc' := 351) at_346 (H.bipush (z := (19 : Int32)) at_344 (H.iload at_342 r199 rfl) rfl) (by decide) (by decide) (flt (fun u => absurd ((own_ltN (i := 19) (by omega) (by omega)).mp u) (by omega))).2.2.2)
  have r201 : W h166 1 19 354 #[.val (.long x), .second, .val (.int kr), .val (.int mode), .val (.ref pa), .val (.int (Int32.ofNat k)), .val (.long (x &&& (9223372036854775807 : Int64))), .second, .val (.int (mode &&& (3 : Int32))), .val (.long q), .second, .val (.int (Int32.ofNat d)), .unset, .unset] [(.int (1 : Int32)), (.int (Int32.ofNat d))] := (H.iconst (z := (1 : Int32)) at_353 (H.iload at_351 r200 rfl) rfl)
  have r209 : W h166 1 19 375 #[.val (.long x), .second, .val (.int kr), .val (.int mode), .val (.ref pa), .val (.int (Int32.ofNat k)), .val (.long (x &&& (9223372036854775807 : Int64))), .second, .val (.int (mode &&& (3 : Int32))), .val (.long q), .second, .val (.int (Int32.ofNat d)), .unset, .unset] [(.int (1 : Int32))] := by
    by_cases h5 : (Int32.ofNat d) = (1 : Int32)
    · have r202 : W h166 1 19 370 #[.val (.long x), .second, .val (.int kr), .val (.int mode), .val (.ref pa), .val (.int (Int32.ofNat k)), .val (.long (x &&& (9223372036854775807 : Int64))), .second, .val (.int (mode &&& (3 : Int32))), .val (.long q), .second, .val (.int (Int32.ofNat d)), .unset, .unset] [] := (H.icmpYes (pc' := 370) at_354 r201 (by decide) (by decide) (teq h5).1)
      have r207 : W h166 1 19 375 #[.val (.long x), .second, .val (.int kr), .val (.int mode), .val (.ref pa), .val (.int (Int32.ofNat k)), .val (.long (x &&& (9223372036854775807 : Int64))), .second, .val (.int (mode &&& (3 : Int32))), .val (.long q), .second, .val (.int (Int32.ofNat d)), .unset, .unset] [(.int (1 : Int32))] := (H.goto (pc' := 375) at_371 (H.iconst (z := (1 : Int32)) at_370 r202 rfl) (by decide) (by decide))
      first | (simp only [if_pos h5]; exact r207) | exact r207 | (simp only [if_pos h5] at r207 ⊢; exact r207)
    · have r203 : W h166 1 19 357 #[.val (.long x), .second, .val (.int kr), .val (.int mode), .val (.ref pa), .val (.int (Int32.ofNat k)), .val (.long (x &&& (9223372036854775807 : Int64))), .second, .val (.int (mode &&& (3 : Int32))), .val (.long q), .second, .val (.int (Int32.ofNat d)), .unset, .unset] [] := (H.icmpNo at_354 r201 (feq h5).1)
      have hd1 : d ≠ 1 := fun u => h5 (by rw [u]; rfl)
      have r204 : W h166 1 19 365 #[.val (.long x), .second, .val (.int kr), .val (.int mode), .val (.ref pa), .val (.int (Int32.ofNat k)), .val (.long (x &&& (9223372036854775807 : Int64))), .second, .val (.int (mode &&& (3 : Int32))), .val (.long q), .second, .val (.int (Int32.ofNat d)), .unset, .unset] [(.int ((Int32.ofNat d) - (1 : Int32))), (.ref pa), (.long q)] := (H.isub at_364 (H.iconst (z := (1 : Int32)) at_363 (H.iload at_361 (H.aload at_359 (H.lload at_357 r203 rfl) rfl rfl) rfl) rfl))
      have r205 : W h166 1 19 366 #[.val (.long x), .second, .val (.int kr), .val (.int mode), .val (.ref pa), .val (.int (Int32.ofNat k)), .val (.long (x &&& (9223372036854775807 : Int64))), .second, .val (.int (mode &&& (3 : Int32))), .val (.long q), .second, .val (.int (Int32.ofNat d)), .unset, .unset] [(.long (own_pw (d - 1))), (.long q)] := H.ldJ (i := (d - 1)) (v := (.long (own_pw (d - 1)))) A168 (own_pred (by omega) (by omega)) (own_pws (d - 1) (by omega)) at_365 r204
      have r206 : W h166 1 19 370 #[.val (.long x), .second, .val (.int kr), .val (.int mode), .val (.ref pa), .val (.int (Int32.ofNat k)), .val (.long (x &&& (9223372036854775807 : Int64))), .second, .val (.int (mode &&& (3 : Int32))), .val (.long q), .second, .val (.int (Int32.ofNat d)), .unset, .unset] [] := (H.ifNo at_367 (H.lcmp at_366 r205) (flt (fun u => (g3.resolve_left hd1) ((lw_lt _ _).mp u))).1)
      have r208 : W h166 1 19 375 #[.val (.long x), .second, .val (.int kr), .val (.int mode), .val (.ref pa), .val (.int (Int32.ofNat k)), .val (.long (x &&& (9223372036854775807 : Int64))), .second, .val (.int (mode &&& (3 : Int32))), .val (.long q), .second, .val (.int (Int32.ofNat d)), .unset, .unset] [(.int (1 : Int32))] := (H.goto (pc' := 375) at_371 (H.iconst (z := (1 : Int32)) at_370 r206 rfl) (by decide) (by decide))
      first | (simp only [if_neg h5]; exact r208) | exact r208 | (simp only [if_neg h5] at r208 ⊢; exact r208)
  have r210 : W h166 1 19 377 #[.val (.long x), .second, .val (.int kr), .val (.int mode), .val (.ref pa), .val (.int (Int32.ofNat k)), .val (.long (x &&& (9223372036854775807 : Int64))), .second, .val (.int (mode &&& (3 : Int32))), .val (.long q), .second, .val (.int (Int32.ofNat d)), .val (.int (1 : Int32)), .unset] [] := (H.istore at_375 r209 rfl)
  have r211 : W h166 1 19 381 #[.val (.long x), .second, .val (.int kr), .val (.int mode), .val (.ref pa), .val (.int (Int32.ofNat k)), .val (.long (x &&& (9223372036854775807 : Int64))), .second, .val (.int (mode &&& (3 : Int32))), .val (.long q), .second, .val (.int (Int32.ofNat d)), .val (.int (1 : Int32)), .unset] [(.int (19 : Int32)), (.int (Int32.ofNat d))] := (H.bipush (z := (19 : Int32)) at_379 (H.iload at_377 r210 rfl) rfl)
  have r219 : W h166 1 19 400 #[.val (.long x), .second, .val (.int kr), .val (.int mode), .val (.ref pa), .val (.int (Int32.ofNat k)), .val (.long (x &&& (9223372036854775807 : Int64))), .second, .val (.int (mode &&& (3 : Int32))), .val (.long q), .second, .val (.int (Int32.ofNat d)), .val (.int (1 : Int32)), .unset] [(.int (1 : Int32))] := by
    by_cases h6 : (Int32.ofNat d) = (19 : Int32)
    · have r212 : W h166 1 19 395 #[.val (.long x), .second, .val (.int kr), .val (.int mode), .val (.ref pa), .val (.int (Int32.ofNat k)), .val (.long (x &&& (9223372036854775807 : Int64))), .second, .val (.int (mode &&& (3 : Int32))), .val (.long q), .second, .val (.int (Int32.ofNat d)), .val (.int (1 : Int32)), .unset] [] := (H.icmpYes (pc' := 395) at_381 r211 (by decide) (by decide) (teq h6).1)
      have r217 : W h166 1 19 400 #[.val (.long x), .second, .val (.int kr), .val (.int mode), .val (.ref pa), .val (.int (Int32.ofNat k)), .val (.long (x &&& (9223372036854775807 : Int64))), .second, .val (.int (mode &&& (3 : Int32))), .val (.long q), .second, .val (.int (Int32.ofNat d)), .val (.int (1 : Int32)), .unset] [(.int (1 : Int32))] := (H.goto (pc' := 400) at_396 (H.iconst (z := (1 : Int32)) at_395 r212 rfl) (by decide) (by decide))
      first | (simp only [if_pos h6]; exact r217) | exact r217 | (simp only [if_pos h6] at r217 ⊢; exact r217)
    · have r213 : W h166 1 19 384 #[.val (.long x), .second, .val (.int kr), .val (.int mode), .val (.ref pa), .val (.int (Int32.ofNat k)), .val (.long (x &&& (9223372036854775807 : Int64))), .second, .val (.int (mode &&& (3 : Int32))), .val (.long q), .second, .val (.int (Int32.ofNat d)), .val (.int (1 : Int32)), .unset] [] := (H.icmpNo at_381 r211 (feq h6).1)
      have hd19 : d ≠ 19 := fun u => h6 (by rw [u]; rfl)
      have r214 : W h166 1 19 390 #[.val (.long x), .second, .val (.int kr), .val (.int mode), .val (.ref pa), .val (.int (Int32.ofNat k)), .val (.long (x &&& (9223372036854775807 : Int64))), .second, .val (.int (mode &&& (3 : Int32))), .val (.long q), .second, .val (.int (Int32.ofNat d)), .val (.int (1 : Int32)), .unset] [(.int (Int32.ofNat d)), (.ref pa), (.long q)] := (H.iload at_388 (H.aload at_386 (H.lload at_384 r213 rfl) rfl rfl) rfl)
      have r215 : W h166 1 19 391 #[.val (.long x), .second, .val (.int kr), .val (.int mode), .val (.ref pa), .val (.int (Int32.ofNat k)), .val (.long (x &&& (9223372036854775807 : Int64))), .second, .val (.int (mode &&& (3 : Int32))), .val (.long q), .second, .val (.int (Int32.ofNat d)), .val (.int (1 : Int32)), .unset] [(.long (own_pw d)), (.long q)] := H.ldJ (i := d) (v := (.long (own_pw d))) A168 (own_ofNat (by omega)) (own_pws d (by omega)) at_390 r214
      have r216 : W h166 1 19 395 #[.val (.long x), .second, .val (.int kr), .val (.int mode), .val (.ref pa), .val (.int (Int32.ofNat k)), .val (.long (x &&& (9223372036854775807 : Int64))), .second, .val (.int (mode &&& (3 : Int32))), .val (.long q), .second, .val (.int (Int32.ofNat d)), .val (.int (1 : Int32)), .unset] [] := (H.ifNo at_392 (H.lcmp at_391 r215) (tlt ((lw_lt _ _).mpr (g4.resolve_left hd19))).2.1)
      have r218 : W h166 1 19 400 #[.val (.long x), .second, .val (.int kr), .val (.int mode), .val (.ref pa), .val (.int (Int32.ofNat k)), .val (.long (x &&& (9223372036854775807 : Int64))), .second, .val (.int (mode &&& (3 : Int32))), .val (.long q), .second, .val (.int (Int32.ofNat d)), .val (.int (1 : Int32)), .unset] [(.int (1 : Int32))] := (H.goto (pc' := 400) at_396 (H.iconst (z := (1 : Int32)) at_395 r216 rfl) (by decide) (by decide))
      first | (simp only [if_neg h6]; exact r218) | exact r218 | (simp only [if_neg h6] at r218 ⊢; exact r218)
  have r220 : W h166 1 19 402 #[.val (.long x), .second, .val (.int kr), .val (.int mode), .val (.ref pa), .val (.int (Int32.ofNat k)), .val (.long (x &&& (9223372036854775807 : Int64))), .second, .val (.int (mode &&& (3 : Int32))), .val (.long q), .second, .val (.int (Int32.ofNat d)), .val (.int (1 : Int32)), .val (.int (1 : Int32))] [] := (H.istore at_400 r219 rfl)
  have r221 : W h166 1 19 407 #[.val (.long x), .second, .val (.int kr), .val (.int mode), .val (.ref pa), .val (.int (Int32.ofNat k)), .val (.long (x &&& (9223372036854775807 : Int64))), .second, .val (.int (mode &&& (3 : Int32))), .val (.long q), .second, .val (.int (Int32.ofNat d)), .val (.int (1 : Int32)), .val (.int (1 : Int32))] [] := (H.ifNo at_404 (H.iload at_402 r220 rfl) (feq (by decide)).1)
  have r222 : W h166 1 19 412 #[.val (.long x), .second, .val (.int kr), .val (.int mode), .val (.ref pa), .val (.int (Int32.ofNat k)), .val (.long (x &&& (9223372036854775807 : Int64))), .second, .val (.int (mode &&& (3 : Int32))), .val (.long q), .second, .val (.int (Int32.ofNat d)), .val (.int (1 : Int32)), .val (.int (1 : Int32))] [] := (H.ifNo at_409 (H.iload at_407 r221 rfl) (feq (by decide)).1)
  have r223 : W h166 1 19 417 #[.val (.long x), .second, .val (.int kr), .val (.int mode), .val (.ref pa), .val (.int (Int32.ofNat k)), .val (.long (x &&& (9223372036854775807 : Int64))), .second, .val (.int (mode &&& (3 : Int32))), .val (.long q), .second, .val (.int (Int32.ofNat d)), .val (.int (1 : Int32)), .val (.int (1 : Int32))] [(.int (1 : Int32))] := (H.goto (pc' := 417) at_413 (H.iconst (z := (1 : Int32)) at_412 r222 rfl) (by decide) (by decide))
  exact ⟨_, _, H.retZ rfl rfl (by decide) (by decide) at_417 r223, rfl⟩
set_option maxRecDepth 65536 in
set_option maxHeartbeats 40000000 in
theorem comes_1 {Post : Tables → Env → Array Value → State → Outcome → State → Prop} (hpost : ∀ tb e args s v u, (limb_1_1.after args s (.returned v) u = true ∧ limb_1_2.after args s (.returned v) u = true ∧ True) → FrameEnd s (.returned v) u (Jvm.fieldLocs frame_1_writes args s ++ Jvm.arrayLocs frame_1_arrays args s ++ Jvm.staticLocs frame_1_statics s) 16 128 → Post tb e args s (.returned v) u) :
    ArmFor flags0 classFile x code maxLocals ret World_1 tables_1 room_1 Calls_1 rest_1 Pre_1 Post := by
  intro l hfl _ _ p e ha hc hk s m args below hf hA hF happ hP
  obtain ⟨hcalls, hrest, hpre⟩ := hP
  obtain ⟨-, -, -, hnamed, -, -, -, hat⟩ := (Spec.applies_iff hf).mp happ
  obtain ⟨hg, hn⟩ := and_e (Cond.before_iff.mp (show (Jvm.Cond.and given_1 narrow_1).before args s = true from hpre))
  obtain ⟨hcnt, hg0⟩ := and_e hg
  obtain ⟨ha0, hg1⟩ := and_e hg0
  obtain ⟨ha1, hg2⟩ := and_e hg1
  obtain ⟨w0, w1, w2, rfl⟩ : ∃ w0 w1 w2 : Value, args = #[w0, w1, w2] := by
    have hs : args.size = 3 := by simpa [Cond.value, given_1] using hcnt
    obtain ⟨L⟩ := args
    match L, hs with
    | [w0, w1, w2], _ => exact ⟨w0, w1, w2, rfl⟩
  have hw := fun d (hd : d ∈ tables_1) => atoms_spec (ws := Jvm.Cond.code x code maxLocals ret :: tables_1) hat d (List.mem_cons_of_mem _ hd)
  have hfit : Fit s := fun {y c} hc i hi => by
    obtain ⟨ha, rfl⟩ := Array.getElem?_eq_some_iff.mp hc
    have q := List.all_eq_true.mp ((Array.all_eq_true_iff_forall_mem.mp hF) _ (Array.getElem_mem ha)) i (List.mem_range.mpr hi)
    simpa [Array.getElem?_eq_getElem hi] using q
  obtain ⟨i0, ei0⟩ := isL_v ha0
  obtain rfl : w0 = (.long i0) := Option.some.inj ei0
  obtain ⟨i1, ei1⟩ := is_v ha1
  obtain rfl : w1 = (.int i1) := Option.some.inj ei1
  obtain ⟨i2, ei2⟩ := is_v hg2
  obtain rfl : w2 = (.int i2) := Option.some.inj ei2
  obtain ⟨n, o, h1, h2, h3, _, L, rfl, ⟨rfl, N⟩, hq⟩ := law_ct (l := l) hw i0 i1 i2  s.heap s.heap.size (Nat.le_refl _) tables_1 p e ha hc hk s m _ below hf ((Spec.applies_iff_loose hf).mp happ).1 ⟨rfl, State.Warmed39.refl s, rfl⟩ trivial
  refine ⟨n, _, h1, h2, h3, hpost _ _ _ _ _ _ ⟨Cond.after_iff.mpr rfl, Cond.after_iff.mpr (eq_i res_at (Term.int_eval (1)) rfl), trivial⟩ ⟨hq.1, hq.2.1, (hq.2.2.sift fun y hy => Or.inr (N y hy)).mono (by decide) (by decide)⟩⟩
theorem main_1_1 : Claimed_1_1 := comes_1 fun _ _ _ _ _ _ h hF => ⟨h.1, hF⟩
theorem main_1_2 : Claimed_1_2 := comes_1 fun _ _ _ _ _ _ h hF => ⟨h.2.1, hF⟩
end Jvm.Pilot.@@N@@
namespace Jvm.Pilot.@@N@@
open Jvm Jvm.ClassFile Sem Op Lib Jvm.Free Jvm.Stand Jvm.Pilot.@@N@@.Jvm.D
/-! MADE BY PROGRAM (witnessworld.py) out of the Statement's table words and the real class files: 11 classes; the members and pool entries that the words name. The judged class is class 1, her method 1. -/
namespace start1
open Jvm.ClassFile
def u (s : String) : CpInfo := .utf8 (stringToUtf16 s)
/-- a pool by its gaps: so many unusable entries, then the entry; so many at the end -/
def gap : Nat → List CpInfo → List CpInfo
  | 0, r => r
  | n + 1, r => .unusable :: gap n r
def poolList (es : List (Nat × CpInfo)) (last : Nat) : List CpInfo := es.foldr (fun e r => gap e.1 (e.2 :: r)) (gap last [])
def pool (es : List (Nat × CpInfo)) (last : Nat) : Array CpInfo := ⟨poolList es last⟩
def fileOf (pool : Array CpInfo) (this : Nat) (attrs : Array Attribute := #[]) (ms : Array MethodInfo := #[]) (fl : Nat := 33) (sup : Nat := 0) (ifs : Array Nat := #[]) (fds : Array FieldInfo := #[]) : ClassFile where
  minorVersion := 0
  majorVersion := 65
  constantPool := pool
  accessFlags := fl
  thisClass := this
  superClass := sup
  interfaces := ifs
  fields := fds
  methods := ms
  attributes := attrs
def plain (name : String) (sup : Option ClassId) : Class where
  name := name
  kind := .ordinary
  loader := none
  accessFlags := 33
  super := sup
  interfaces := #[]
  cf := none
  fields := #[]
  methods := #[]
  instanceTypes := #[]
  staticTypes := #[]
  resolved := #[]
  callSites := []
  init := .initialized
  statics := none
  mirror := none

def pool0 : Array CpInfo := pool [(5, u "<init>"), (0, u "()V"), (1, .class_ 10), (1, u "java/lang/Object")] 113

def k0m0 : Method := { name := "<init>", desc := "()V", sig := { parameters := [], returnType := none }, accessFlags := 1, code := none }
/-- java/lang/Object -/
def k0 : Class := { plain "java/lang/Object" none with
  accessFlags := 33
  interfaces := #[]
  cf := some (fileOf pool0 8 #[] #[{ accessFlags := 1, nameIndex := 5, descriptorIndex := 6, attributes := #[] }] 33 0 #[] #[])
  fields := #[]
  methods := #[k0m0]
  instanceTypes := #[]
  staticTypes := #[]
  resolved := Array.replicate 124 none
  statics := none }

def pool1 : Array CpInfo := pool [(2, .class_ 4), (1, u "java/lang/Object"), (0, u "<init>"), (0, u "()V"), (0, .long 10), (1, .integer 2147483647), (2, .long 9223372036854775807), (1, .methodref 15 16), (0, .class_ 17), (0, .nameAndType 18 19), (0, u "io/tagwire/codec/Decimal"), (0, u "digits"), (0, u "(J)I"), (0, .class_ 21), (0, u "io/tagwire/codec/DecimalDigitsPinLaw"), (2, u "law"), (0, u "(JII)Z")] 5

def k1m0 : Method := { name := "<init>", desc := "()V", sig := { parameters := [], returnType := none }, accessFlags := 1, code := none }
def k1c1 : Code := { maxStack := 6, maxLocals := 14, code := code, exceptionTable := #[], attributes := #[] }
def k1m1 : Method := { name := "law", desc := "(JII)Z", sig := { parameters := [.long, .int, .int], returnType := some .boolean }, accessFlags := 9, code := some k1c1 }
/-- io/tagwire/codec/DecimalDigitsPinLaw -/
def k1 : Class := { plain "io/tagwire/codec/DecimalDigitsPinLaw" (some 0) with
  accessFlags := 49
  interfaces := #[]
  cf := some (fileOf pool1 20 #[] #[{ accessFlags := 1, nameIndex := 5, descriptorIndex := 6, attributes := #[] }, { accessFlags := 9, nameIndex := 24, descriptorIndex := 25, attributes := #[] }] 49 2 #[] #[])
  fields := #[]
  methods := #[k1m0, k1m1]
  instanceTypes := #[]
  staticTypes := #[]
  resolved := Array.replicate 31 none
  statics := none }

def pool2 : Array CpInfo := pool [(2, .class_ 4), (1, u "java/lang/Object"), (0, u "<init>"), (0, u "()V"), (0, .long 10), (1, .class_ 10), (0, u "io/tagwire/codec/Decimal"), (8, u "ONES"), (0, u "[B"), (2, u "TENS"), (0, u "MAX_DIGITS"), (0, u "I"), (4, u "digits"), (0, u "(J)I")] 6

def k2m0 : Method := { name := "<init>", desc := "()V", sig := { parameters := [], returnType := none }, accessFlags := 2, code := none }
def k2c1 : Code := { maxStack := 4, maxLocals := 5, code := prog_20_method_2_code, exceptionTable := #[], attributes := #[] }
def k2m1 : Method := { name := "digits", desc := "(J)I", sig := { parameters := [.long], returnType := some .int }, accessFlags := 9, code := some k2c1 }
/-- io/tagwire/codec/Decimal -/
def k2 : Class := { plain "io/tagwire/codec/Decimal" (some 0) with
  accessFlags := 49
  interfaces := #[]
  cf := some (fileOf pool2 9 #[] #[{ accessFlags := 2, nameIndex := 5, descriptorIndex := 6, attributes := #[] }, { accessFlags := 9, nameIndex := 30, descriptorIndex := 31, attributes := #[] }] 49 2 #[] #[{ accessFlags := 26, nameIndex := 24, descriptorIndex := 25, attributes := #[] }, { accessFlags := 26, nameIndex := 23, descriptorIndex := 20, attributes := #[] }, { accessFlags := 26, nameIndex := 19, descriptorIndex := 20, attributes := #[] }])
  fields := #[{ name := "MAX_DIGITS", type := .int, accessFlags := 26, slot := 0, constantValue := 0 }, { name := "TENS", type := (.array .byte), accessFlags := 26, slot := 1, constantValue := 0 }, { name := "ONES", type := (.array .byte), accessFlags := 26, slot := 2, constantValue := 0 }]
  methods := #[k2m0, k2m1]
  instanceTypes := #[]
  staticTypes := #[.int, (.array .byte), (.array .byte)]
  resolved := Array.replicate 38 none
  statics := none }

def pool3 : Array CpInfo := pool [(1, u "java/lang/Cloneable"), (0, .class_ 1), (0, u "java/lang/Object"), (0, .class_ 3)] 3

/-- java/lang/Cloneable -/
def k3 : Class := { plain "java/lang/Cloneable" (some 0) with
  accessFlags := 1537
  interfaces := #[]
  cf := some (fileOf pool3 2 #[] #[] 1537 4 #[] #[])
  fields := #[]
  methods := #[]
  instanceTypes := #[]
  staticTypes := #[]
  resolved := Array.replicate 8 none
  statics := none }

def pool4 : Array CpInfo := pool [(1, u "java/io/Serializable"), (0, .class_ 1), (0, u "java/lang/Object"), (0, .class_ 3)] 3

/-- java/io/Serializable -/
def k4 : Class := { plain "java/io/Serializable" (some 0) with
  accessFlags := 1537
  interfaces := #[]
  cf := some (fileOf pool4 2 #[] #[] 1537 4 #[] #[])
  fields := #[]
  methods := #[]
  instanceTypes := #[]
  staticTypes := #[]
  resolved := Array.replicate 8 none
  statics := none }

/-- the primitive byte -/
def k5 : Class := { plain "byte" none with kind := .primitive 'B', accessFlags := 0x411 }
/-- [B -/
def k6 : Class := { plain "[B" (some 0) with kind := .array 5 .byte, interfaces := #[3, 4], accessFlags := 1041 }

/-- the primitive int -/
def k7 : Class := { plain "int" none with kind := .primitive 'I', accessFlags := 0x411 }
/-- [I -/
def k8 : Class := { plain "[I" (some 0) with kind := .array 7 .int, interfaces := #[3, 4], accessFlags := 1041 }

/-- the primitive long -/
def k9 : Class := { plain "long" none with kind := .primitive 'J', accessFlags := 0x411 }
/-- [J -/
def k10 : Class := { plain "[J" (some 0) with kind := .array 9 .long, interfaces := #[3, 4], accessFlags := 1041 }

def heap : Heap := #[]
def classes : Array Class := #[k0, k1, k2, k3, k4, k5, k6, k7, k8, k9, k10]
def interned : List (Array UInt16 × Addr) := []
def slotsUsed : Nat := 0
def theMethod : MethodId := ⟨1, 1⟩
def args0 : Array Value := #[.long 5, .int 2, .int 3]
def aboutOver (below : List Frame) : State where
  vm := { classes := classes, interned := interned.toArray }
  heap := heap
  slotsUsed := slotsUsed
  threads := #[{ frames := .invoking theMethod args0 :: below }]
def below0 : List Frame := [.native { method := ⟨0, 0⟩, args := #[] }]
def about1 : State := aboutOver below0
def p0 : Program := .bare "" "" ""
def e0 : Env := launch0.env 0 0 0
theorem w_frames : about1.frames = Frame.invoking theMethod args0 :: below0 := rfl
set_option maxRecDepth 65536 in
theorem w_args : argsFit about1.vm theMethod args0 = true := by decide +kernel
set_option maxRecDepth 65536 in
theorem w_heap : heapFits about1 = true := by decide +kernel
set_option maxRecDepth 65536 in
theorem w_runnable : about1.curStatus? = some .runnable := by decide +kernel
set_option maxRecDepth 65536 in
theorem w_alone : about1.alone = true := by decide +kernel
set_option maxRecDepth 65536 in
theorem w_named : about1.methodNamed? x = some theMethod := by decide +kernel
set_option maxRecDepth 65536 in
theorem w_hears : about1.hears theMethod below0 = true := by decide +kernel
set_option maxRecDepth 65536 in
theorem w_ripe : about1.ripe theMethod args0 below0 = true := by decide +kernel
theorem w_running : about1.status = .running := rfl
set_option maxRecDepth 65536 in
theorem w_room : about1.hasRoom e0.platform room_1 = true :=
  launch0.hasRoom_least _ room_1 (by decide +kernel) (by decide +kernel) (by decide +kernel) (by decide +kernel) (by decide +kernel) (by decide +kernel)
theorem allAtoms_all (ts : List Jvm.Cond) (a : Array Jvm.Value) (st : Jvm.State) : (allAtoms ts).before a st = ts.all (fun c => c.before a st) := by
  induction ts with
  | nil => rfl
  | cons c t ih =>
    show (Jvm.Cond.and c (allAtoms t)).before a st = _
    rw [Jvm.Cond.before_and, ih, List.all_cons]
def words1 : List Jvm.Cond := Jvm.Cond.code x code maxLocals ret :: tables_1
/-- a 'code' word, met by the world's own term for the bytes: nothing is compared byte by byte -/
theorem code_word {y : MethodName} {bytes : ByteArray} {mx : Nat} {rt : Option FieldType} {a : Array Value} {s : State} {m : MethodId} {meth : Method} {c : Code} (h1 : s.methodNamed? y = some m) (h2 : s.vm.method? m = some meth) (h3 : meth.code = some c) (h4 : c.code = bytes)
    (h5 : (c.maxLocals == mx && c.exceptionTable.isEmpty && decide (c.maxStack ≤ mostOperands) && decide (meth.sig.returnType = rt) && !meth.locks && decide (parseMethodDescriptor y.desc = some meth.sig)) = true) : (Jvm.Cond.code y bytes mx rt).before a s = true := by
  simp only [Bool.and_eq_true, beq_iff_eq, Bool.not_eq_true', decide_eq_true_eq] at h5
  obtain ⟨⟨⟨⟨⟨g1, g2⟩, g3⟩, g4⟩, g5⟩, g6⟩ := h5
  simp [Cond.before, Cond.holds, Cond.value, h1, h2, h3, h4, g1, g2, g3, g4, g5, g6]
def isCode : Jvm.Cond → Bool
  | .code _ _ _ _ => true
  | _ => false
theorem all_split {L : List Jvm.Cond} {P : Jvm.Cond → Bool} (h1 : L.all (fun c => isCode c || P c) = true) (h2 : ∀ c ∈ L.filter isCode, P c = true) : L.all P = true := by
  refine List.all_eq_true.mpr fun c hc => ?_
  have h := List.all_eq_true.mp h1 c hc
  rcases Bool.eq_false_or_eq_true (isCode c) with hi | hi
  · exact h2 c (List.mem_filter.mpr ⟨hc, hi⟩)
  · simpa [hi] using h
set_option maxRecDepth 65536 in
theorem w_c0 : (Jvm.Cond.code x code maxLocals ret).before args0 about1 = true := code_word (m := ⟨1, 1⟩) (meth := k1m1) (c := k1c1) (by decide +kernel) rfl rfl rfl (by decide +kernel)
set_option maxRecDepth 65536 in
theorem w_c1 : (Jvm.Cond.code ({ cls := "io/tagwire/codec/Decimal", name := "digits", desc := "(J)I" } : Jvm.MethodName) prog_20_method_2_code (5 : Nat) (Option.some Jvm.ClassFile.FieldType.int)).before args0 about1 = true := code_word (m := ⟨2, 1⟩) (meth := k2m1) (c := k2c1) (by decide +kernel) rfl rfl rfl (by decide +kernel)
def codes1 : List Jvm.Cond := [Jvm.Cond.code x code maxLocals ret, Jvm.Cond.code ({ cls := "io/tagwire/codec/Decimal", name := "digits", desc := "(J)I" } : Jvm.MethodName) prog_20_method_2_code (5 : Nat) (Option.some Jvm.ClassFile.FieldType.int)]
set_option maxRecDepth 65536 in
theorem codes_eq : words1.filter isCode = codes1 := rfl
theorem w_codes : ∀ c ∈ words1.filter isCode, c.before args0 about1 = true := by
  rw [codes_eq]
  intro c hc
  simp only [codes1, List.mem_cons, List.not_mem_nil, or_false] at hc
  rcases hc with rfl | rfl
  · exact w_c0
  · exact w_c1
set_option maxRecDepth 65536 in
theorem w_t1 : words1.all (fun c => isCode c || c.before args0 about1) = true := by decide +kernel
theorem w_tables : (allAtoms (Jvm.Cond.code x code maxLocals ret :: tables_1)).before args0 about1 = true := by
  rw [allAtoms_all]
  show words1.all (fun c => c.before args0 about1) = true
  refine all_split ?_ w_codes
  rw [w_t1]
set_option maxRecDepth 65536 in
theorem w_case : (Jvm.Cond.and given_1 narrow_1).before args0 about1 = true := by decide +kernel
theorem w_applies : (headSpec (Jvm.Cond.code x code maxLocals ret :: tables_1) room_1).applies x e0.platform about1 = true :=
  (Spec.applies_iff w_frames).mpr ⟨w_running, w_runnable, w_alone, w_named, w_hears, w_ripe, w_room, w_tables⟩
theorem atStart : AtStart classFile x code maxLocals ret World_1 tables_1 room_1 Calls_1 rest_1 Pre_1 launch0 p0 e0 about1 theMethod args0 below0 :=
  ⟨lists_1, trivial, launch0.admits_env _ _ _, launch0.least_env, fairChoices_fair.cas, fairChoices_fair.clock, w_frames, w_args, w_heap, w_applies, trivial, trivial, w_case⟩
end start1
theorem witness_1 : WitnessClaimed_1 := ⟨start1.p0, start1.e0, start1.about1, start1.theMethod, start1.args0, start1.below0, start1.atStart⟩
end Jvm.Pilot.@@N@@
