import JvmDerived
import JvmDerived.Pilot.@@N@@Statement
import JvmDerived.Pilot.@@N@@Code
set_option linter.unusedVariables false
set_option linter.unusedSimpArgs false
namespace Jvm.OwnW
open Jvm Jvm.ClassFile Sem Op Lib Jvm.Free Jvm.Stand Jvm.LawKit Jvm.RoadKit Bundle
/-- the walk stands at pc, over the heap h; k cells and n slots have come; nothing that stood at the start is written -/
def At0 (p : Program) (l : Launch) (e : Env) (R : Room) (s : State) (m : MethodId) (args : Array Value) (below : List Frame) (meth : Method) (c : Code) (n0 : Nat) (S0 : State) (h : Heap) (k n pc : Nat) (Ls : Array Slot) (st : List Value) : Prop :=
  ∃ (T : State) (locs : List Loc), Stand p l e R s m args below meth c T locs k n ∧ T.heap = h ∧ Fr n0 locs ∧ ∀ t, Steps p.tables e below (T.setTop (mkF m pc Ls st)) t → Steps p.tables e below S0 t
/-- the walk has returned v, over the heap h -/
def End0 (p : Program) (e : Env) (R : Room) (s : State) (below : List Frame) (n0 : Nat) (S0 : State) (v : Option Value) (h : Heap) : Prop :=
  ∃ (s₂ : State) (L : List Loc), Steps p.tables e below S0 s₂ ∧ s₂.status = .running ∧ Ended s₂ below (.returned v) ∧ s₂.heap = h ∧ Fr n0 L ∧ FrameEnd s (.returned v) s₂ L R.cells R.slots
abbrev WT := Heap → Nat → Nat → Nat → Array Slot → List Value → Prop
abbrev VT := Option Value → Heap → Prop
/-- W and V are of one walk of the body of y -/
def Wk (l : Launch) (Z : State) (y : MethodName) (code : ByteArray) (mx : Nat) (ret : Option FieldType) (R : Room) (n0 : Nat) (W : WT) (V : VT) : Prop :=
  ∃ (p : Program) (e : Env) (s : State) (m : MethodId) (args : Array Value) (below : List Frame) (meth : Method) (c : Code) (S0 : State),
    p.tables.exec = Jvm.exec ∧ c.code = code ∧ c.maxLocals = mx ∧ s.vm.findClass y.cls = some m.cls ∧ Z.Warmed39 s.vm ∧ meth.name = y.name ∧ meth.sig.returnType = ret ∧ meth.locks = false ∧
    W = At0 p l e R s m args below meth c n0 S0 ∧ V = End0 p e R s below n0 S0
/-- a contract: called with 'as' over the heap h the method returns v and leaves h' with Q v h' -/
def Ct (l : Launch) (Z : State) (y : MethodName) (bytes : ByteArray) (mx : Nat) (ret : Option FieldType) (rm : Room) (n0 : Nat) (as : Array Value) (h : Heap) (Q : Option Value → Heap → Prop) : Prop :=
  ∀ ws : List Jvm.Cond, MetFree l y (head1 (Jvm.Cond.code y bytes mx ret :: ws) rm) (fun a U => a = as ∧ Z.Warmed39 U.vm ∧ U.heap = h) (fun _ _ _ _ _ => True) (fun _ U o U' => ∃ v L, o = .returned v ∧ (Q v U'.heap ∧ Fr n0 L) ∧ FrameEnd U o U' L rm.cells rm.slots)
theorem Ct.of {l : Launch} {Z : State} {y : MethodName} {bytes : ByteArray} {mx : Nat} {ret : Option FieldType} {rm : Room} {n0 : Nat} {as : Array Value} {h : Heap} {Q : Option Value → Heap → Prop} {Ls : Array Slot} (hpn : plainFor y = true) (hef : ∀ m, entryFrame m as mx = mkF m 0 Ls [])
    (body : ∀ W V, Wk l Z y bytes mx ret rm n0 W V → W h 0 0 0 Ls [] → ∃ v h', V v h' ∧ Q v h') : Ct l Z y bytes mx ret rm n0 as h Q := by
  intro ws
  refine MetFree.of_bodySF hpn hisR ?_
  intro p e s m args below meth c s₁ Bd hml0 hP hK
  obtain ⟨rfl, hZ, hh⟩ := hP
  have X0 : Stand p l e rm s m args below meth c s₁ [] 0 0 := Stand.of_body Bd
  have e0 : s₁.heap = h := by rw [← hh, Bd.state]; rfl
  obtain ⟨v, h', ⟨s₂, L, g1, g2, g3, g4, g5, g6⟩, hQ⟩ := body _ _ ⟨p, e, s, m, args, below, meth, c, s₁.setTop (entryFrame m args mx), Bd.exec, Bd.bytes, hml0, findClass_of_methodNamed Bd.named, hZ, (name_of_methodNamed Bd.named Bd.method).1, Bd.returns, Bd.notSynchronized, rfl, rfl⟩
    ⟨s₁, [], X0, e0, Fr.nil n0, fun t k => castTop (hef m) k⟩
  exact ⟨s₂, _, g1, g2, g3, v, L, rfl, ⟨by rw [g4]; exact hQ, g5⟩, g6⟩
theorem Ct.imp {l : Launch} {Z : State} {y : MethodName} {bytes : ByteArray} {mx : Nat} {ret : Option FieldType} {rm : Room} {n0 : Nat} {as : Array Value} {h : Heap} {Q Q' : Option Value → Heap → Prop} (hM : Ct l Z y bytes mx ret rm n0 as h Q) (hi : ∀ v h', Q v h' → Q' v h') : Ct l Z y bytes mx ret rm n0 as h Q' := by
  intro ws p e ha hc hk s m args below hf happ hP hK
  obtain ⟨n, o, h1, h2, h3, v, L, g1, ⟨g2, g3⟩, g4⟩ := hM ws p e ha hc hk s m args below hf happ hP hK
  exact ⟨n, o, h1, h2, h3, v, L, g1, ⟨hi _ _ g2, g3⟩, g4⟩
/-- the class that declares z is no interface, by a word of the sheet -/
def NF (Z : State) (a0 : Array Value) (z : MethodName) : Prop := (∃ C z2, (Jvm.Cond.selects C z2 z2).before a0 Z = true ∧ z2.cls = z.cls) ∨ (∃ S, (Jvm.Cond.superclass z.cls S).before a0 Z = true) ∨ (Jvm.Cond.noSuperclass z.cls).before a0 Z = true
theorem NF.at {Z s : State} {a0 : Array Value} {z : MethodName} (hZ : Z.Warmed39 s.vm) (f : NF Z a0 z) : NotFace s z := by
  rcases f with ⟨C, z2, w, e⟩ | ⟨S, w⟩ | w
  · intro r0 h0
    obtain ⟨c2, r2, m2, q1, q2, q3, q4, kP, hkP, hkPi⟩ := Cond.selects_spec (mvT (args := #[]) hZ w)
    have a := findClass_of_methodNamed h0
    have b := findClass_of_methodNamed q3
    rw [e] at b
    have d : r0.cls = m2.cls := Option.some.inj (a.symm.trans b)
    exact ⟨kP, by rw [d]; exact hkP, hkPi⟩
  · exact nf_super (args := #[]) (mvT hZ w)
  · exact nf_top (args := #[]) (mvT hZ w)
section Steps
variable {l : Launch} {Z : State} {y : MethodName} {code : ByteArray} {mx : Nat} {ret : Option FieldType} {R : Room} {n0 : Nat} {W : WT} {V : VT} {h : Heap} {k n pc pc' : Nat} {Ls Ls' : Array Slot} {st st' : List Value} {a0 : Array Value}
/-- a plain step, by the library's law for it -/
theorem Wk.step (H : Wk l Z y code mx ret R n0 W V) (r : W h k n pc Ls st)
    (f : ∀ {tb : Tables} [Ours tb] {e : Env} {below : List Frame} {T t : State} {m : MethodId} {c : Code}, At T m c below → tb.exec = Jvm.exec → c.code = code → Steps tb e below (T.setTop (mkF m pc' Ls' st')) t → Steps tb e below (T.setTop (mkF m pc Ls st)) t) : W h k n pc' Ls' st' := by
  obtain ⟨p, e, s, m, args, below, meth, c, S0, hx, hby, hml, hown, hZ, hnm, hret, hlk, rfl, rfl⟩ := H
  obtain ⟨T, locs, X, eh, N, sp⟩ := r
  exact ⟨T, locs, X, eh, N, fun t q => sp t (f X.here hx hby q)⟩
/-- the account of cells and slots may be widened -/
theorem Wk.more (H : Wk l Z y code mx ret R n0 W V) {k' n' : Nat} (hk : k ≤ k') (hn : n ≤ n') (r : W h k n pc Ls st) : W h k' n' pc Ls st := by
  obtain ⟨p, e, s, m, args, below, meth, c, S0, hx, hby, hml, hown, hZ, hnm, hret, hlk, rfl, rfl⟩ := H
  obtain ⟨T, locs, X, eh, N, sp⟩ := r
  exact ⟨T, locs, X.mono hk hn, eh, N, sp⟩
/-- a step that reads the tables or the heap -/
theorem Wk.stepX (H : Wk l Z y code mx ret R n0 W V) (r : W h k n pc Ls st)
    (f : ∀ {p : Program} {e : Env} {s : State} {m : MethodId} {args : Array Value} {below : List Frame} {meth : Method} {c : Code} {T : State} {locs : List Loc}, Stand p l e R s m args below meth c T locs k n → p.tables.exec = Jvm.exec → c.code = code → c.maxLocals = mx → s.vm.findClass y.cls = some m.cls → Z.Warmed39 s.vm → T.heap = h → ∃ T', Stand p l e R s m args below meth c T' locs k n ∧ T'.heap = h ∧ ∀ t, Steps p.tables e below (T'.setTop (mkF m pc' Ls' st')) t → Steps p.tables e below (T.setTop (mkF m pc Ls st)) t) : W h k n pc' Ls' st' := by
  obtain ⟨p, e, s, m, args, below, meth, c, S0, hx, hby, hml, hown, hZ, hnm, hret, hlk, rfl, rfl⟩ := H
  obtain ⟨T, locs, X, eh, N, sp⟩ := r
  obtain ⟨T', X', e', q⟩ := f X hx hby hml hown hZ eh
  exact ⟨T', locs, X', e', N, fun t u => sp t (q t u)⟩
theorem Wk.aloadN (H : Wk l Z y code mx ret R n0 W V) {i : Fin 4} {v : Value} (hd : decode code pc = .ok (.aload_n i, 1)) (r : W h k n pc Ls (st)) (hl : Ls[i.val]? = some (.val v)) (hv : v.isRef = true) : W h k n (pc + 1) Ls (v :: st) :=
  H.step r fun A hx hby q => XS.aloadN A hx rfl (hb hby hd) hl hv q
theorem Wk.aload (H : Wk l Z y code mx ret R n0 W V) {i : Nat} {v : Value} (hd : decode code pc = .ok (.aload i, 2)) (r : W h k n pc Ls (st)) (hl : Ls[i]? = some (.val v)) (hv : v.isRef = true) : W h k n (pc + 2) Ls (v :: st) :=
  H.step r fun A hx hby q => XS.aload A hx rfl (hb hby hd) hl hv q
theorem Wk.iloadN (H : Wk l Z y code mx ret R n0 W V) {i : Fin 4} {v : Int32} (hd : decode code pc = .ok (.iload_n i, 1)) (r : W h k n pc Ls (st)) (hl : Ls[i.val]? = some (.val (.int v))) : W h k n (pc + 1) Ls (.int v :: st) :=
  H.step r fun A hx hby q => XS.iloadN A hx rfl (hb hby hd) hl q
theorem Wk.iload (H : Wk l Z y code mx ret R n0 W V) {i : Nat} {v : Int32} (hd : decode code pc = .ok (.iload i, 2)) (r : W h k n pc Ls (st)) (hl : Ls[i]? = some (.val (.int v))) : W h k n (pc + 2) Ls (.int v :: st) :=
  H.step r fun A hx hby q => XS.iload A hx rfl (hb hby hd) hl q
theorem Wk.lloadN (H : Wk l Z y code mx ret R n0 W V) {i : Fin 4} {v : Int64} (hd : decode code pc = .ok (.lload_n i, 1)) (r : W h k n pc Ls (st)) (hl : Ls[i.val]? = some (.val (.long v))) : W h k n (pc + 1) Ls (.long v :: st) :=
  H.step r fun A hx hby q => XS.lloadN A hx rfl (hb hby hd) hl q
theorem Wk.lload (H : Wk l Z y code mx ret R n0 W V) {i : Nat} {v : Int64} (hd : decode code pc = .ok (.lload i, 2)) (r : W h k n pc Ls (st)) (hl : Ls[i]? = some (.val (.long v))) : W h k n (pc + 2) Ls (.long v :: st) :=
  H.step r fun A hx hby q => XS.lload A hx rfl (hb hby hd) hl q
theorem Wk.floadN (H : Wk l Z y code mx ret R n0 W V) {i : Fin 4} {v : UInt32} (hd : decode code pc = .ok (.fload_n i, 1)) (r : W h k n pc Ls (st)) (hl : Ls[i.val]? = some (.val (.float v))) : W h k n (pc + 1) Ls (.float v :: st) :=
  H.step r fun A hx hby q => XS.floadN A hx rfl (hb hby hd) hl q
theorem Wk.iconst (H : Wk l Z y code mx ret R n0 W V) {i : Int} {z : Int32} (hd : decode code pc = .ok (.iconst i, 1)) (r : W h k n pc Ls st) (hz : Int32.ofInt i = z) : W h k n (pc + 1) Ls (.int z :: st) := by
  subst hz
  exact H.step r fun A hx hby q => XS.iconst A hx rfl (hb hby hd) q
theorem Wk.bipush (H : Wk l Z y code mx ret R n0 W V) {i : Int} {z : Int32} (hd : decode code pc = .ok (.bipush i, 2)) (r : W h k n pc Ls st) (hz : (Int8.ofInt i).toInt32 = z) : W h k n (pc + 2) Ls (.int z :: st) := by
  subst hz
  exact H.step r fun A hx hby q => XS.bipush A hx rfl (hb hby hd) q
theorem Wk.sipush (H : Wk l Z y code mx ret R n0 W V) {i : Int} {z : Int32} (hd : decode code pc = .ok (.sipush i, 3)) (r : W h k n pc Ls st) (hz : (Int16.ofInt i).toInt32 = z) : W h k n (pc + 3) Ls (.int z :: st) := by
  subst hz
  exact H.step r fun A hx hby q => XS.sipush A hx rfl (hb hby hd) q
theorem Wk.lconst (H : Wk l Z y code mx ret R n0 W V) {i : Fin 2} {z : Int64} (hd : decode code pc = .ok (.lconst i, 1)) (r : W h k n pc Ls st) (hz : Int64.ofNat i = z) : W h k n (pc + 1) Ls (.long z :: st) := by
  subst hz
  exact H.step r fun A hx hby q => XS.lconst A hx rfl (hb hby hd) q
theorem Wk.fconst0 (H : Wk l Z y code mx ret R n0 W V) {v : UInt32} (hd : decode code pc = .ok (.fconst 0, 1)) (r : W h k n pc Ls st) (hv : FP.fconst0 = v) : W h k n (pc + 1) Ls (.float v :: st) :=
  H.step r fun A hx hby q => XS.fconst0 A hx rfl (hb hby hd) hv q
theorem Wk.fcmp (H : Wk l Z y code mx ret R n0 W V) {o : CmpOp} {x z : UInt32} {v : Int32} (hd : decode code pc = .ok (.fcmp o, 1)) (r : W h k n pc Ls (.float z :: .float x :: st)) (hv : cmpValue (FP.fcmp x z) o = v) : W h k n (pc + 1) Ls (.int v :: st) :=
  H.step r fun A hx hby q => XS.fcmpS A hx rfl (hb hby hd) rfl hv q
theorem Wk.aconstNull (H : Wk l Z y code mx ret R n0 W V) (hd : decode code pc = .ok (.aconst_null, 1)) (r : W h k n pc Ls (st)) : W h k n (pc + 1) Ls (.null :: st) :=
  H.step r fun A hx hby q => XS.aconstNull A hx rfl (hb hby hd)  q
theorem Wk.iadd (H : Wk l Z y code mx ret R n0 W V) {a b : Int32} (hd : decode code pc = .ok (.iadd, 1)) (r : W h k n pc Ls (.int b :: .int a :: st)) : W h k n (pc + 1) Ls (.int (a + b) :: st) :=
  H.step r fun A hx hby q => XS.iadd A hx rfl (hb hby hd) rfl q
theorem Wk.isub (H : Wk l Z y code mx ret R n0 W V) {a b : Int32} (hd : decode code pc = .ok (.isub, 1)) (r : W h k n pc Ls (.int b :: .int a :: st)) : W h k n (pc + 1) Ls (.int (a - b) :: st) :=
  H.step r fun A hx hby q => XS.isub A hx rfl (hb hby hd) rfl q
theorem Wk.iand (H : Wk l Z y code mx ret R n0 W V) {a b : Int32} (hd : decode code pc = .ok (.iand, 1)) (r : W h k n pc Ls (.int b :: .int a :: st)) : W h k n (pc + 1) Ls (.int (a &&& b) :: st) :=
  H.step r fun A hx hby q => XS.iand A hx rfl (hb hby hd) rfl q
theorem Wk.imul (H : Wk l Z y code mx ret R n0 W V) {a b : Int32} (hd : decode code pc = .ok (.imul, 1)) (r : W h k n pc Ls (.int b :: .int a :: st)) : W h k n (pc + 1) Ls (.int (a * b) :: st) :=
  H.step r fun A hx hby q => XS.imul A hx rfl (hb hby hd) rfl q
theorem Wk.ior (H : Wk l Z y code mx ret R n0 W V) {a b : Int32} (hd : decode code pc = .ok (.ior, 1)) (r : W h k n pc Ls (.int b :: .int a :: st)) : W h k n (pc + 1) Ls (.int (a ||| b) :: st) :=
  H.step r fun A hx hby q => XS.ior A hx rfl (hb hby hd) rfl q
theorem Wk.ixor (H : Wk l Z y code mx ret R n0 W V) {a b : Int32} (hd : decode code pc = .ok (.ixor, 1)) (r : W h k n pc Ls (.int b :: .int a :: st)) : W h k n (pc + 1) Ls (.int (a ^^^ b) :: st) :=
  H.step r fun A hx hby q => XS.ixor A hx rfl (hb hby hd) rfl q
theorem Wk.ishl (H : Wk l Z y code mx ret R n0 W V) {a b : Int32} (hd : decode code pc = .ok (.ishl, 1)) (r : W h k n pc Ls (.int b :: .int a :: st)) : W h k n (pc + 1) Ls (.int (a <<< (b &&& 31)) :: st) :=
  H.step r fun A hx hby q => XS.ishl A hx rfl (hb hby hd) rfl q
theorem Wk.ishr (H : Wk l Z y code mx ret R n0 W V) {a b : Int32} (hd : decode code pc = .ok (.ishr, 1)) (r : W h k n pc Ls (.int b :: .int a :: st)) : W h k n (pc + 1) Ls (.int (a >>> (b &&& 31)) :: st) :=
  H.step r fun A hx hby q => XS.ishr A hx rfl (hb hby hd) rfl q
theorem Wk.iushr (H : Wk l Z y code mx ret R n0 W V) {a b : Int32} (hd : decode code pc = .ok (.iushr, 1)) (r : W h k n pc Ls (.int b :: .int a :: st)) : W h k n (pc + 1) Ls (.int ((a.toUInt32 >>> (b &&& 31).toUInt32).toInt32) :: st) :=
  H.step r fun A hx hby q => XS.iushr A hx rfl (hb hby hd) rfl q
theorem Wk.ladd (H : Wk l Z y code mx ret R n0 W V) {a b : Int64} (hd : decode code pc = .ok (.ladd, 1)) (r : W h k n pc Ls (.long b :: .long a :: st)) : W h k n (pc + 1) Ls (.long (a + b) :: st) :=
  H.step r fun A hx hby q => XS.ladd A hx rfl (hb hby hd) rfl q
theorem Wk.lsub (H : Wk l Z y code mx ret R n0 W V) {a b : Int64} (hd : decode code pc = .ok (.lsub, 1)) (r : W h k n pc Ls (.long b :: .long a :: st)) : W h k n (pc + 1) Ls (.long (a - b) :: st) :=
  H.step r fun A hx hby q => XS.lsub A hx rfl (hb hby hd) rfl q
theorem Wk.lmul (H : Wk l Z y code mx ret R n0 W V) {a b : Int64} (hd : decode code pc = .ok (.lmul, 1)) (r : W h k n pc Ls (.long b :: .long a :: st)) : W h k n (pc + 1) Ls (.long (a * b) :: st) :=
  H.step r fun A hx hby q => XS.lmul A hx rfl (hb hby hd) rfl q
theorem Wk.land (H : Wk l Z y code mx ret R n0 W V) {a b : Int64} (hd : decode code pc = .ok (.land, 1)) (r : W h k n pc Ls (.long b :: .long a :: st)) : W h k n (pc + 1) Ls (.long (a &&& b) :: st) :=
  H.step r fun A hx hby q => XS.land A hx rfl (hb hby hd) rfl q
theorem Wk.lor (H : Wk l Z y code mx ret R n0 W V) {a b : Int64} (hd : decode code pc = .ok (.lor, 1)) (r : W h k n pc Ls (.long b :: .long a :: st)) : W h k n (pc + 1) Ls (.long (a ||| b) :: st) :=
  H.step r fun A hx hby q => XS.lor A hx rfl (hb hby hd) rfl q
theorem Wk.lxor (H : Wk l Z y code mx ret R n0 W V) {a b : Int64} (hd : decode code pc = .ok (.lxor, 1)) (r : W h k n pc Ls (.long b :: .long a :: st)) : W h k n (pc + 1) Ls (.long (a ^^^ b) :: st) :=
  H.step r fun A hx hby q => XS.lxor A hx rfl (hb hby hd) rfl q
theorem Wk.lshl (H : Wk l Z y code mx ret R n0 W V) {a : Int64} {b : Int32} (hd : decode code pc = .ok (.lshl, 1)) (r : W h k n pc Ls (.int b :: .long a :: st)) : W h k n (pc + 1) Ls (.long (a <<< (b &&& 0x3f).toInt64) :: st) :=
  H.step r fun A hx hby q => XS.lshl A hx rfl (hb hby hd) rfl q
theorem Wk.lshr (H : Wk l Z y code mx ret R n0 W V) {a : Int64} {b : Int32} (hd : decode code pc = .ok (.lshr, 1)) (r : W h k n pc Ls (.int b :: .long a :: st)) : W h k n (pc + 1) Ls (.long (a >>> (b &&& 0x3f).toInt64) :: st) :=
  H.step r fun A hx hby q => XS.lshr A hx rfl (hb hby hd) rfl q
theorem Wk.lushr (H : Wk l Z y code mx ret R n0 W V) {a : Int64} {b : Int32} (hd : decode code pc = .ok (.lushr, 1)) (r : W h k n pc Ls (.int b :: .long a :: st)) : W h k n (pc + 1) Ls (.long ((a.toUInt64 >>> (b &&& 0x3f).toInt64.toUInt64).toInt64) :: st) :=
  H.step r fun A hx hby q => XS.lushr A hx rfl (hb hby hd) rfl q
theorem Wk.ldiv (H : Wk l Z y code mx ret R n0 W V) {a b : Int64} (hd : decode code pc = .ok (.ldiv, 1)) (r : W h k n pc Ls (.long b :: .long a :: st)) (hy : b ≠ 0) : W h k n (pc + 1) Ls (.long (a / b) :: st) :=
  H.step r fun A hx hby q => XS.ldiv A hx rfl (hb hby hd) rfl hy q
theorem Wk.idiv (H : Wk l Z y code mx ret R n0 W V) {a b : Int32} (hd : decode code pc = .ok (.idiv, 1)) (r : W h k n pc Ls (.int b :: .int a :: st)) (hy : b ≠ 0) : W h k n (pc + 1) Ls (.int (a / b) :: st) :=
  H.step r fun A hx hby q => XS.idiv A hx rfl (hb hby hd) rfl hy q
theorem Wk.lrem (H : Wk l Z y code mx ret R n0 W V) {a b : Int64} (hd : decode code pc = .ok (.lrem, 1)) (r : W h k n pc Ls (.long b :: .long a :: st)) (hy : b ≠ 0) : W h k n (pc + 1) Ls (.long (a % b) :: st) := by
  rw [← lrem_mod a b]
  exact H.step r fun A hx hby q => XS.lrem A hx rfl (hb hby hd) rfl hy q
theorem Wk.irem (H : Wk l Z y code mx ret R n0 W V) {a b : Int32} (hd : decode code pc = .ok (.irem, 1)) (r : W h k n pc Ls (.int b :: .int a :: st)) (hy : b ≠ 0) : W h k n (pc + 1) Ls (.int (a % b) :: st) :=
  H.stepX r fun X hx hby hml hown hZ eT => ⟨_, X, eT, fun t q => iremM X hx rfl (hb hby hd) rfl hy q⟩
theorem Wk.i2b (H : Wk l Z y code mx ret R n0 W V) {a : Int32} (hd : decode code pc = .ok (.i2b, 1)) (r : W h k n pc Ls (.int a :: st)) : W h k n (pc + 1) Ls (.int (a.toInt8.toInt32) :: st) :=
  H.step r fun A hx hby q => XS.i2b A hx rfl (hb hby hd) rfl q
theorem Wk.i2c (H : Wk l Z y code mx ret R n0 W V) {a : Int32} (hd : decode code pc = .ok (.i2c, 1)) (r : W h k n pc Ls (.int a :: st)) : W h k n (pc + 1) Ls (.int (a.toUInt32.toUInt16.toUInt32.toInt32) :: st) :=
  H.step r fun A hx hby q => XS.i2c A hx rfl (hb hby hd) rfl q
theorem Wk.i2s (H : Wk l Z y code mx ret R n0 W V) {a : Int32} (hd : decode code pc = .ok (.i2s, 1)) (r : W h k n pc Ls (.int a :: st)) : W h k n (pc + 1) Ls (.int (a.toInt16.toInt32) :: st) :=
  H.step r fun A hx hby q => XS.i2s A hx rfl (hb hby hd) rfl q
theorem Wk.i2l (H : Wk l Z y code mx ret R n0 W V) {a : Int32} (hd : decode code pc = .ok (.i2l, 1)) (r : W h k n pc Ls (.int a :: st)) : W h k n (pc + 1) Ls (.long (a.toInt64) :: st) :=
  H.step r fun A hx hby q => XS.i2l A hx rfl (hb hby hd) rfl q
theorem Wk.l2i (H : Wk l Z y code mx ret R n0 W V) {a : Int64} (hd : decode code pc = .ok (.l2i, 1)) (r : W h k n pc Ls (.long a :: st)) : W h k n (pc + 1) Ls (.int (a.toInt32) :: st) :=
  H.step r fun A hx hby q => XS.l2i A hx rfl (hb hby hd) rfl q
theorem Wk.ineg (H : Wk l Z y code mx ret R n0 W V) {a : Int32} (hd : decode code pc = .ok (.ineg, 1)) (r : W h k n pc Ls (.int a :: st)) : W h k n (pc + 1) Ls (.int (-a) :: st) :=
  H.step r fun A hx hby q => XS.ineg A hx rfl (hb hby hd) rfl q
theorem Wk.lcmp (H : Wk l Z y code mx ret R n0 W V) {a b : Int64} (hd : decode code pc = .ok (.lcmp, 1)) (r : W h k n pc Ls (.long b :: .long a :: st)) : W h k n (pc + 1) Ls (.int (lcmpW a b) :: st) :=
  H.step r fun A hx hby q => XS.lcmp A hx rfl (hb hby hd) rfl q
theorem Wk.dup (H : Wk l Z y code mx ret R n0 W V) {v : Value} (hd : decode code pc = .ok (.dup, 1)) (r : W h k n pc Ls (v :: st)) (hc : v.category = 1) : W h k n (pc + 1) Ls (v :: v :: st) :=
  H.step r fun A hx hby q => XS.dup A hx rfl (hb hby hd) rfl hc q
theorem Wk.pop (H : Wk l Z y code mx ret R n0 W V) {v : Value} (hd : decode code pc = .ok (.pop, 1)) (r : W h k n pc Ls (v :: st)) (hc : v.category = 1) : W h k n (pc + 1) Ls (st) :=
  H.step r fun A hx hby q => XS.pop A hx rfl (hb hby hd) rfl hc q
theorem Wk.dupX1 (H : Wk l Z y code mx ret R n0 W V) {v w : Value} (hd : decode code pc = .ok (.dup_x1, 1)) (r : W h k n pc Ls (v :: w :: st)) (hc : v.category = 1) (hc2 : w.category = 1) : W h k n (pc + 1) Ls (v :: w :: v :: st) :=
  H.step r fun A hx hby q => XS.dupX1 A hx rfl (hb hby hd) rfl hc hc2 q
theorem Wk.istoreN (H : Wk l Z y code mx ret R n0 W V) {i : Fin 4} {v : Int32} (hd : decode code pc = .ok (.istore_n i, 1)) (r : W h k n pc Ls (.int v :: st)) (hl : storeLocals Ls i.val (.int v) = some Ls') : W h k n (pc + 1) Ls' (st) :=
  H.step r fun A hx hby q => XS.istoreN A hx rfl (hb hby hd) rfl hl q
theorem Wk.istore (H : Wk l Z y code mx ret R n0 W V) {i : Nat} {v : Int32} (hd : decode code pc = .ok (.istore i, 2)) (r : W h k n pc Ls (.int v :: st)) (hl : storeLocals Ls i (.int v) = some Ls') : W h k n (pc + 2) Ls' (st) :=
  H.step r fun A hx hby q => XS.istore A hx rfl (hb hby hd) rfl hl q
theorem Wk.lstoreN (H : Wk l Z y code mx ret R n0 W V) {i : Fin 4} {v : Int64} (hd : decode code pc = .ok (.lstore_n i, 1)) (r : W h k n pc Ls (.long v :: st)) (hl : storeLocals Ls i.val (.long v) = some Ls') : W h k n (pc + 1) Ls' (st) :=
  H.step r fun A hx hby q => XS.lstoreN A hx rfl (hb hby hd) rfl hl q
theorem Wk.lstore (H : Wk l Z y code mx ret R n0 W V) {i : Nat} {v : Int64} (hd : decode code pc = .ok (.lstore i, 2)) (r : W h k n pc Ls (.long v :: st)) (hl : storeLocals Ls i (.long v) = some Ls') : W h k n (pc + 2) Ls' (st) :=
  H.step r fun A hx hby q => XS.lstore A hx rfl (hb hby hd) rfl hl q
theorem Wk.astoreN (H : Wk l Z y code mx ret R n0 W V) {i : Fin 4} {v : Value} (hd : decode code pc = .ok (.astore_n i, 1)) (r : W h k n pc Ls (v :: st)) (hv : v.isRef = true) (hl : storeLocals Ls i.val v = some Ls') : W h k n (pc + 1) Ls' (st) :=
  H.step r fun A hx hby q => XS.astoreN A hx rfl (hb hby hd) rfl hv hl q
theorem Wk.astore (H : Wk l Z y code mx ret R n0 W V) {i : Nat} {v : Value} (hd : decode code pc = .ok (.astore i, 2)) (r : W h k n pc Ls (v :: st)) (hv : v.isRef = true) (hl : storeLocals Ls i v = some Ls') : W h k n (pc + 2) Ls' (st) :=
  H.step r fun A hx hby q => XS.astore A hx rfl (hb hby hd) rfl hv hl q
theorem Wk.istoreNS (H : Wk l Z y code mx ret R n0 W V) {i : Fin 4} {v : Int32} {o : Slot} (hd : decode code pc = .ok (.istore_n i, 1)) (r : W h k n pc Ls (.int v :: st)) (hold : Ls[i.val]? = some o) (ho : One o) : W h k n (pc + 1) (Ls.setIfInBounds i.val (.val (.int v))) st :=
  H.step r fun A hx hby q => XS.istoreNS A hx rfl (hb hby hd) rfl hold ho q
theorem Wk.istoreS (H : Wk l Z y code mx ret R n0 W V) {i : Nat} {v : Int32} {o : Slot} (hd : decode code pc = .ok (.istore i, 2)) (r : W h k n pc Ls (.int v :: st)) (hold : Ls[i]? = some o) (ho : One o) : W h k n (pc + 2) (Ls.setIfInBounds i (.val (.int v))) st :=
  H.step r fun A hx hby q => XS.istoreS A hx rfl (hb hby hd) rfl hold ho q
theorem Wk.iinc (H : Wk l Z y code mx ret R n0 W V) {i : Nat} {cst : Int} {v z : Int32} (hd : decode code pc = .ok (.iinc i cst, 3)) (r : W h k n pc Ls (st)) (hz : v + Int32.ofInt cst = z) (hl : Ls[i]? = some (.val (.int v))) (hl' : storeLocals Ls i (.int z) = some Ls') : W h k n (pc + 3) Ls' (st) :=
  H.step r fun A hx hby q => XS.iinc A hx rfl (hb hby hd) hl (hz ▸ hl') q
theorem Wk.goto (H : Wk l Z y code mx ret R n0 W V) {o : Int} (hd : decode code pc = .ok (.goto o, 3)) (r : W h k n pc Ls st) (ho : 0 ≤ (pc : Int) + o) (hp : ((pc : Int) + o).toNat = pc') : W h k n pc' Ls st :=
  H.step r fun A hx hby q => XS.goto A hx rfl rfl (hb hby hd) ho hp q
theorem Wk.ifYes (H : Wk l Z y code mx ret R n0 W V) {cd : ClassFile.Cond} {a : Int32} {o : Int} (hd : decode code pc = .ok (.ifCond cd o, 3)) (r : W h k n pc Ls (.int a :: st)) (ho : 0 ≤ (pc : Int) + o) (hp : ((pc : Int) + o).toNat = pc') (hc : if_icmp.holds cd a 0 = true) : W h k n pc' Ls st :=
  H.step r fun A hx hby q => XS.ifYes A hx rfl rfl (hb hby hd) rfl ((if0 cd a).trans hc) ho hp q
theorem Wk.ifNo (H : Wk l Z y code mx ret R n0 W V) {cd : ClassFile.Cond} {a : Int32} {o : Int} (hd : decode code pc = .ok (.ifCond cd o, 3)) (r : W h k n pc Ls (.int a :: st)) (hc : if_icmp.holds cd a 0 = false) : W h k n (pc + 3) Ls st :=
  H.step r fun A hx hby q => XS.ifNo A hx rfl (hb hby hd) rfl ((if0 cd a).trans hc) q
theorem Wk.icmpYes (H : Wk l Z y code mx ret R n0 W V) {cd : ClassFile.Cond} {a b : Int32} {o : Int} (hd : decode code pc = .ok (.if_icmp cd o, 3)) (r : W h k n pc Ls (.int b :: .int a :: st)) (ho : 0 ≤ (pc : Int) + o) (hp : ((pc : Int) + o).toNat = pc') (hc : if_icmp.holds cd a b = true) : W h k n pc' Ls st :=
  H.step r fun A hx hby q => XS.icmpYes A hx rfl rfl (hb hby hd) rfl hc ho hp q
theorem Wk.icmpNo (H : Wk l Z y code mx ret R n0 W V) {cd : ClassFile.Cond} {a b : Int32} {o : Int} (hd : decode code pc = .ok (.if_icmp cd o, 3)) (r : W h k n pc Ls (.int b :: .int a :: st)) (hc : if_icmp.holds cd a b = false) : W h k n (pc + 3) Ls st :=
  H.step r fun A hx hby q => XS.icmpNo A hx rfl (hb hby hd) rfl hc q
theorem Wk.ifnullYes (H : Wk l Z y code mx ret R n0 W V) {o : Int} (hd : decode code pc = .ok (.ifnull o, 3)) (r : W h k n pc Ls (.null :: st)) (ho : 0 ≤ (pc : Int) + o) (hp : ((pc : Int) + o).toNat = pc') : W h k n pc' Ls st :=
  H.step r fun A hx hby q => XS.ifnullYes A hx rfl rfl (hb hby hd) rfl ho hp q
theorem Wk.ifnullNo (H : Wk l Z y code mx ret R n0 W V) {a : Addr} {o : Int} (hd : decode code pc = .ok (.ifnull o, 3)) (r : W h k n pc Ls (.ref a :: st)) : W h k n (pc + 3) Ls st :=
  H.step r fun A hx hby q => XS.ifnullNo A hx rfl (hb hby hd) rfl q
theorem Wk.ifnonnullYes (H : Wk l Z y code mx ret R n0 W V) {a : Addr} {o : Int} (hd : decode code pc = .ok (.ifnonnull o, 3)) (r : W h k n pc Ls (.ref a :: st)) (ho : 0 ≤ (pc : Int) + o) (hp : ((pc : Int) + o).toNat = pc') : W h k n pc' Ls st :=
  H.step r fun A hx hby q => XS.ifnonnullYes A hx rfl rfl (hb hby hd) rfl ho hp q
theorem Wk.ifnonnullNo (H : Wk l Z y code mx ret R n0 W V) {o : Int} (hd : decode code pc = .ok (.ifnonnull o, 3)) (r : W h k n pc Ls (.null :: st)) : W h k n (pc + 3) Ls st :=
  H.step r fun A hx hby q => XS.ifnonnullNo A hx rfl (hb hby hd) rfl q
theorem Wk.acmpYes (H : Wk l Z y code mx ret R n0 W V) {cd : ClassFile.ACond} {a b : Value} {o : Int} (hd : decode code pc = .ok (.if_acmp cd o, 3)) (r : W h k n pc Ls (b :: a :: st)) (ho : 0 ≤ (pc : Int) + o) (hp : ((pc : Int) + o).toNat = pc') (ha : a.isRef = true) (hb' : b.isRef = true) (hc : XT.acmp cd a b = true) : W h k n pc' Ls st :=
  H.step r fun A hx hby q => XT.acmpYes A hx rfl rfl (hb hby hd) rfl ha hb' hc ho hp q
theorem Wk.acmpNo (H : Wk l Z y code mx ret R n0 W V) {cd : ClassFile.ACond} {a b : Value} {o : Int} (hd : decode code pc = .ok (.if_acmp cd o, 3)) (r : W h k n pc Ls (b :: a :: st)) (ha : a.isRef = true) (hb' : b.isRef = true) (hc : XT.acmp cd a b = false) : W h k n (pc + 3) Ls st :=
  H.step r fun A hx hby q => XT.acmpNo A hx rfl (hb hby hd) rfl ha hb' hc q
theorem Wk.lookHit (H : Wk l Z y code mx ret R n0 W V) {z : Int32} {dflt : Int} {pairs : Array (Int × Int)} {len : Nat} {a off : Int} (hsorted : (pairs.toList.zip (pairs.toList.drop 1)).all (fun (a, next) => a.1 < next.1) = true) (hfind : pairs.find? (·.1 == z.toInt) = some (a, off)) (ho : 0 ≤ (pc : Int) + off) (hp : ((pc : Int) + off).toNat = pc') (hd : decode code pc = .ok (.lookupswitch dflt pairs, len)) (r : W h k n pc Ls (.int z :: st)) : W h k n pc' Ls st := by
  subst hp
  exact H.stepX r fun X hx hby hml hown hZ eT => ⟨_, X, eT, fun t q => X.lookupswitchHit hx (g := mkF _ pc Ls (.int z :: st)) rfl rfl (hb hby hd) hsorted hfind ho t q⟩
theorem Wk.lookMiss (H : Wk l Z y code mx ret R n0 W V) {z : Int32} {dflt : Int} {pairs : Array (Int × Int)} {len : Nat} (hsorted : (pairs.toList.zip (pairs.toList.drop 1)).all (fun (a, next) => a.1 < next.1) = true) (hfind : pairs.find? (·.1 == z.toInt) = none) (ho : 0 ≤ (pc : Int) + dflt) (hp : ((pc : Int) + dflt).toNat = pc') (hd : decode code pc = .ok (.lookupswitch dflt pairs, len)) (r : W h k n pc Ls (.int z :: st)) : W h k n pc' Ls st := by
  subst hp
  exact H.stepX r fun X hx hby hml hown hZ eT => ⟨_, X, eT, fun t q => X.lookupswitchMiss hx (g := mkF _ pc Ls (.int z :: st)) rfl rfl (hb hby hd) hsorted hfind ho t q⟩
theorem Wk.getS (H : Wk l Z y code mx ret R n0 W V) {i : Nat} {O nm d : String} {v : Value} (w : (Jvm.Cond.fieldLink y.cls i O nm d).before a0 Z = true) (F : Sta Z h O nm d v) (hd : decode code pc = .ok (.getstatic i, 3)) (r : W h k n pc Ls st) : W h k n (pc + 3) Ls (v :: st) :=
  H.stepX r fun X hx hby hml hown hZ eT => RoadKit.getS X hx hZ (host := "") hown w Via.refl eT F (g := mkF _ pc Ls st) rfl (hb hby hd)
theorem Wk.instY (H : Wk l Z y code mx ret R n0 W V) {i : Nat} {K : String} {a : Addr} (w : (Jvm.Cond.classLink y.cls i K).before a0 Z = true) (F : Ins Z h a K true) (hd : decode code pc = .ok (.instanceof i, 3)) (r : W h k n pc Ls (.ref a :: st)) : W h k n (pc + 3) Ls (.int 1 :: st) :=
  H.stepX r fun X hx hby hml hown hZ eT => RoadKit.instY X hx hZ hown w eT F (g := mkF _ pc Ls (.ref a :: st)) rfl rfl (hb hby hd)
theorem Wk.instNo (H : Wk l Z y code mx ret R n0 W V) {i : Nat} {K C : String} {a : Addr} (w : (Jvm.Cond.classLink y.cls i K).before a0 Z = true) (E : Exa Z h a C) (F : ∃ c t, Z.vm.findClass C = some c ∧ Z.vm.findClass K = some t ∧ Z.vm.assignable c t = false) (hd : decode code pc = .ok (.instanceof i, 3)) (r : W h k n pc Ls (.ref a :: st)) : W h k n (pc + 3) Ls (.int 0 :: st) :=
  H.stepX r fun X hx hby hml hown hZ eT => RoadKit.instNo X hx hZ hown w eT E F (g := mkF _ pc Ls (.ref a :: st)) rfl rfl (hb hby hd)
theorem Wk.instNull (H : Wk l Z y code mx ret R n0 W V) {i : Nat} (hd : decode code pc = .ok (.instanceof i, 3)) (r : W h k n pc Ls (.null :: st)) : W h k n (pc + 3) Ls (.int 0 :: st) :=
  H.stepX r fun X hx hby hml hown hZ eT => ⟨_, X, eT, X.instanceofNull hx (g := mkF _ pc Ls (.null :: st)) rfl rfl (hb hby hd)⟩
theorem Wk.castY (H : Wk l Z y code mx ret R n0 W V) {i : Nat} {K : String} {a : Addr} (w : (Jvm.Cond.classLink y.cls i K).before a0 Z = true) (F : Ins Z h a K true) (hd : decode code pc = .ok (.checkcast i, 3)) (r : W h k n pc Ls (.ref a :: st)) : W h k n (pc + 3) Ls (.ref a :: st) :=
  H.stepX r fun X hx hby hml hown hZ eT => RoadKit.castY X hx hZ hown w eT F (g := mkF _ pc Ls (.ref a :: st)) rfl rfl (hb hby hd)
theorem Wk.castNull (H : Wk l Z y code mx ret R n0 W V) {i : Nat} (hd : decode code pc = .ok (.checkcast i, 3)) (r : W h k n pc Ls (.null :: st)) : W h k n (pc + 3) Ls (.null :: st) :=
  H.stepX r fun X hx hby hml hown hZ eT => ⟨_, X, eT, X.checkcastNull hx (g := mkF _ pc Ls (.null :: st)) rfl rfl (hb hby hd)⟩
theorem Wk.ldcInt (H : Wk l Z y code mx ret R n0 W V) {i : Nat} {v : Int32} (hd : decode code pc = .ok (.ldc i, 2)) (r : W h k n pc Ls st) (w : (Jvm.Cond.constant y.cls i v).before a0 Z = true) : W h k n (pc + 2) Ls (.int v :: st) :=
  H.stepX r fun X hx hby hml hown hZ eT => ⟨_, X, eT, X.ldcInt hx hown (mvT hZ w) (g := mkF _ pc Ls st) rfl (hb hby hd)⟩
theorem Wk.ldcWInt (H : Wk l Z y code mx ret R n0 W V) {i : Nat} {v : Int32} (hd : decode code pc = .ok (.ldc_w i, 3)) (r : W h k n pc Ls st) (w : (Jvm.Cond.constant y.cls i v).before a0 Z = true) : W h k n (pc + 3) Ls (.int v :: st) :=
  H.stepX r fun {p e s m args below meth c T locs} X hx hby hml hown hZ eT => ⟨T, X, eT, fun t q => by
    obtain ⟨kc, cf, bytes, hk, hcf, hcp, hb'⟩ := Cond.constant_spec hown (mvT (args := args) hZ w)
    obtain ⟨k', hk', he⟩ := X.warmed.alike.2.2 _ _ hk
    have hdg := hb hby hd
    show Steps p.tables e below (T.setTop (mkF m pc Ls st)) t
    jvm_step X.here [hx, hdg, ldc_w.wp_int (s := T) (f := mkF m pc Ls st) X.here.top hk' (by rw [he]; exact hcf) hcp, hb']
    exact q⟩
theorem Wk.ldcFloat (H : Wk l Z y code mx ret R n0 W V) {i : Nat} {v : UInt32} (w : (Jvm.Cond.constantFloat y.cls i v).before a0 Z = true) (hd : decode code pc = .ok (.ldc i, 2)) (r : W h k n pc Ls st) : W h k n (pc + 2) Ls (.float v :: st) :=
  H.stepX r fun X hx hby hml hown hZ eT => ⟨_, X, eT, X.ldcFloatC hx hown (mvT hZ w) (g := mkF _ pc Ls st) rfl (hb hby hd)⟩
theorem Wk.ldcLong (H : Wk l Z y code mx ret R n0 W V) {i : Nat} {v : Int64} (hd : decode code pc = .ok (.ldc2_w i, 3)) (r : W h k n pc Ls st) (w : (Jvm.Cond.constantLong y.cls i v).before a0 Z = true) : W h k n (pc + 3) Ls (.long v :: st) :=
  H.stepX r fun X hx hby hml hown hZ eT => ⟨_, X, eT, X.ldc2Long hx hown (mvT hZ w) (g := mkF _ pc Ls st) rfl (hb hby hd)⟩
theorem Wk.getF (H : Wk l Z y code mx ret R n0 W V) {i : Nat} {R0 O nm d host : String} {a : Addr} {v : Value} (w : (Jvm.Cond.fieldLink y.cls i R0 nm d).before a0 Z = true ∨ (Jvm.Cond.fieldLinkNest y.cls i R0 nm d host).before a0 Z = true) (via : Via Z R0 O nm d) (F : Fld Z h a O nm d v) (hd : decode code pc = .ok (.getfield i, 3)) (r : W h k n pc Ls (.ref a :: st)) : W h k n (pc + 3) Ls (v :: st) :=
  H.stepX r fun X hx hby hml hown hZ eT => RoadKit.getF X hx hZ hown w via eT F (g := mkF _ pc Ls (.ref a :: st)) rfl rfl (hb hby hd)
theorem Wk.getF' (H : Wk l Z y code mx ret R n0 W V) {i : Nat} {O nm d : String} {a : Addr} {v : Value} (w : (Jvm.Cond.fieldLink y.cls i O nm d).before a0 Z = true) (F : Fld Z h a O nm d v) (hd : decode code pc = .ok (.getfield i, 3)) (r : W h k n pc Ls (.ref a :: st)) : W h k n (pc + 3) Ls (v :: st) :=
  H.getF (host := "") (Or.inl w) Via.refl F hd r
theorem Wk.putF (H : Wk l Z y code mx ret R n0 W V) {i kk : Nat} {R0 O nm d host C : String} {ty : FieldType} {a : Addr} {v old : Value} (w : (Jvm.Cond.fieldLink y.cls i R0 nm d).before a0 Z = true ∨ (Jvm.Cond.fieldLinkNest y.cls i R0 nm d host).before a0 Z = true) (via : Via Z R0 O nm d) (F : Fld Z h a O nm d old) (E : Exa Z h a C) (L : (Jvm.Cond.lays C O nm d).before a0 Z = true ∨ ((Jvm.Cond.laysFinal C O nm d).before a0 Z = true ∧ y.cls = O ∧ y.name = "<init>")) (wi : (Jvm.Cond.instantiable C kk).before a0 Z = true)
    (hty : parseFieldDescriptor d = some ty) (hn : narrow ty v = v) (hf : fits ty v = true) (hn0 : n0 ≤ a) (hd : decode code pc = .ok (.putfield i, 3)) (r : W h k n pc Ls (v :: .ref a :: st)) : ∃ h', Wr h h' a (Jvm.RoadKit.slotOf Z O nm d) v ∧ W h' k n (pc + 3) Ls st := by
  obtain ⟨p, e, s, m, args, below, meth, c, S0, hx, hby, hml, hown, hZ, hnm, hret, hlk, rfl, rfl⟩ := H
  obtain ⟨T, locs, X, eh, N, sp⟩ := r
  obtain ⟨T', h', X', e', W', q⟩ := RoadKit.putF X hx hZ hown w via eh F E (L.imp id fun u => ⟨u.1, u.2.1, by rw [hnm]; exact u.2.2⟩) wi hty hn hf (g := mkF m pc Ls (v :: .ref a :: st)) rfl rfl (hb hby hd)
  exact ⟨h', W', T', _, X', e', Fr.snoc X' N hn0, fun t u => sp t (q t u)⟩
theorem Wk.newO (H : Wk l Z y code mx ret R n0 W V) {i q : Nat} {C : String} (w : (Jvm.Cond.classLink y.cls i C).before a0 Z = true) (wi : (Jvm.Cond.instantiable C q).before a0 Z = true) (wz : (Jvm.Cond.initialized C).before a0 Z = true) (hc : k + 1 ≤ R.cells) (hl : n + q ≤ R.slots) (hd : decode code pc = .ok (.new i, 3)) (r : W h k n pc Ls st) :
    ∃ h' a, a = h.size ∧ Ext h h' ∧ Exa Z h' a C ∧ (∀ {O nm d : String} {ty : FieldType}, Laid Z a0 C O nm d → parseFieldDescriptor d = some ty → Fld Z h' a O nm d (defaultValue ty)) ∧ (∃ cell : Cell, h'[a]? = some cell ∧ cell.vm = .none ∧ cell.monitor = {}) ∧ W h' (k + 1) (n + q) (pc + 3) Ls (.ref a :: st) := by
  obtain ⟨p, e, s, m, args, below, meth, c, S0, hx, hby, hml, hown, hZ, hnm, hret, hlk, rfl, rfl⟩ := H
  obtain ⟨T, locs, X, eh, N, sp⟩ := r
  obtain ⟨T', h', X', e', E', A', D', U', q'⟩ := RoadKit.newO X hx hZ hown w wi wz eh (g := mkF m pc Ls st) rfl (hb hby hd) hc hl
  exact ⟨h', _, rfl, E', A', D', U', T', _, X', e', N, fun t u => sp t (q' t u)⟩
theorem Wk.newP (H : Wk l Z y code mx ret R n0 W V) {aty : ArrayType} {ty : FieldType} {z : Int32} {cap : Nat} (hty : newarray.typeOf aty = ty) (w : (Jvm.Cond.arrayClass ty).before a0 Z = true) (hn : ¬ z < 0) (hcap : z.toNatClampNeg ≤ cap) (hb8 : cap * 8 ≤ 536870912) (hc : k + 1 ≤ R.cells) (hl : n + cap ≤ R.slots) (hd : decode code pc = .ok (.newarray aty, 2)) (r : W h k n pc Ls (.int z :: st)) :
    ∃ h' a cA, a = h.size ∧ Ext h h' ∧ Arr Z h' a (newA cA ty z) ty ∧ W h' (k + 1) (n + cap) (pc + 2) Ls (.ref a :: st) := by
  subst hty
  obtain ⟨p, e, s, m, args, below, meth, c, S0, hx, hby, hml, hown, hZ, hnm, hret, hlk, rfl, rfl⟩ := H
  obtain ⟨T, locs, X, eh, N, sp⟩ := r
  obtain ⟨T', h', cA, X', e', E', A', q'⟩ := RoadKit.newP X hx hZ w eh (g := mkF m pc Ls (.int z :: st)) rfl (hb hby hd) rfl hn hcap hb8 hc hl
  exact ⟨h', _, cA, rfl, E', A', T', _, X', e', N, fun t u => sp t (q' t u)⟩
theorem Wk.arrLen (H : Wk l Z y code mx ret R n0 W V) {a : Addr} {cl : Cell} {ty : FieldType} {z : Int32} (A : Arr Z h a cl ty) (hz : cl.slots.size.toInt32 = z) (hd : decode code pc = .ok (.arraylength, 1)) (r : W h k n pc Ls (.ref a :: st)) : W h k n (pc + 1) Ls (.int z :: st) := by
  subst hz
  exact H.stepX r fun X hx hby hml hown hZ eT => ⟨_, X, eT, X.arraylength hx (by rw [eT]; exact A.1) (State.isArrayOf_alike hZ.alike A.2.1) (g := mkF _ pc Ls (.ref a :: st)) rfl rfl (hb hby hd)⟩
theorem Wk.iaload (H : Wk l Z y code mx ret R n0 W V) {a : Addr} {cl : Cell} {j : Int32} {v : Value} (A : Arr Z h a cl .int) (hin : ¬ (j < 0 ∨ cl.slots.size ≤ j.toNatClampNeg)) (hv : cl.slots[j.toNatClampNeg]? = some v) (hd : decode code pc = .ok (.iaload, 1)) (r : W h k n pc Ls (.int j :: .ref a :: st)) : W h k n (pc + 1) Ls (v :: st) :=
  H.stepX r fun X hx hby hml hown hZ eT => ⟨_, X, eT, X.iaload hx (by rw [eT]; exact A.1) (State.isArrayOf_alike hZ.alike A.2.1) A.2.2 hin hv (g := mkF _ pc Ls (.int j :: .ref a :: st)) rfl rfl (hb hby hd)⟩
theorem Wk.laload (H : Wk l Z y code mx ret R n0 W V) {a : Addr} {cl : Cell} {j : Int32} {v : Value} (A : Arr Z h a cl .long) (hin : ¬ (j < 0 ∨ cl.slots.size ≤ j.toNatClampNeg)) (hv : cl.slots[j.toNatClampNeg]? = some v) (hd : decode code pc = .ok (.laload, 1)) (r : W h k n pc Ls (.int j :: .ref a :: st)) : W h k n (pc + 1) Ls (v :: st) :=
  H.stepX r fun X hx hby hml hown hZ eT => ⟨_, X, eT, X.laload hx (by rw [eT]; exact A.1) (State.isArrayOf_alike hZ.alike A.2.1) A.2.2 hin hv (g := mkF _ pc Ls (.int j :: .ref a :: st)) rfl rfl (hb hby hd)⟩
theorem Wk.caload (H : Wk l Z y code mx ret R n0 W V) {a : Addr} {cl : Cell} {j : Int32} {v : Value} (A : Arr Z h a cl .char) (hin : ¬ (j < 0 ∨ cl.slots.size ≤ j.toNatClampNeg)) (hv : cl.slots[j.toNatClampNeg]? = some v) (hd : decode code pc = .ok (.caload, 1)) (r : W h k n pc Ls (.int j :: .ref a :: st)) : W h k n (pc + 1) Ls (v :: st) :=
  H.stepX r fun X hx hby hml hown hZ eT => ⟨_, X, eT, X.caload hx (by rw [eT]; exact A.1) (State.isArrayOf_alike hZ.alike A.2.1) A.2.2 hin hv (g := mkF _ pc Ls (.int j :: .ref a :: st)) rfl rfl (hb hby hd)⟩
theorem Wk.baload (H : Wk l Z y code mx ret R n0 W V) {a : Addr} {cl : Cell} {j : Int32} {v : Value} (A : Arr Z h a cl .byte) (hin : ¬ (j < 0 ∨ cl.slots.size ≤ j.toNatClampNeg)) (hv : cl.slots[j.toNatClampNeg]? = some v) (hd : decode code pc = .ok (.baload, 1)) (r : W h k n pc Ls (.int j :: .ref a :: st)) : W h k n (pc + 1) Ls (v :: st) :=
  H.stepX r fun X hx hby hml hown hZ eT => ⟨_, X, eT, X.baloadBytes hx (by rw [eT]; exact A.1) (State.isArrayOf_alike hZ.alike A.2.1) A.2.2 hin hv (g := mkF _ pc Ls (.int j :: .ref a :: st)) rfl rfl (hb hby hd)⟩
theorem Wk.aaload (H : Wk l Z y code mx ret R n0 W V) {a : Addr} {cl : Cell} {ty : FieldType} {j : Int32} {v : Value} (A : Arr Z h a cl ty) (hty : ty.isReference = true) (hin : ¬ (j < 0 ∨ cl.slots.size ≤ j.toNatClampNeg)) (hv : cl.slots[j.toNatClampNeg]? = some v) (hd : decode code pc = .ok (.aaload, 1)) (r : W h k n pc Ls (.int j :: .ref a :: st)) : W h k n (pc + 1) Ls (v :: st) :=
  H.stepX r fun X hx hby hml hown hZ eT => ⟨_, X, eT, X.aaload hx (by rw [eT]; exact A.1) (State.isArrayOf_alike hZ.alike A.2.1) hty A.2.2 hin hv (g := mkF _ pc Ls (.int j :: .ref a :: st)) rfl rfl (hb hby hd)⟩
theorem Wk.stI (H : Wk l Z y code mx ret R n0 W V) {a : Addr} {cl : Cell} {j : Int32} {x : Int32} (A : Arr Z h a cl .int) (hin : ¬ (j < 0 ∨ cl.slots.size ≤ j.toNatClampNeg)) (hn0 : n0 ≤ a) (hd : decode code pc = .ok (.iastore, 1)) (r : W h k n pc Ls (.int x :: .int j :: .ref a :: st)) : ∃ h', Wr h h' a j.toNatClampNeg (.int x) ∧ W h' k n (pc + 1) Ls st := by
  obtain ⟨p, e, s, m, args, below, meth, c, S0, hx, hby, hml, hown, hZ, hnm, hret, hlk, rfl, rfl⟩ := H
  obtain ⟨T, locs, X, eh, N, sp⟩ := r
  obtain ⟨T', h', X', e', W', q⟩ := RoadKit.stI X hx hZ eh A hin (g := mkF m pc Ls (.int x :: .int j :: .ref a :: st)) rfl rfl (hb hby hd)
  exact ⟨h', W', T', _, X', e', Fr.snoc X' N hn0, fun t u => sp t (q t u)⟩
theorem Wk.stJ (H : Wk l Z y code mx ret R n0 W V) {a : Addr} {cl : Cell} {j : Int32} {x : Int64} (A : Arr Z h a cl .long) (hin : ¬ (j < 0 ∨ cl.slots.size ≤ j.toNatClampNeg)) (hn0 : n0 ≤ a) (hd : decode code pc = .ok (.lastore, 1)) (r : W h k n pc Ls (.long x :: .int j :: .ref a :: st)) : ∃ h', Wr h h' a j.toNatClampNeg (.long x) ∧ W h' k n (pc + 1) Ls st := by
  obtain ⟨p, e, s, m, args, below, meth, c, S0, hx, hby, hml, hown, hZ, hnm, hret, hlk, rfl, rfl⟩ := H
  obtain ⟨T, locs, X, eh, N, sp⟩ := r
  obtain ⟨T', h', X', e', W', q⟩ := RoadKit.stJ X hx hZ eh A hin (g := mkF m pc Ls (.long x :: .int j :: .ref a :: st)) rfl rfl (hb hby hd)
  exact ⟨h', W', T', _, X', e', Fr.snoc X' N hn0, fun t u => sp t (q t u)⟩
theorem Wk.stC (H : Wk l Z y code mx ret R n0 W V) {a : Addr} {cl : Cell} {j : Int32} {x : Int32} (A : Arr Z h a cl .char) (hin : ¬ (j < 0 ∨ cl.slots.size ≤ j.toNatClampNeg)) (hn0 : n0 ≤ a) (hd : decode code pc = .ok (.castore, 1)) (r : W h k n pc Ls (.int x :: .int j :: .ref a :: st)) : ∃ h', Wr h h' a j.toNatClampNeg (.int (nar .char x)) ∧ W h' k n (pc + 1) Ls st := by
  obtain ⟨p, e, s, m, args, below, meth, c, S0, hx, hby, hml, hown, hZ, hnm, hret, hlk, rfl, rfl⟩ := H
  obtain ⟨T, locs, X, eh, N, sp⟩ := r
  obtain ⟨T', h', X', e', W', q⟩ := RoadKit.stC X hx hZ eh A hin (g := mkF m pc Ls (.int x :: .int j :: .ref a :: st)) rfl rfl (hb hby hd)
  exact ⟨h', W', T', _, X', e', Fr.snoc X' N hn0, fun t u => sp t (q t u)⟩
theorem Wk.stB (H : Wk l Z y code mx ret R n0 W V) {a : Addr} {cl : Cell} {j : Int32} {x : Int32} (A : Arr Z h a cl .byte) (hin : ¬ (j < 0 ∨ cl.slots.size ≤ j.toNatClampNeg)) (hn0 : n0 ≤ a) (hd : decode code pc = .ok (.bastore, 1)) (r : W h k n pc Ls (.int x :: .int j :: .ref a :: st)) : ∃ h', Wr h h' a j.toNatClampNeg (.int (nar .byte x)) ∧ W h' k n (pc + 1) Ls st := by
  obtain ⟨p, e, s, m, args, below, meth, c, S0, hx, hby, hml, hown, hZ, hnm, hret, hlk, rfl, rfl⟩ := H
  obtain ⟨T, locs, X, eh, N, sp⟩ := r
  obtain ⟨T', h', X', e', W', q⟩ := RoadKit.stB X hx hZ eh A hin (g := mkF m pc Ls (.int x :: .int j :: .ref a :: st)) rfl rfl (hb hby hd)
  exact ⟨h', W', T', _, X', e', Fr.snoc X' N hn0, fun t u => sp t (q t u)⟩
theorem Wk.initO (H : Wk l Z y code mx ret R n0 W V) {i w : Nat} {a : Addr} (w1 : (Jvm.Cond.methodLink y.cls i Lib.objectInit).before a0 Z = true) (w2 : (Jvm.Cond.instanceMethod Lib.objectInit).before a0 Z = true) (w3 : (Jvm.Cond.code Lib.objectInit ⟨#[0xb1]⟩ 1 none).before a0 Z = true) (hsz : Ls.size = mx) (hf : 1 ≤ R.frames) (hw : (st.map fun v => v.category).sum ≤ w) (hl : w + 12 ≤ R.locals) (hd : decode code pc = .ok (.invokespecial i, 3)) (r : W h k n pc Ls (.ref a :: st)) : W h k n (pc + 3) Ls st :=
  H.stepX r fun X hx hby hml hown hZ eT => RoadKit.initO X hx hZ hown w1 w2 w3 eT (g := mkF _ pc Ls (.ref a :: st)) rfl (by rw [hml]; exact hsz) rfl (hb hby hd) hf (by show 2 * 0 + _ ≤ _; omega) hl
variable {y' : MethodName} {bytes' : ByteArray} {mx' : Nat} {ret' : Option FieldType} {rm' : Room} {as' : Array Value} {Q : Option Value → Heap → Prop} {i w : Nat} {ps : List FieldType} {rt : Option FieldType} {argsL rest : List Value}
theorem Wk.callS (H : Wk l Z y code mx ret R n0 W V) (w1 : (Jvm.Cond.methodLink y.cls i y').before a0 Z = true) (w2 : (Jvm.Cond.static y').before a0 Z = true) (w3 : (Jvm.Cond.initialized y'.cls).before a0 Z = true) (w4 : (Jvm.Cond.code y' bytes' mx' ret').before a0 Z = true) (hy : y'.cls ≠ "java/lang/invoke/MethodHandle" ∧ y'.cls ≠ "java/lang/invoke/VarHandle")
    (hpd : parseMethodDescriptor y'.desc = some ⟨ps, rt⟩) (hf : rm'.frames + 1 ≤ R.frames) (hl : w + (mx' + 11) + rm'.locals ≤ R.locals) (hc : k + rm'.cells ≤ R.cells) (hn : n + rm'.slots ≤ R.slots) (hM : Ct l Z y' bytes' mx' ret' rm' n0 argsL.toArray h Q) (hlen : argsL.length = ps.length) (hsz : Ls.size = mx) (hw : (rest.map fun v => v.category).sum ≤ w) (hst : st = argsL.reverse ++ rest) (hd : decode code pc = .ok (.invokestatic i, 3)) (r : W h k n pc Ls st) :
    ∃ v h', Q v h' ∧ W h' (k + rm'.cells) (n + rm'.slots) (pc + 3) Ls (v.toList ++ rest) := by
  subst hst
  obtain ⟨p, e, s, m, args, below, meth, c, S0, hx, hby, hml, hown, hZ, hnm, hret, hlk, rfl, rfl⟩ := H
  obtain ⟨T, locs, X, eh, N, sp⟩ := r
  obtain ⟨v, _, ⟨T1, L1, k1, n1⟩, -, X1, ⟨Lc, hQ, g1, g2, g3⟩, st1⟩ := Jvm.LawKit.callS X hx (y := y') hown (mvT hZ w1) (mvT hZ w2) (mvT hZ w3) (mvT hZ w4) hy (backOf (W := w) (Q := fun v hh L => Q v hh ∧ Fr n0 L) (hM []) hZ w4 w3 hf hl) (g := mkF m pc Ls (argsL.reverse ++ rest)) rfl (by rw [hml]; exact hsz) (argsL := argsL) (rest := rest) (lenOf hpd hlen) rfl (by show 2 * 0 + _ ≤ _; omega) (hb hby hd) (fun _ _ => ⟨rfl, eh, hc, hn⟩)
  dsimp only [Pt.U, Pt.locs, Pt.cells, Pt.slots] at X1 g1 g2 g3 st1 hQ
  subst g1 g2 g3
  exact ⟨v, T1.heap, hQ.1, T1, _, X1, rfl, Fr.app N hQ.2, fun t u => sp t (st1 t u)⟩
theorem Wk.callI (H : Wk l Z y code mx ret R n0 W V) {a : Addr} (hi : y'.name = "<init>") (w1 : (Jvm.Cond.methodLink y.cls i y').before a0 Z = true) (w2 : (Jvm.Cond.instanceMethod y').before a0 Z = true) (w3 : (Jvm.Cond.initialized y'.cls).before a0 Z = true) (w4 : (Jvm.Cond.code y' bytes' mx' none).before a0 Z = true) (hy : y'.cls ≠ "java/lang/invoke/MethodHandle" ∧ y'.cls ≠ "java/lang/invoke/VarHandle")
    (hpd : parseMethodDescriptor y'.desc = some ⟨ps, rt⟩) (hf : rm'.frames + 1 ≤ R.frames) (hl : w + (mx' + 11) + rm'.locals ≤ R.locals) (hc : k + rm'.cells ≤ R.cells) (hn : n + rm'.slots ≤ R.slots) (hM : Ct l Z y' bytes' mx' none rm' n0 (.ref a :: argsL).toArray h Q) (hlen : argsL.length = ps.length) (hsz : Ls.size = mx) (hw : (rest.map fun v => v.category).sum ≤ w) (hst : st = argsL.reverse ++ .ref a :: rest) (hd : decode code pc = .ok (.invokespecial i, 3)) (r : W h k n pc Ls st) :
    ∃ v h', Q v h' ∧ W h' (k + rm'.cells) (n + rm'.slots) (pc + 3) Ls (v.toList ++ rest) := by
  subst hst
  obtain ⟨p, e, s, m, args, below, meth, c, S0, hx, hby, hml, hown, hZ, hnm, hret, hlk, rfl, rfl⟩ := H
  obtain ⟨T, locs, X, eh, N, sp⟩ := r
  obtain ⟨v, _, ⟨T1, L1, k1, n1⟩, -, X1, ⟨Lc, hQ, g1, g2, g3⟩, st1⟩ := X.specialBack hx (y := y') hi hown (mvT hZ w1) (mvT hZ w2) (mvT hZ w4) hy (backOf (W := w) (Q := fun v hh L => Q v hh ∧ Fr n0 L) (hM []) hZ w4 w3 hf hl) (g := mkF m pc Ls (argsL.reverse ++ .ref a :: rest)) rfl (by rw [hml]; exact hsz) (Steps.refl _) (a := a) (argsL := argsL) (rest := rest) (lenOf hpd hlen) rfl (by show 2 * 0 + _ ≤ _; omega) (hb hby hd) (fun _ _ => ⟨rfl, eh, hc, hn⟩)
  dsimp only [Pt.U, Pt.locs, Pt.cells, Pt.slots] at X1 g1 g2 g3 st1 hQ
  subst g1 g2 g3
  exact ⟨v, T1.heap, hQ.1, T1, _, X1, rfl, Fr.app N hQ.2, fun t u => sp t (st1.trans u)⟩
theorem Wk.callV (H : Wk l Z y code mx ret R n0 W V) {a : Addr} {C : String} {z' : MethodName} (w1 : (Jvm.Cond.methodLink y.cls i z').before a0 Z = true) (w2 : (Jvm.Cond.declares z').before a0 Z = true) (nf : NF Z a0 z') (w5 : (Jvm.Cond.selects C z' y').before a0 Z = true) (w6 : (Jvm.Cond.instanceMethod y').before a0 Z = true) (w3 : (Jvm.Cond.initialized y'.cls).before a0 Z = true) (w4 : (Jvm.Cond.code y' bytes' mx' ret').before a0 Z = true) (hy : z'.cls ≠ "java/lang/invoke/MethodHandle" ∧ z'.cls ≠ "java/lang/invoke/VarHandle")
    (hpd : parseMethodDescriptor z'.desc = some ⟨ps, rt⟩) (hf : rm'.frames + 1 ≤ R.frames) (hl : w + (mx' + 11) + rm'.locals ≤ R.locals) (hc : k + rm'.cells ≤ R.cells) (hn : n + rm'.slots ≤ R.slots) (E : Exa Z h a C) (hM : Ct l Z y' bytes' mx' ret' rm' n0 (.ref a :: argsL).toArray h Q) (hlen : argsL.length = ps.length) (hsz : Ls.size = mx) (hw : (rest.map fun v => v.category).sum ≤ w) (hst : st = argsL.reverse ++ .ref a :: rest) (hd : decode code pc = .ok (.invokevirtual i, 3)) (r : W h k n pc Ls st) :
    ∃ v h', Q v h' ∧ W h' (k + rm'.cells) (n + rm'.slots) (pc + 3) Ls (v.toList ++ rest) := by
  subst hst
  obtain ⟨p, e, s, m, args, below, meth, c, S0, hx, hby, hml, hown, hZ, hnm, hret, hlk, rfl, rfl⟩ := H
  obtain ⟨T, locs, X, eh, N, sp⟩ := r
  obtain ⟨cq, kq, qa, qb, qc⟩ := isOf (s := s) (T := T) hZ eh E
  obtain ⟨v, _, ⟨T1, L1, k1, n1⟩, -, X1, ⟨Lc, hQ, g1, g2, g3⟩, st1⟩ := X.virtualBack hx (y := z') (z := y') hown (mvT hZ w1) (mvT hZ w2) (nf.at hZ) (mvT hZ w5) (mvT hZ w6) hy (backOf (W := w) (Q := fun v hh L => Q v hh ∧ Fr n0 L) (hM []) hZ w4 w3 hf hl) qa qc (g := mkF m pc Ls (argsL.reverse ++ .ref a :: rest)) rfl (by rw [hml]; exact hsz) (Steps.refl _) (argsL := argsL) (rest := rest) (lenOf hpd hlen) rfl (by show 2 * 0 + _ ≤ _; omega) (hb hby hd) (fun _ _ => ⟨rfl, eh, hc, hn⟩)
  dsimp only [Pt.U, Pt.locs, Pt.cells, Pt.slots] at X1 g1 g2 g3 st1 hQ
  subst g1 g2 g3
  exact ⟨v, T1.heap, hQ.1, T1, _, X1, rfl, Fr.app N hQ.2, fun t u => sp t (st1.trans u)⟩
theorem Wk.callSP (H : Wk l Z y code mx ret R n0 W V) {v0 : Option Value} (w1 : (Jvm.Cond.methodLink y.cls i y').before a0 Z = true) (w2 : (Jvm.Cond.static y').before a0 Z = true) (w3 : (Jvm.Cond.initialized y'.cls).before a0 Z = true) (w4 : (Jvm.Cond.code y' bytes' mx' ret').before a0 Z = true) (hy : y'.cls ≠ "java/lang/invoke/MethodHandle" ∧ y'.cls ≠ "java/lang/invoke/VarHandle")
    (hpd : parseMethodDescriptor y'.desc = some ⟨ps, rt⟩) (hf : rm'.frames + 1 ≤ R.frames) (hl : w + (mx' + 11) + rm'.locals ≤ R.locals) (hc : k + rm'.cells ≤ R.cells) (hn : n + rm'.slots ≤ R.slots) (hM : Ct l Z y' bytes' mx' ret' rm' n0 argsL.toArray h (fun v h' => v = v0 ∧ h' = h)) (hlen : argsL.length = ps.length) (hsz : Ls.size = mx) (hw : (rest.map fun v => v.category).sum ≤ w) (hst : st = argsL.reverse ++ rest) (hd : decode code pc = .ok (.invokestatic i, 3)) (r : W h k n pc Ls st) :
    W h (k + rm'.cells) (n + rm'.slots) (pc + 3) Ls (v0.toList ++ rest) := by
  obtain ⟨v, h', ⟨e1, e2⟩, r'⟩ := H.callS w1 w2 w3 w4 hy hpd hf hl hc hn hM hlen hsz hw hst hd r
  rw [← e1, ← e2]
  rw [e2] at r' ⊢
  exact r'
theorem Wk.callVP (H : Wk l Z y code mx ret R n0 W V) {v0 : Option Value} {a : Addr} {C : String} {z' : MethodName} (w1 : (Jvm.Cond.methodLink y.cls i z').before a0 Z = true) (w2 : (Jvm.Cond.declares z').before a0 Z = true) (nf : NF Z a0 z') (w5 : (Jvm.Cond.selects C z' y').before a0 Z = true) (w6 : (Jvm.Cond.instanceMethod y').before a0 Z = true) (w3 : (Jvm.Cond.initialized y'.cls).before a0 Z = true) (w4 : (Jvm.Cond.code y' bytes' mx' ret').before a0 Z = true) (hy : z'.cls ≠ "java/lang/invoke/MethodHandle" ∧ z'.cls ≠ "java/lang/invoke/VarHandle")
    (hpd : parseMethodDescriptor z'.desc = some ⟨ps, rt⟩) (hf : rm'.frames + 1 ≤ R.frames) (hl : w + (mx' + 11) + rm'.locals ≤ R.locals) (hc : k + rm'.cells ≤ R.cells) (hn : n + rm'.slots ≤ R.slots) (E : Exa Z h a C) (hM : Ct l Z y' bytes' mx' ret' rm' n0 (.ref a :: argsL).toArray h (fun v h' => v = v0 ∧ h' = h)) (hlen : argsL.length = ps.length) (hsz : Ls.size = mx) (hw : (rest.map fun v => v.category).sum ≤ w) (hst : st = argsL.reverse ++ .ref a :: rest) (hd : decode code pc = .ok (.invokevirtual i, 3)) (r : W h k n pc Ls st) :
    W h (k + rm'.cells) (n + rm'.slots) (pc + 3) Ls (v0.toList ++ rest) := by
  obtain ⟨v, h', ⟨e1, e2⟩, r'⟩ := H.callV w1 w2 nf w5 w6 w3 w4 hy hpd hf hl hc hn E hM hlen hsz hw hst hd r
  rw [← e1, ← e2]
  rw [e2] at r' ⊢
  exact r'
theorem Wk.retV (H : Wk l Z y code mx ret R n0 W V) {v : Value} {t : FieldType} {ins : Instr} (ht : ret = some t) (hn' : narrow t v = v) (hi : (ins = .ireturn ∧ (t = .int ∨ t = .boolean ∨ t = .byte ∨ t = .char ∨ t = .short) ∧ ∃ z, v = .int z) ∨ (ins = .lreturn ∧ t = .long ∧ ∃ z, v = .long z) ∨ (ins = .dreturn ∧ t = .double ∧ ∃ z, v = .double z) ∨ (ins = .freturn ∧ t = .float ∧ ∃ z, v = .float z) ∨ (ins = .areturn ∧ t.isReference = true ∧ v.isRef = true))
    (hk : k ≤ R.cells) (hn : n ≤ R.slots) (hd : decode code pc = .ok (ins, 1)) (r : W h k n pc Ls (v :: st)) : V (some v) h := by
  obtain ⟨p, e, s, m, args, below, meth, c, S0, hx, hby, hml, hown, hZ, hnm, hret, hlk, rfl, rfl⟩ := H
  obtain ⟨T, locs, X, eh, N, sp⟩ := r
  have hrt : meth.sig.returnType = some t := hret.trans ht
  obtain ⟨fs, hr, hrun, hended, hW, hsame⟩ := X.leave (v := some v) (fun q => by rw [hrt] at q; cases q) hlk
  exact ⟨_, locs, sp _ (retOut X hx hrt hn' hi (hb hby hd) hr), hrun, hended, eh, N, ⟨_, rfl⟩, hW, hsame.mono hk hn⟩
theorem Wk.retI (H : Wk l Z y code mx ret R n0 W V) {z : Int32} (ht : ret = some .int) (hk : k ≤ R.cells) (hn : n ≤ R.slots) (hd : decode code pc = .ok (.ireturn, 1)) (r : W h k n pc Ls (.int z :: st)) : V (some (.int z)) h :=
  H.retV ht rfl (Or.inl ⟨rfl, Or.inl rfl, z, rfl⟩) hk hn hd r
theorem Wk.retJ (H : Wk l Z y code mx ret R n0 W V) {z : Int64} (ht : ret = some .long) (hk : k ≤ R.cells) (hn : n ≤ R.slots) (hd : decode code pc = .ok (.lreturn, 1)) (r : W h k n pc Ls (.long z :: st)) : V (some (.long z)) h :=
  H.retV ht rfl (Or.inr (Or.inl ⟨rfl, rfl, z, rfl⟩)) hk hn hd r
theorem Wk.retZ (H : Wk l Z y code mx ret R n0 W V) {z z' : Int32} (hz : z &&& 1 = z') (ht : ret = some .boolean) (hk : k ≤ R.cells) (hn : n ≤ R.slots) (hd : decode code pc = .ok (.ireturn, 1)) (r : W h k n pc Ls (.int z :: st)) : V (some (.int z')) h := by
  subst hz
  obtain ⟨p, e, s, m, args, below, meth, c, S0, hx, hby, hml, hown, hZ, hnm, hret, hlk, rfl, rfl⟩ := H
  obtain ⟨T, locs, X, eh, N, sp⟩ := r
  have hrt : meth.sig.returnType = some .boolean := hret.trans ht
  obtain ⟨fs, hr, hrun, hended, hW, hsame⟩ := X.leave (v := some (.int (nar .boolean z))) (fun q => by rw [hrt] at q; cases q) hlk
  exact ⟨_, locs, sp _ (retN X hx hrt (by simp) (hb hby hd) hr), hrun, hended, eh, N, ⟨_, rfl⟩, hW, hsame.mono hk hn⟩
theorem Wk.retB (H : Wk l Z y code mx ret R n0 W V) {z z' : Int32} (hz : z.toInt8.toInt32 = z') (ht : ret = some .byte) (hk : k ≤ R.cells) (hn : n ≤ R.slots) (hd : decode code pc = .ok (.ireturn, 1)) (r : W h k n pc Ls (.int z :: st)) : V (some (.int z')) h := by
  subst hz
  obtain ⟨p, e, s, m, args, below, meth, c, S0, hx, hby, hml, hown, hZ, hnm, hret, hlk, rfl, rfl⟩ := H
  obtain ⟨T, locs, X, eh, N, sp⟩ := r
  have hrt : meth.sig.returnType = some .byte := hret.trans ht
  obtain ⟨fs, hr, hrun, hended, hW, hsame⟩ := X.leave (v := some (.int (nar .byte z))) (fun q => by rw [hrt] at q; cases q) hlk
  exact ⟨_, locs, sp _ (retN X hx hrt (by simp) (hb hby hd) hr), hrun, hended, eh, N, ⟨_, rfl⟩, hW, hsame.mono hk hn⟩
theorem Wk.retC (H : Wk l Z y code mx ret R n0 W V) {z z' : Int32} (hz : z.toUInt32.toUInt16.toUInt32.toInt32 = z') (ht : ret = some .char) (hk : k ≤ R.cells) (hn : n ≤ R.slots) (hd : decode code pc = .ok (.ireturn, 1)) (r : W h k n pc Ls (.int z :: st)) : V (some (.int z')) h := by
  subst hz
  obtain ⟨p, e, s, m, args, below, meth, c, S0, hx, hby, hml, hown, hZ, hnm, hret, hlk, rfl, rfl⟩ := H
  obtain ⟨T, locs, X, eh, N, sp⟩ := r
  have hrt : meth.sig.returnType = some .char := hret.trans ht
  obtain ⟨fs, hr, hrun, hended, hW, hsame⟩ := X.leave (v := some (.int (nar .char z))) (fun q => by rw [hrt] at q; cases q) hlk
  exact ⟨_, locs, sp _ (retN X hx hrt (by simp) (hb hby hd) hr), hrun, hended, eh, N, ⟨_, rfl⟩, hW, hsame.mono hk hn⟩
theorem Wk.retR (H : Wk l Z y code mx ret R n0 W V) {v : Value} {t : FieldType} (ht : ret = some t) (htr : t.isReference = true) (hv : v.isRef = true) (hk : k ≤ R.cells) (hn : n ≤ R.slots) (hd : decode code pc = .ok (.areturn, 1)) (r : W h k n pc Ls (v :: st)) : V (some v) h :=
  H.retV ht (by cases v <;> simp [Value.isRef] at hv <;> cases t <;> simp [FieldType.isReference] at htr <;> rfl) (Or.inr (Or.inr (Or.inr (Or.inr ⟨rfl, htr, hv⟩)))) hk hn hd r
theorem Wk.retN (H : Wk l Z y code mx ret R n0 W V) (ht : ret = none) (hk : k ≤ R.cells) (hn : n ≤ R.slots) (hd : decode code pc = .ok (.return_, 1)) (r : W h k n pc Ls []) : V none h := by
  obtain ⟨p, e, s, m, args, below, meth, c, S0, hx, hby, hml, hown, hZ, hnm, hret, hlk, rfl, rfl⟩ := H
  obtain ⟨T, locs, X, eh, N, sp⟩ := r
  have hrt : meth.sig.returnType = none := hret.trans ht
  obtain ⟨fs, hr, hrun, hended, hW, hsame⟩ := X.leave (v := none) (fun _ => rfl) hlk
  exact ⟨_, locs, sp _ (X.returnOut hx hrt (hb hby hd) hr), hrun, hended, eh, N, ⟨_, rfl⟩, hW, hsame.mono hk hn⟩
end Steps
end Jvm.OwnW
namespace Jvm.OwnW
open Jvm Jvm.ClassFile Sem Op Lib Jvm.Free Jvm.Stand Jvm.LawKit Jvm.RoadKit Bundle
/-- an array at a, of components ty, that holds just vs -/
def Ary (Z : State) (h : Heap) (a : Addr) (ty : FieldType) (vs : List Value) : Prop := ∃ c : Cell, Arr Z h a c ty ∧ c.slots = vs.toArray
section Arrays
variable {l : Launch} {Z : State} {y : MethodName} {code : ByteArray} {mx : Nat} {ret : Option FieldType} {R : Room} {n0 : Nat} {W : WT} {V : VT} {h h' : Heap} {k n pc : Nat} {Ls : Array Slot} {st : List Value} {a0 : Array Value} {a b : Addr} {ty : FieldType} {vs : List Value} {ws : List Addr} {sl : Nat} {v : Value}
theorem Ary.lt (A : Ary Z h a ty vs) : a < h.size := by obtain ⟨c, A, -⟩ := A; exact A.lt
theorem Ary.ext (A : Ary Z h a ty vs) (E : Ext h h') : Ary Z h' a ty vs := by obtain ⟨c, A, q⟩ := A; exact ⟨c, A.ext E, q⟩
theorem Ary.other (A : Ary Z h b ty vs) (w : Wr h h' a sl v) (ne : b ≠ a) : Ary Z h' b ty vs := by obtain ⟨c, A, q⟩ := A; exact ⟨c, A.other w ne, q⟩
theorem Ary.keep (A : Ary Z h a ty vs) (K : Keep h h' ws) (q : a ∉ ws) : Ary Z h' a ty vs := by obtain ⟨c, A, r⟩ := A; exact ⟨c, ⟨K.2.1 a c A.1 q, A.2⟩, r⟩
theorem Ary.same (A : Ary Z h a ty vs) (w : Wr h h' a sl v) : Ary Z h' a ty (vs.set sl v) := by
  obtain ⟨c, A, q⟩ := A
  refine ⟨_, A.same w, ?_⟩
  show c.slots.setIfInBounds sl v = _
  rw [q, List.setIfInBounds_toArray]
theorem idx_ok {j : Int32} {i : Nat} (hj : j.toInt = i) : j.toNatClampNeg = i ∧ ¬ j < 0 := by
  refine ⟨?_, ?_⟩
  · show j.toInt.toNat = i
    rw [hj]; rfl
  · rw [Int32.lt_iff_toInt_lt, hj, Int32.toInt_zero]
    omega
theorem idx_in' {j : Int32} {i : Nat} (hj : j.toInt = i) {c : Cell} (q : c.slots = vs.toArray) (hi : i < vs.length) : ¬ (j < 0 ∨ c.slots.size ≤ j.toNatClampNeg) := by
  obtain ⟨h1, h2⟩ := idx_ok hj
  rw [h1, q, List.size_toArray]
  exact fun u => u.elim h2 (fun u => by omega)
theorem Wk.newA (H : Wk l Z y code mx ret R n0 W V) {aty : ArrayType} {z : Int32} {cap i : Nat} {d : Value} (hty : newarray.typeOf aty = ty) (hdv : defaultValue ty = d) (w : (Jvm.Cond.arrayClass ty).before a0 Z = true) (hz : z.toInt = i) (hcap : i ≤ cap) (hb8 : cap * 8 ≤ 536870912) (hc : k + 1 ≤ R.cells) (hl : n + cap ≤ R.slots) (hd : decode code pc = .ok (.newarray aty, 2)) (r : W h k n pc Ls (.int z :: st)) :
    ∃ h' a, a = h.size ∧ Ext h h' ∧ Ary Z h' a ty (List.replicate i d) ∧ W h' (k + 1) (n + cap) (pc + 2) Ls (.ref a :: st) := by
  obtain ⟨h1, h2⟩ := idx_ok hz
  obtain ⟨h', a, cA, e, E, A, r'⟩ := H.newP hty w h2 (by rw [h1]; exact hcap) hb8 hc hl hd r
  refine ⟨h', a, e, E, ⟨_, A, ?_⟩, r'⟩
  show Array.replicate z.toNatClampNeg (defaultValue ty) = _
  rw [h1, hdv, List.toArray_replicate]
theorem Wk.newAE (H : Wk l Z y code mx ret R n0 W V) {aty : ArrayType} {z : Int32} {cap i : Nat} {d : Value} {ad : String} (hty : newarray.typeOf aty = ty) (hdv : defaultValue ty = d) (had : "[" ++ ty.toString = ad) (w : (Jvm.Cond.arrayClass ty).before a0 Z = true) (hz : z.toInt = i) (hcap : i ≤ cap) (hb8 : cap * 8 ≤ 536870912) (hc : k + 1 ≤ R.cells) (hl : n + cap ≤ R.slots) (hd : decode code pc = .ok (.newarray aty, 2)) (r : W h k n pc Ls (.int z :: st)) :
    ∃ h' a, a = h.size ∧ Ext h h' ∧ Ary Z h' a ty (List.replicate i d) ∧ Exa Z h' a ad ∧ W h' (k + 1) (n + cap) (pc + 2) Ls (.ref a :: st) := by
  obtain ⟨h1, h2⟩ := idx_ok hz
  subst hty
  obtain ⟨p, e, s, m, args, below, meth, c, S0, hx, hby, hml, hown, hZ, hnm, hret, hlk, rfl, rfl⟩ := H
  obtain ⟨T, locs, X, eh, N, sp⟩ := r
  obtain ⟨T', h', cA, X', e', E', A', EX, q'⟩ := RoadKit.newPE X hx hZ w eh (g := mkF m pc Ls (.int z :: st)) rfl (hb hby hd) rfl h2 (by rw [h1]; exact hcap) hb8 hc hl had
  refine ⟨h', _, rfl, E', ⟨_, A', ?_⟩, EX, T', _, X', e', N, fun t u => sp t (q' t u)⟩
  show Array.replicate z.toNatClampNeg (defaultValue (newarray.typeOf aty)) = _
  rw [h1, hdv, List.toArray_replicate]
theorem Wk.cloneA (H : Wk l Z y code mx ret R n0 W V) {i w cap : Nat} {ad : String} (w1 : (Jvm.Cond.methodLink y.cls i ⟨ad, "clone", "()Ljava/lang/Object;"⟩).before a0 Z = true) (w2 : (Jvm.Cond.sameMethod ad "java/lang/Object" "clone" "()Ljava/lang/Object;").before a0 Z = true) (w3 : (Jvm.Cond.native ⟨"java/lang/Object", "clone", "()Ljava/lang/Object;"⟩).before a0 Z = true)
    (w4 : (Jvm.Cond.instanceMethod ⟨"java/lang/Object", "clone", "()Ljava/lang/Object;"⟩).before a0 Z = true) (w5 : (Jvm.Cond.selects ad ⟨ad, "clone", "()Ljava/lang/Object;"⟩ ⟨"java/lang/Object", "clone", "()Ljava/lang/Object;"⟩).before a0 Z = true) (w6 : (Jvm.Cond.castable ad "java/lang/Cloneable").before a0 Z = true)
    (A : Ary Z h a ty vs) (E : Exa Z h a ad) (hfit : ∀ v ∈ vs, fits ty v = true) (hsz : Ls.size = mx) (hf : 1 ≤ R.frames) (hw : (st.map fun v => v.category).sum ≤ w) (hl : w + 14 ≤ R.locals) (hcap : vs.length ≤ cap) (hc : k + 1 ≤ R.cells) (hsl : n + cap ≤ R.slots) (hd : decode code pc = .ok (.invokevirtual i, 3)) (r : W h k n pc Ls (.ref a :: st)) :
    ∃ h' b, b = h.size ∧ Ext h h' ∧ Ary Z h' b ty vs ∧ Exa Z h' b ad ∧ W h' (k + 1) (n + cap) (pc + 3) Ls (.ref b :: st) := by
  obtain ⟨p, e, s, m, args, below, meth, c, S0, hx, hby, hml, hown, hZ, hnm, hret, hlk, rfl, rfl⟩ := H
  obtain ⟨T, locs, X, eh, N, sp⟩ := r
  obtain ⟨cl, Ar, q⟩ := A
  have hF : FitC Z cl := fitC_of Ar (fun j hj v hv => hfit v (by rw [q, List.getElem?_toArray] at hv; exact List.mem_of_getElem? hv))
  obtain ⟨T', h', X', e', E', A', EX, q'⟩ := RoadKit.cloneA X hx hZ hown w1 w2 w3 w4 w5 w6 eh Ar E hF (g := mkF m pc Ls (.ref a :: st)) rfl (by rw [hml]; exact hsz) rfl (hb hby hd) hf (by show 2 * 0 + _ ≤ _; omega) hl (by rw [q, List.size_toArray]; exact hcap) hc hsl
  exact ⟨h', _, rfl, E', ⟨_, A', q⟩, EX, T', _, X', e', N, fun t u => sp t (q' t u)⟩
theorem Wk.lenA (H : Wk l Z y code mx ret R n0 W V) {z : Int32} (A : Ary Z h a ty vs) (hz : vs.length.toInt32 = z) (hd : decode code pc = .ok (.arraylength, 1)) (r : W h k n pc Ls (.ref a :: st)) : W h k n (pc + 1) Ls (.int z :: st) := by
  obtain ⟨c, A, q⟩ := A
  exact H.arrLen A (by rw [q, List.size_toArray]; exact hz) hd r
theorem Wk.ldI (H : Wk l Z y code mx ret R n0 W V) {j : Int32} {i : Nat} (A : Ary Z h a .int vs) (hj : j.toInt = i) (hv : vs[i]? = some v) (hd : decode code pc = .ok (.iaload, 1)) (r : W h k n pc Ls (.int j :: .ref a :: st)) : W h k n (pc + 1) Ls (v :: st) := by
  obtain ⟨c, A, q⟩ := A
  obtain ⟨h1, h2⟩ := idx_ok hj
  exact H.iaload A (idx_in' hj q (List.getElem?_eq_some_iff.mp hv).1) (by rw [h1, q, List.getElem?_toArray]; exact hv) hd r
theorem Wk.ldJ (H : Wk l Z y code mx ret R n0 W V) {j : Int32} {i : Nat} (A : Ary Z h a .long vs) (hj : j.toInt = i) (hv : vs[i]? = some v) (hd : decode code pc = .ok (.laload, 1)) (r : W h k n pc Ls (.int j :: .ref a :: st)) : W h k n (pc + 1) Ls (v :: st) := by
  obtain ⟨c, A, q⟩ := A
  obtain ⟨h1, h2⟩ := idx_ok hj
  exact H.laload A (idx_in' hj q (List.getElem?_eq_some_iff.mp hv).1) (by rw [h1, q, List.getElem?_toArray]; exact hv) hd r
theorem Wk.ldC (H : Wk l Z y code mx ret R n0 W V) {j : Int32} {i : Nat} (A : Ary Z h a .char vs) (hj : j.toInt = i) (hv : vs[i]? = some v) (hd : decode code pc = .ok (.caload, 1)) (r : W h k n pc Ls (.int j :: .ref a :: st)) : W h k n (pc + 1) Ls (v :: st) := by
  obtain ⟨c, A, q⟩ := A
  obtain ⟨h1, h2⟩ := idx_ok hj
  exact H.caload A (idx_in' hj q (List.getElem?_eq_some_iff.mp hv).1) (by rw [h1, q, List.getElem?_toArray]; exact hv) hd r
theorem Wk.ldB (H : Wk l Z y code mx ret R n0 W V) {j : Int32} {i : Nat} (A : Ary Z h a .byte vs) (hj : j.toInt = i) (hv : vs[i]? = some v) (hd : decode code pc = .ok (.baload, 1)) (r : W h k n pc Ls (.int j :: .ref a :: st)) : W h k n (pc + 1) Ls (v :: st) := by
  obtain ⟨c, A, q⟩ := A
  obtain ⟨h1, h2⟩ := idx_ok hj
  exact H.baload A (idx_in' hj q (List.getElem?_eq_some_iff.mp hv).1) (by rw [h1, q, List.getElem?_toArray]; exact hv) hd r
theorem Wk.putI (H : Wk l Z y code mx ret R n0 W V) {j : Int32} {i : Nat} {x : Int32} (A : Ary Z h a .int vs) (hj : j.toInt = i) (hi : i < vs.length) (hn0 : n0 ≤ a) (hd : decode code pc = .ok (.iastore, 1)) (r : W h k n pc Ls (.int x :: .int j :: .ref a :: st)) : ∃ h', Wr h h' a i (.int x) ∧ Ary Z h' a .int (vs.set i (.int x)) ∧ W h' k n (pc + 1) Ls st := by
  obtain ⟨h1, h2⟩ := idx_ok hj
  obtain ⟨c, A', q⟩ := id A
  obtain ⟨h', w, r'⟩ := H.stI A' (idx_in' hj q hi) hn0 hd r
  rw [h1] at w
  exact ⟨h', w, A.same w, r'⟩
theorem Wk.putJ (H : Wk l Z y code mx ret R n0 W V) {j : Int32} {i : Nat} {x : Int64} (A : Ary Z h a .long vs) (hj : j.toInt = i) (hi : i < vs.length) (hn0 : n0 ≤ a) (hd : decode code pc = .ok (.lastore, 1)) (r : W h k n pc Ls (.long x :: .int j :: .ref a :: st)) : ∃ h', Wr h h' a i (.long x) ∧ Ary Z h' a .long (vs.set i (.long x)) ∧ W h' k n (pc + 1) Ls st := by
  obtain ⟨h1, h2⟩ := idx_ok hj
  obtain ⟨c, A', q⟩ := id A
  obtain ⟨h', w, r'⟩ := H.stJ A' (idx_in' hj q hi) hn0 hd r
  rw [h1] at w
  exact ⟨h', w, A.same w, r'⟩
theorem Wk.putC (H : Wk l Z y code mx ret R n0 W V) {j : Int32} {i : Nat} {x : Int32} {z : Int32} (hz : x.toUInt32.toUInt16.toUInt32.toInt32 = z) (A : Ary Z h a .char vs) (hj : j.toInt = i) (hi : i < vs.length) (hn0 : n0 ≤ a) (hd : decode code pc = .ok (.castore, 1)) (r : W h k n pc Ls (.int x :: .int j :: .ref a :: st)) : ∃ h', Wr h h' a i (.int z) ∧ Ary Z h' a .char (vs.set i (.int z)) ∧ W h' k n (pc + 1) Ls st := by
  subst hz
  obtain ⟨h1, h2⟩ := idx_ok hj
  obtain ⟨c, A', q⟩ := id A
  obtain ⟨h', w, r'⟩ := H.stC A' (idx_in' hj q hi) hn0 hd r
  rw [h1] at w
  exact ⟨h', w, A.same w, r'⟩
theorem Wk.putB (H : Wk l Z y code mx ret R n0 W V) {j : Int32} {i : Nat} {x : Int32} {z : Int32} (hz : x.toInt8.toInt32 = z) (A : Ary Z h a .byte vs) (hj : j.toInt = i) (hi : i < vs.length) (hn0 : n0 ≤ a) (hd : decode code pc = .ok (.bastore, 1)) (r : W h k n pc Ls (.int x :: .int j :: .ref a :: st)) : ∃ h', Wr h h' a i (.int z) ∧ Ary Z h' a .byte (vs.set i (.int z)) ∧ W h' k n (pc + 1) Ls st := by
  subst hz
  obtain ⟨h1, h2⟩ := idx_ok hj
  obtain ⟨c, A', q⟩ := id A
  obtain ⟨h', w, r'⟩ := H.stB A' (idx_in' hj q hi) hn0 hd r
  rw [h1] at w
  exact ⟨h', w, A.same w, r'⟩
end Arrays
theorem ns_root {Z : State} {a0 : Array Value} {O K : String} {q : Nat} (w : (Jvm.Cond.noSuperclass O).before a0 Z = true) (wk : (Jvm.Cond.instantiable K q).before a0 Z = true) (hn : O ≠ K) : NS Z O K := by
  obtain ⟨c, k, h1, h2, h3, -, -⟩ := Cond.noSuperclass_spec w
  obtain ⟨t, k', g1, g2, -⟩ := Cond.instantiable_spec wk
  have ne := ids_ne h1 g1 hn
  refine ⟨c, t, h1, g1, fun fuel => ?_⟩
  cases fuel with
  | zero => rfl
  | succ f => simp [Vm.isSubclassAux, ne, h2, h3]
theorem ns_no {Z : State} {a0 : Array Value} {C S K : String} {q : Nat} (w : (Jvm.Cond.superclass C S).before a0 Z = true) (wk : (Jvm.Cond.instantiable K q).before a0 Z = true) (n : NS Z C K) (hn : C ≠ K) : ∃ c t, Z.vm.findClass C = some c ∧ Z.vm.findClass K = some t ∧ Z.vm.assignable c t = false := by
  obtain ⟨c, t, h0, g0, n3⟩ := n
  obtain ⟨p, k, kp, h1, h2, h3, h4, h5, -, h7⟩ := Cond.superclass_spec h0 w
  obtain ⟨t', k', g1, g2, g5, g7, -⟩ := Cond.instantiable_spec wk
  cases g0.symm.trans g1
  have ne := ids_ne h0 g0 hn
  have g8 : k'.isInterface = false := by cases hh : k'.isInterface <;> simp [hh] at g7 ⊢
  refine ⟨c, t, h0, g0, ?_⟩
  show Z.vm.assignableAux (255 + 1) c t = false
  simp [Vm.assignableAux, ne, h2, g2, h5, g5, g8, Vm.isSubclass, n3]
/-- (k & 0x7fffffff) % m as a natural -/
theorem own_modn (k : Int32) (m : Nat) (h0 : 0 < m) (hm : m < 2147483648) : ∃ i : Nat, i < m ∧ (k &&& (2147483647 : Int32)) % Int32.ofNat m = Int32.ofNat i := by
  have h1 : (k &&& (2147483647 : Int32)).toInt = k.toInt % (2 ^ 31 : Nat) := c_mask k _ 31 (by decide) (by decide)
  have hM : (Int32.ofNat m).toInt = (m : Int) := Int32.toInt_ofNat_of_lt (by omega)
  have h2 := (c_irem (k &&& (2147483647 : Int32)) (Int32.ofNat m) m hM).1 (by rw [h1]; omega)
  have h3 : 0 ≤ (k &&& (2147483647 : Int32)).toInt % (m : Int) := Int.emod_nonneg _ (by omega)
  have h4 : (k &&& (2147483647 : Int32)).toInt % (m : Int) < m := Int.emod_lt_of_pos _ (by omega)
  refine ⟨((k &&& (2147483647 : Int32)) % Int32.ofNat m).toInt.toNat, by omega, ?_⟩
  apply Int32.toInt_inj.mp
  rw [Int32.toInt_ofNat_of_lt (by omega)]
  omega
theorem own_ofNat {i : Nat} (hi : i < 2147483648) : (Int32.ofNat i).toInt = (i : Int) := Int32.toInt_ofNat_of_lt (by omega)
theorem own_ltN {i j : Nat} (hi : i < 2147483648) (hj : j < 2147483648) : Int32.ofNat i < Int32.ofNat j ↔ i < j := by
  rw [Int32.lt_iff_toInt_lt, own_ofNat hi, own_ofNat hj]
  omega
theorem own_eqN {i j : Nat} (hi : i < 2147483648) (hj : j < 2147483648) : Int32.ofNat i = Int32.ofNat j ↔ i = j := by
  rw [← Int32.toInt_inj, own_ofNat hi, own_ofNat hj]
  omega
theorem own_nn {n : Nat} (hn : n < 2147483648) : ¬ Int32.ofNat n < 0 := by
  rw [Int32.lt_iff_toInt_lt, own_ofNat hn, show (0 : Int32).toInt = 0 from rfl]
  omega
theorem own_pred {n : Nat} (hp : 0 < n) (hn : n < 2147483648) : (Int32.ofNat n - (1 : Int32)).toInt = ((n - 1 : Nat) : Int) := by
  have h2 := c_isub (Int32.ofNat n) (1 : Int32)
  have r2 := rng32 (Int32.ofNat n - (1 : Int32))
  rw [own_ofNat hn, show (1 : Int32).toInt = 1 from rfl] at h2
  omega
theorem own_succ (i : Nat) : Int32.ofNat i + (1 : Int32) = Int32.ofNat (i + 1) := (Int32.ofNat_add i 1).symm
end Jvm.OwnW

namespace Jvm.OwnS
open Jvm Jvm.ClassFile Sem Op Lib Jvm.Free Jvm.Stand Jvm.LawKit Jvm.RoadKit Bundle Jvm.OwnW
/-- s is s0 with later tables: at most string constants have been resolved and interned since -/
def Base (Z s0 s : State) (own : String) (h : Heap) (Ts : List String × Option (Nat × Addr)) : Prop := ∃ (vm0 : Vm) (k0 : Nat), s = s0.setVm vm0 ∧ s0.Since vm0 k0 ∧ k0 ≤ h.size ∧ IB Z vm0 Ts.1 ∧ ∀ i a, Ts.2 = some (i, a) → Lit s own i a
theorem Base.mono {Z s0 s : State} {own : String} {h h' : Heap} {Ts : List String × Option (Nat × Addr)} (B : Base Z s0 s own h Ts) (q : h.size ≤ h'.size) : Base Z s0 s own h' Ts := by
  obtain ⟨vm0, k0, e, S, hk, I, J⟩ := B
  exact ⟨vm0, k0, e, S, Nat.le_trans hk q, I, J⟩
theorem Base.fin {Z s0 s : State} {own : String} {h : Heap} {Ts : List String × Option (Nat × Addr)} {U : State} {L : List Loc} {k n : Nat} (B : Base Z s0 s own h Ts) (eh : U.heap = h) (hW : s.WarmedH U.vm) (hs : s.sameButNew ({ U with vm := s.vm } : State) L k n) : s0.Warmed39 U.vm ∧ s0.Booked U.vm U.heap.size ∧ s0.sameButNew ({ U with vm := s0.vm } : State) L k n := by
  obtain ⟨vm0, k0, rfl, S, hk, I, J⟩ := B
  exact S.ended hW (by rw [eh]; exact hk) hs
def At1 (p : Program) (l : Launch) (e : Env) (R : Room) (Z s0 : State) (m : MethodId) (args : Array Value) (below : List Frame) (meth : Method) (c : Code) (y : MethodName) (n0 : Nat) (S0 : State) (Ts : List String × Option (Nat × Addr)) (h : Heap) (k n pc : Nat) (Ls : Array Slot) (st : List Value) : Prop :=
  ∃ (s T : State) (locs : List Loc), Stand p l e R s m args below meth c T locs k n ∧ T.heap = h ∧ Fr n0 locs ∧ s.vm.findClass y.cls = some m.cls ∧ Z.Warmed39 s.vm ∧ Base Z s0 s y.cls h Ts ∧ ∀ t, Steps p.tables e below (T.setTop (mkF m pc Ls st)) t → Steps p.tables e below S0 t
def End1 (p : Program) (e : Env) (R : Room) (s0 : State) (below : List Frame) (n0 : Nat) (S0 : State) (v : Option Value) (h : Heap) : Prop :=
  ∃ (s₂ : State) (L : List Loc), Steps p.tables e below S0 s₂ ∧ s₂.status = .running ∧ Ended s₂ below (.returned v) ∧ s₂.heap = h ∧ Fr n0 L ∧ (∃ w : Option Value, Outcome.returned v = .returned w) ∧ s0.Warmed39 s₂.vm ∧ s0.Booked s₂.vm s₂.heap.size ∧ s0.sameButNew ({ s₂ with vm := s0.vm } : State) L R.cells R.slots
abbrev WTS := (List String × Option (Nat × Addr)) → Heap → Nat → Nat → Nat → Array Slot → List Value → Prop
/-- W and V are of one walk of the body of y; the start Z is the walk's own -/
def WkS (l : Launch) (Z : State) (y : MethodName) (code : ByteArray) (mx : Nat) (ret : Option FieldType) (R : Room) (n0 : Nat) (W : WTS) (V : VT) : Prop :=
  ∃ (p : Program) (e : Env) (s0 : State) (m : MethodId) (args : Array Value) (below : List Frame) (meth : Method) (c : Code) (S0 : State),
    p.tables.exec = Jvm.exec ∧ c.code = code ∧ c.maxLocals = mx ∧ meth.name = y.name ∧ meth.sig.returnType = ret ∧ meth.locks = false ∧ (s0.heap = Z.heap ∧ n0 = s0.heap.size) ∧
    W = At1 p l e R Z s0 m args below meth c y n0 S0 ∧ V = End1 p e R s0 below n0 S0
/-- a contract with the wide end -/
def CtW (l : Launch) (Z : State) (y : MethodName) (bytes : ByteArray) (mx : Nat) (ret : Option FieldType) (rm : Room) (as : Array Value) (Q : Option Value → Heap → Prop) : Prop :=
  ∀ ws : List Jvm.Cond, MetFree l y (head1 (Jvm.Cond.code y bytes mx ret :: ws) rm) (fun a U => a = as ∧ Z.Warmed39 U.vm ∧ U.heap = Z.heap ∧ IB Z U.vm []) (fun _ _ _ _ _ => True) (fun _ U o U' => ∃ v L, o = .returned v ∧ (Q v U'.heap ∧ Fr Z.heap.size L) ∧ (∃ w, o = .returned w) ∧ U.Warmed39 U'.vm ∧ U.Booked U'.vm U'.heap.size ∧ U.sameButNew ({ U' with vm := U.vm } : State) L rm.cells rm.slots)
theorem CtW.of {l : Launch} {Z : State} {y : MethodName} {bytes : ByteArray} {mx : Nat} {ret : Option FieldType} {rm : Room} {as : Array Value} {Q : Option Value → Heap → Prop} {Ls : Array Slot} (hpn : plainFor y = true) (hef : ∀ m, entryFrame m as mx = mkF m 0 Ls [])
    (body : ∀ W V, WkS l Z y bytes mx ret rm Z.heap.size W V → W ([], none) Z.heap 0 0 0 Ls [] → ∃ v h', V v h' ∧ Q v h') : CtW l Z y bytes mx ret rm as Q := by
  intro ws
  refine MetFree.of_bodySF hpn hisR ?_
  intro p e s m args below meth c s₁ Bd hml0 hP hK
  obtain ⟨rfl, hZ, hh, hI⟩ := hP
  have X0 : Stand p l e rm s m args below meth c s₁ [] 0 0 := Stand.of_body Bd
  have e0 : s₁.heap = Z.heap := by rw [← hh, Bd.state]; rfl
  obtain ⟨v, h', ⟨s₂, L, g1, g2, g3, g4, g5, g6⟩, hQ⟩ := body _ _ ⟨p, e, s, m, args, below, meth, c, s₁.setTop (entryFrame m args mx), Bd.exec, Bd.bytes, hml0, (name_of_methodNamed Bd.named Bd.method).1, Bd.returns, Bd.notSynchronized, ⟨hh, by rw [hh]⟩, rfl, rfl⟩
    ⟨s, s₁, [], X0, e0, Fr.nil _, findClass_of_methodNamed Bd.named, hZ, ⟨s.vm, 0, rfl, (State.WarmedH.refl s).since 0, Nat.zero_le _, hI, fun _ _ q => by first | cases q | simp at q⟩, fun t k => castTop (hef m) k⟩
  exact ⟨s₂, _, g1, g2, g3, v, L, rfl, ⟨by rw [g4]; exact hQ, g5⟩, g6⟩
section Steps
variable {l : Launch} {Z : State} {y : MethodName} {code : ByteArray} {mx : Nat} {ret : Option FieldType} {R : Room} {n0 : Nat} {W : WTS} {Ts : List String × Option (Nat × Addr)} {V : VT} {h : Heap} {k n pc pc' : Nat} {Ls Ls' : Array Slot} {st st' : List Value} {a0 : Array Value}
/-- a plain step, by the library's law for it -/
theorem WkS.step (H : WkS l Z y code mx ret R n0 W V) (r : W Ts h k n pc Ls st)
    (f : ∀ {tb : Tables} [Ours tb] {e : Env} {below : List Frame} {T t : State} {m : MethodId} {c : Code}, At T m c below → tb.exec = Jvm.exec → c.code = code → Steps tb e below (T.setTop (mkF m pc' Ls' st')) t → Steps tb e below (T.setTop (mkF m pc Ls st)) t) : W Ts h k n pc' Ls' st' := by
  obtain ⟨p, e, s0, m, args, below, meth, c, S0, hx, hby, hml, hnm, hret, hlk, hZs, rfl, rfl⟩ := H
  obtain ⟨s, T, locs, X, eh, N, hown, hZ, hB, sp⟩ := r
  exact ⟨s, T, locs, X, eh, N, hown, hZ, hB, fun t q => sp t (f X.here hx hby q)⟩
/-- the account of cells and slots may be widened -/
theorem WkS.more (H : WkS l Z y code mx ret R n0 W V) {k' n' : Nat} (hk : k ≤ k') (hn : n ≤ n') (r : W Ts h k n pc Ls st) : W Ts h k' n' pc Ls st := by
  obtain ⟨p, e, s0, m, args, below, meth, c, S0, hx, hby, hml, hnm, hret, hlk, hZs, rfl, rfl⟩ := H
  obtain ⟨s, T, locs, X, eh, N, hown, hZ, hB, sp⟩ := r
  exact ⟨s, T, locs, X.mono hk hn, eh, N, hown, hZ, hB, sp⟩
/-- a step that reads the tables or the heap -/
theorem WkS.stepX (H : WkS l Z y code mx ret R n0 W V) (r : W Ts h k n pc Ls st)
    (f : ∀ {p : Program} {e : Env} {s : State} {m : MethodId} {args : Array Value} {below : List Frame} {meth : Method} {c : Code} {T : State} {locs : List Loc}, Stand p l e R s m args below meth c T locs k n → p.tables.exec = Jvm.exec → c.code = code → c.maxLocals = mx → s.vm.findClass y.cls = some m.cls → Z.Warmed39 s.vm → T.heap = h → ∃ T', Stand p l e R s m args below meth c T' locs k n ∧ T'.heap = h ∧ ∀ t, Steps p.tables e below (T'.setTop (mkF m pc' Ls' st')) t → Steps p.tables e below (T.setTop (mkF m pc Ls st)) t) : W Ts h k n pc' Ls' st' := by
  obtain ⟨p, e, s0, m, args, below, meth, c, S0, hx, hby, hml, hnm, hret, hlk, hZs, rfl, rfl⟩ := H
  obtain ⟨s, T, locs, X, eh, N, hown, hZ, hB, sp⟩ := r
  obtain ⟨T', X', e', q⟩ := f X hx hby hml hown hZ eh
  exact ⟨s, T', locs, X', e', N, hown, hZ, hB, fun t u => sp t (q t u)⟩
theorem WkS.aloadN (H : WkS l Z y code mx ret R n0 W V) {i : Fin 4} {v : Value} (hd : decode code pc = .ok (.aload_n i, 1)) (r : W Ts h k n pc Ls (st)) (hl : Ls[i.val]? = some (.val v)) (hv : v.isRef = true) : W Ts h k n (pc + 1) Ls (v :: st) :=
  H.step r fun A hx hby q => XS.aloadN A hx rfl (hb hby hd) hl hv q
theorem WkS.aload (H : WkS l Z y code mx ret R n0 W V) {i : Nat} {v : Value} (hd : decode code pc = .ok (.aload i, 2)) (r : W Ts h k n pc Ls (st)) (hl : Ls[i]? = some (.val v)) (hv : v.isRef = true) : W Ts h k n (pc + 2) Ls (v :: st) :=
  H.step r fun A hx hby q => XS.aload A hx rfl (hb hby hd) hl hv q
theorem WkS.iloadN (H : WkS l Z y code mx ret R n0 W V) {i : Fin 4} {v : Int32} (hd : decode code pc = .ok (.iload_n i, 1)) (r : W Ts h k n pc Ls (st)) (hl : Ls[i.val]? = some (.val (.int v))) : W Ts h k n (pc + 1) Ls (.int v :: st) :=
  H.step r fun A hx hby q => XS.iloadN A hx rfl (hb hby hd) hl q
theorem WkS.iload (H : WkS l Z y code mx ret R n0 W V) {i : Nat} {v : Int32} (hd : decode code pc = .ok (.iload i, 2)) (r : W Ts h k n pc Ls (st)) (hl : Ls[i]? = some (.val (.int v))) : W Ts h k n (pc + 2) Ls (.int v :: st) :=
  H.step r fun A hx hby q => XS.iload A hx rfl (hb hby hd) hl q
theorem WkS.lloadN (H : WkS l Z y code mx ret R n0 W V) {i : Fin 4} {v : Int64} (hd : decode code pc = .ok (.lload_n i, 1)) (r : W Ts h k n pc Ls (st)) (hl : Ls[i.val]? = some (.val (.long v))) : W Ts h k n (pc + 1) Ls (.long v :: st) :=
  H.step r fun A hx hby q => XS.lloadN A hx rfl (hb hby hd) hl q
theorem WkS.lload (H : WkS l Z y code mx ret R n0 W V) {i : Nat} {v : Int64} (hd : decode code pc = .ok (.lload i, 2)) (r : W Ts h k n pc Ls (st)) (hl : Ls[i]? = some (.val (.long v))) : W Ts h k n (pc + 2) Ls (.long v :: st) :=
  H.step r fun A hx hby q => XS.lload A hx rfl (hb hby hd) hl q
theorem WkS.floadN (H : WkS l Z y code mx ret R n0 W V) {i : Fin 4} {v : UInt32} (hd : decode code pc = .ok (.fload_n i, 1)) (r : W Ts h k n pc Ls (st)) (hl : Ls[i.val]? = some (.val (.float v))) : W Ts h k n (pc + 1) Ls (.float v :: st) :=
  H.step r fun A hx hby q => XS.floadN A hx rfl (hb hby hd) hl q
theorem WkS.iconst (H : WkS l Z y code mx ret R n0 W V) {i : Int} {z : Int32} (hd : decode code pc = .ok (.iconst i, 1)) (r : W Ts h k n pc Ls st) (hz : Int32.ofInt i = z) : W Ts h k n (pc + 1) Ls (.int z :: st) := by
  subst hz
  exact H.step r fun A hx hby q => XS.iconst A hx rfl (hb hby hd) q
theorem WkS.bipush (H : WkS l Z y code mx ret R n0 W V) {i : Int} {z : Int32} (hd : decode code pc = .ok (.bipush i, 2)) (r : W Ts h k n pc Ls st) (hz : (Int8.ofInt i).toInt32 = z) : W Ts h k n (pc + 2) Ls (.int z :: st) := by
  subst hz
  exact H.step r fun A hx hby q => XS.bipush A hx rfl (hb hby hd) q
theorem WkS.sipush (H : WkS l Z y code mx ret R n0 W V) {i : Int} {z : Int32} (hd : decode code pc = .ok (.sipush i, 3)) (r : W Ts h k n pc Ls st) (hz : (Int16.ofInt i).toInt32 = z) : W Ts h k n (pc + 3) Ls (.int z :: st) := by
  subst hz
  exact H.step r fun A hx hby q => XS.sipush A hx rfl (hb hby hd) q
theorem WkS.lconst (H : WkS l Z y code mx ret R n0 W V) {i : Fin 2} {z : Int64} (hd : decode code pc = .ok (.lconst i, 1)) (r : W Ts h k n pc Ls st) (hz : Int64.ofNat i = z) : W Ts h k n (pc + 1) Ls (.long z :: st) := by
  subst hz
  exact H.step r fun A hx hby q => XS.lconst A hx rfl (hb hby hd) q
theorem WkS.fconst0 (H : WkS l Z y code mx ret R n0 W V) {v : UInt32} (hd : decode code pc = .ok (.fconst 0, 1)) (r : W Ts h k n pc Ls st) (hv : FP.fconst0 = v) : W Ts h k n (pc + 1) Ls (.float v :: st) :=
  H.step r fun A hx hby q => XS.fconst0 A hx rfl (hb hby hd) hv q
theorem WkS.fcmp (H : WkS l Z y code mx ret R n0 W V) {o : CmpOp} {x z : UInt32} {v : Int32} (hd : decode code pc = .ok (.fcmp o, 1)) (r : W Ts h k n pc Ls (.float z :: .float x :: st)) (hv : cmpValue (FP.fcmp x z) o = v) : W Ts h k n (pc + 1) Ls (.int v :: st) :=
  H.step r fun A hx hby q => XS.fcmpS A hx rfl (hb hby hd) rfl hv q
theorem WkS.aconstNull (H : WkS l Z y code mx ret R n0 W V) (hd : decode code pc = .ok (.aconst_null, 1)) (r : W Ts h k n pc Ls (st)) : W Ts h k n (pc + 1) Ls (.null :: st) :=
  H.step r fun A hx hby q => XS.aconstNull A hx rfl (hb hby hd)  q
theorem WkS.iadd (H : WkS l Z y code mx ret R n0 W V) {a b : Int32} (hd : decode code pc = .ok (.iadd, 1)) (r : W Ts h k n pc Ls (.int b :: .int a :: st)) : W Ts h k n (pc + 1) Ls (.int (a + b) :: st) :=
  H.step r fun A hx hby q => XS.iadd A hx rfl (hb hby hd) rfl q
theorem WkS.isub (H : WkS l Z y code mx ret R n0 W V) {a b : Int32} (hd : decode code pc = .ok (.isub, 1)) (r : W Ts h k n pc Ls (.int b :: .int a :: st)) : W Ts h k n (pc + 1) Ls (.int (a - b) :: st) :=
  H.step r fun A hx hby q => XS.isub A hx rfl (hb hby hd) rfl q
theorem WkS.iand (H : WkS l Z y code mx ret R n0 W V) {a b : Int32} (hd : decode code pc = .ok (.iand, 1)) (r : W Ts h k n pc Ls (.int b :: .int a :: st)) : W Ts h k n (pc + 1) Ls (.int (a &&& b) :: st) :=
  H.step r fun A hx hby q => XS.iand A hx rfl (hb hby hd) rfl q
theorem WkS.imul (H : WkS l Z y code mx ret R n0 W V) {a b : Int32} (hd : decode code pc = .ok (.imul, 1)) (r : W Ts h k n pc Ls (.int b :: .int a :: st)) : W Ts h k n (pc + 1) Ls (.int (a * b) :: st) :=
  H.step r fun A hx hby q => XS.imul A hx rfl (hb hby hd) rfl q
theorem WkS.ior (H : WkS l Z y code mx ret R n0 W V) {a b : Int32} (hd : decode code pc = .ok (.ior, 1)) (r : W Ts h k n pc Ls (.int b :: .int a :: st)) : W Ts h k n (pc + 1) Ls (.int (a ||| b) :: st) :=
  H.step r fun A hx hby q => XS.ior A hx rfl (hb hby hd) rfl q
theorem WkS.ixor (H : WkS l Z y code mx ret R n0 W V) {a b : Int32} (hd : decode code pc = .ok (.ixor, 1)) (r : W Ts h k n pc Ls (.int b :: .int a :: st)) : W Ts h k n (pc + 1) Ls (.int (a ^^^ b) :: st) :=
  H.step r fun A hx hby q => XS.ixor A hx rfl (hb hby hd) rfl q
theorem WkS.ishl (H : WkS l Z y code mx ret R n0 W V) {a b : Int32} (hd : decode code pc = .ok (.ishl, 1)) (r : W Ts h k n pc Ls (.int b :: .int a :: st)) : W Ts h k n (pc + 1) Ls (.int (a <<< (b &&& 31)) :: st) :=
  H.step r fun A hx hby q => XS.ishl A hx rfl (hb hby hd) rfl q
theorem WkS.ishr (H : WkS l Z y code mx ret R n0 W V) {a b : Int32} (hd : decode code pc = .ok (.ishr, 1)) (r : W Ts h k n pc Ls (.int b :: .int a :: st)) : W Ts h k n (pc + 1) Ls (.int (a >>> (b &&& 31)) :: st) :=
  H.step r fun A hx hby q => XS.ishr A hx rfl (hb hby hd) rfl q
theorem WkS.iushr (H : WkS l Z y code mx ret R n0 W V) {a b : Int32} (hd : decode code pc = .ok (.iushr, 1)) (r : W Ts h k n pc Ls (.int b :: .int a :: st)) : W Ts h k n (pc + 1) Ls (.int ((a.toUInt32 >>> (b &&& 31).toUInt32).toInt32) :: st) :=
  H.step r fun A hx hby q => XS.iushr A hx rfl (hb hby hd) rfl q
theorem WkS.ladd (H : WkS l Z y code mx ret R n0 W V) {a b : Int64} (hd : decode code pc = .ok (.ladd, 1)) (r : W Ts h k n pc Ls (.long b :: .long a :: st)) : W Ts h k n (pc + 1) Ls (.long (a + b) :: st) :=
  H.step r fun A hx hby q => XS.ladd A hx rfl (hb hby hd) rfl q
theorem WkS.lsub (H : WkS l Z y code mx ret R n0 W V) {a b : Int64} (hd : decode code pc = .ok (.lsub, 1)) (r : W Ts h k n pc Ls (.long b :: .long a :: st)) : W Ts h k n (pc + 1) Ls (.long (a - b) :: st) :=
  H.step r fun A hx hby q => XS.lsub A hx rfl (hb hby hd) rfl q
theorem WkS.lmul (H : WkS l Z y code mx ret R n0 W V) {a b : Int64} (hd : decode code pc = .ok (.lmul, 1)) (r : W Ts h k n pc Ls (.long b :: .long a :: st)) : W Ts h k n (pc + 1) Ls (.long (a * b) :: st) :=
  H.step r fun A hx hby q => XS.lmul A hx rfl (hb hby hd) rfl q
theorem WkS.land (H : WkS l Z y code mx ret R n0 W V) {a b : Int64} (hd : decode code pc = .ok (.land, 1)) (r : W Ts h k n pc Ls (.long b :: .long a :: st)) : W Ts h k n (pc + 1) Ls (.long (a &&& b) :: st) :=
  H.step r fun A hx hby q => XS.land A hx rfl (hb hby hd) rfl q
theorem WkS.lor (H : WkS l Z y code mx ret R n0 W V) {a b : Int64} (hd : decode code pc = .ok (.lor, 1)) (r : W Ts h k n pc Ls (.long b :: .long a :: st)) : W Ts h k n (pc + 1) Ls (.long (a ||| b) :: st) :=
  H.step r fun A hx hby q => XS.lor A hx rfl (hb hby hd) rfl q
theorem WkS.lxor (H : WkS l Z y code mx ret R n0 W V) {a b : Int64} (hd : decode code pc = .ok (.lxor, 1)) (r : W Ts h k n pc Ls (.long b :: .long a :: st)) : W Ts h k n (pc + 1) Ls (.long (a ^^^ b) :: st) :=
  H.step r fun A hx hby q => XS.lxor A hx rfl (hb hby hd) rfl q
theorem WkS.lshl (H : WkS l Z y code mx ret R n0 W V) {a : Int64} {b : Int32} (hd : decode code pc = .ok (.lshl, 1)) (r : W Ts h k n pc Ls (.int b :: .long a :: st)) : W Ts h k n (pc + 1) Ls (.long (a <<< (b &&& 0x3f).toInt64) :: st) :=
  H.step r fun A hx hby q => XS.lshl A hx rfl (hb hby hd) rfl q
theorem WkS.lshr (H : WkS l Z y code mx ret R n0 W V) {a : Int64} {b : Int32} (hd : decode code pc = .ok (.lshr, 1)) (r : W Ts h k n pc Ls (.int b :: .long a :: st)) : W Ts h k n (pc + 1) Ls (.long (a >>> (b &&& 0x3f).toInt64) :: st) :=
  H.step r fun A hx hby q => XS.lshr A hx rfl (hb hby hd) rfl q
theorem WkS.lushr (H : WkS l Z y code mx ret R n0 W V) {a : Int64} {b : Int32} (hd : decode code pc = .ok (.lushr, 1)) (r : W Ts h k n pc Ls (.int b :: .long a :: st)) : W Ts h k n (pc + 1) Ls (.long ((a.toUInt64 >>> (b &&& 0x3f).toInt64.toUInt64).toInt64) :: st) :=
  H.step r fun A hx hby q => XS.lushr A hx rfl (hb hby hd) rfl q
theorem WkS.ldiv (H : WkS l Z y code mx ret R n0 W V) {a b : Int64} (hd : decode code pc = .ok (.ldiv, 1)) (r : W Ts h k n pc Ls (.long b :: .long a :: st)) (hy : b ≠ 0) : W Ts h k n (pc + 1) Ls (.long (a / b) :: st) :=
  H.step r fun A hx hby q => XS.ldiv A hx rfl (hb hby hd) rfl hy q
theorem WkS.idiv (H : WkS l Z y code mx ret R n0 W V) {a b : Int32} (hd : decode code pc = .ok (.idiv, 1)) (r : W Ts h k n pc Ls (.int b :: .int a :: st)) (hy : b ≠ 0) : W Ts h k n (pc + 1) Ls (.int (a / b) :: st) :=
  H.step r fun A hx hby q => XS.idiv A hx rfl (hb hby hd) rfl hy q
theorem WkS.lrem (H : WkS l Z y code mx ret R n0 W V) {a b : Int64} (hd : decode code pc = .ok (.lrem, 1)) (r : W Ts h k n pc Ls (.long b :: .long a :: st)) (hy : b ≠ 0) : W Ts h k n (pc + 1) Ls (.long (a % b) :: st) := by
  rw [← lrem_mod a b]
  exact H.step r fun A hx hby q => XS.lrem A hx rfl (hb hby hd) rfl hy q
theorem WkS.irem (H : WkS l Z y code mx ret R n0 W V) {a b : Int32} (hd : decode code pc = .ok (.irem, 1)) (r : W Ts h k n pc Ls (.int b :: .int a :: st)) (hy : b ≠ 0) : W Ts h k n (pc + 1) Ls (.int (a % b) :: st) :=
  H.stepX r fun X hx hby hml hown hZ eT => ⟨_, X, eT, fun t q => iremM X hx rfl (hb hby hd) rfl hy q⟩
theorem WkS.i2b (H : WkS l Z y code mx ret R n0 W V) {a : Int32} (hd : decode code pc = .ok (.i2b, 1)) (r : W Ts h k n pc Ls (.int a :: st)) : W Ts h k n (pc + 1) Ls (.int (a.toInt8.toInt32) :: st) :=
  H.step r fun A hx hby q => XS.i2b A hx rfl (hb hby hd) rfl q
theorem WkS.i2c (H : WkS l Z y code mx ret R n0 W V) {a : Int32} (hd : decode code pc = .ok (.i2c, 1)) (r : W Ts h k n pc Ls (.int a :: st)) : W Ts h k n (pc + 1) Ls (.int (a.toUInt32.toUInt16.toUInt32.toInt32) :: st) :=
  H.step r fun A hx hby q => XS.i2c A hx rfl (hb hby hd) rfl q
theorem WkS.i2s (H : WkS l Z y code mx ret R n0 W V) {a : Int32} (hd : decode code pc = .ok (.i2s, 1)) (r : W Ts h k n pc Ls (.int a :: st)) : W Ts h k n (pc + 1) Ls (.int (a.toInt16.toInt32) :: st) :=
  H.step r fun A hx hby q => XS.i2s A hx rfl (hb hby hd) rfl q
theorem WkS.i2l (H : WkS l Z y code mx ret R n0 W V) {a : Int32} (hd : decode code pc = .ok (.i2l, 1)) (r : W Ts h k n pc Ls (.int a :: st)) : W Ts h k n (pc + 1) Ls (.long (a.toInt64) :: st) :=
  H.step r fun A hx hby q => XS.i2l A hx rfl (hb hby hd) rfl q
theorem WkS.l2i (H : WkS l Z y code mx ret R n0 W V) {a : Int64} (hd : decode code pc = .ok (.l2i, 1)) (r : W Ts h k n pc Ls (.long a :: st)) : W Ts h k n (pc + 1) Ls (.int (a.toInt32) :: st) :=
  H.step r fun A hx hby q => XS.l2i A hx rfl (hb hby hd) rfl q
theorem WkS.ineg (H : WkS l Z y code mx ret R n0 W V) {a : Int32} (hd : decode code pc = .ok (.ineg, 1)) (r : W Ts h k n pc Ls (.int a :: st)) : W Ts h k n (pc + 1) Ls (.int (-a) :: st) :=
  H.step r fun A hx hby q => XS.ineg A hx rfl (hb hby hd) rfl q
theorem WkS.lcmp (H : WkS l Z y code mx ret R n0 W V) {a b : Int64} (hd : decode code pc = .ok (.lcmp, 1)) (r : W Ts h k n pc Ls (.long b :: .long a :: st)) : W Ts h k n (pc + 1) Ls (.int (lcmpW a b) :: st) :=
  H.step r fun A hx hby q => XS.lcmp A hx rfl (hb hby hd) rfl q
theorem WkS.dup (H : WkS l Z y code mx ret R n0 W V) {v : Value} (hd : decode code pc = .ok (.dup, 1)) (r : W Ts h k n pc Ls (v :: st)) (hc : v.category = 1) : W Ts h k n (pc + 1) Ls (v :: v :: st) :=
  H.step r fun A hx hby q => XS.dup A hx rfl (hb hby hd) rfl hc q
theorem WkS.pop (H : WkS l Z y code mx ret R n0 W V) {v : Value} (hd : decode code pc = .ok (.pop, 1)) (r : W Ts h k n pc Ls (v :: st)) (hc : v.category = 1) : W Ts h k n (pc + 1) Ls (st) :=
  H.step r fun A hx hby q => XS.pop A hx rfl (hb hby hd) rfl hc q
theorem WkS.dupX1 (H : WkS l Z y code mx ret R n0 W V) {v w : Value} (hd : decode code pc = .ok (.dup_x1, 1)) (r : W Ts h k n pc Ls (v :: w :: st)) (hc : v.category = 1) (hc2 : w.category = 1) : W Ts h k n (pc + 1) Ls (v :: w :: v :: st) :=
  H.step r fun A hx hby q => XS.dupX1 A hx rfl (hb hby hd) rfl hc hc2 q
theorem WkS.istoreN (H : WkS l Z y code mx ret R n0 W V) {i : Fin 4} {v : Int32} (hd : decode code pc = .ok (.istore_n i, 1)) (r : W Ts h k n pc Ls (.int v :: st)) (hl : storeLocals Ls i.val (.int v) = some Ls') : W Ts h k n (pc + 1) Ls' (st) :=
  H.step r fun A hx hby q => XS.istoreN A hx rfl (hb hby hd) rfl hl q
theorem WkS.istore (H : WkS l Z y code mx ret R n0 W V) {i : Nat} {v : Int32} (hd : decode code pc = .ok (.istore i, 2)) (r : W Ts h k n pc Ls (.int v :: st)) (hl : storeLocals Ls i (.int v) = some Ls') : W Ts h k n (pc + 2) Ls' (st) :=
  H.step r fun A hx hby q => XS.istore A hx rfl (hb hby hd) rfl hl q
theorem WkS.lstoreN (H : WkS l Z y code mx ret R n0 W V) {i : Fin 4} {v : Int64} (hd : decode code pc = .ok (.lstore_n i, 1)) (r : W Ts h k n pc Ls (.long v :: st)) (hl : storeLocals Ls i.val (.long v) = some Ls') : W Ts h k n (pc + 1) Ls' (st) :=
  H.step r fun A hx hby q => XS.lstoreN A hx rfl (hb hby hd) rfl hl q
theorem WkS.lstore (H : WkS l Z y code mx ret R n0 W V) {i : Nat} {v : Int64} (hd : decode code pc = .ok (.lstore i, 2)) (r : W Ts h k n pc Ls (.long v :: st)) (hl : storeLocals Ls i (.long v) = some Ls') : W Ts h k n (pc + 2) Ls' (st) :=
  H.step r fun A hx hby q => XS.lstore A hx rfl (hb hby hd) rfl hl q
theorem WkS.astoreN (H : WkS l Z y code mx ret R n0 W V) {i : Fin 4} {v : Value} (hd : decode code pc = .ok (.astore_n i, 1)) (r : W Ts h k n pc Ls (v :: st)) (hv : v.isRef = true) (hl : storeLocals Ls i.val v = some Ls') : W Ts h k n (pc + 1) Ls' (st) :=
  H.step r fun A hx hby q => XS.astoreN A hx rfl (hb hby hd) rfl hv hl q
theorem WkS.astore (H : WkS l Z y code mx ret R n0 W V) {i : Nat} {v : Value} (hd : decode code pc = .ok (.astore i, 2)) (r : W Ts h k n pc Ls (v :: st)) (hv : v.isRef = true) (hl : storeLocals Ls i v = some Ls') : W Ts h k n (pc + 2) Ls' (st) :=
  H.step r fun A hx hby q => XS.astore A hx rfl (hb hby hd) rfl hv hl q
theorem WkS.istoreNS (H : WkS l Z y code mx ret R n0 W V) {i : Fin 4} {v : Int32} {o : Slot} (hd : decode code pc = .ok (.istore_n i, 1)) (r : W Ts h k n pc Ls (.int v :: st)) (hold : Ls[i.val]? = some o) (ho : One o) : W Ts h k n (pc + 1) (Ls.setIfInBounds i.val (.val (.int v))) st :=
  H.step r fun A hx hby q => XS.istoreNS A hx rfl (hb hby hd) rfl hold ho q
theorem WkS.istoreS (H : WkS l Z y code mx ret R n0 W V) {i : Nat} {v : Int32} {o : Slot} (hd : decode code pc = .ok (.istore i, 2)) (r : W Ts h k n pc Ls (.int v :: st)) (hold : Ls[i]? = some o) (ho : One o) : W Ts h k n (pc + 2) (Ls.setIfInBounds i (.val (.int v))) st :=
  H.step r fun A hx hby q => XS.istoreS A hx rfl (hb hby hd) rfl hold ho q
theorem WkS.iinc (H : WkS l Z y code mx ret R n0 W V) {i : Nat} {cst : Int} {v z : Int32} (hd : decode code pc = .ok (.iinc i cst, 3)) (r : W Ts h k n pc Ls (st)) (hz : v + Int32.ofInt cst = z) (hl : Ls[i]? = some (.val (.int v))) (hl' : storeLocals Ls i (.int z) = some Ls') : W Ts h k n (pc + 3) Ls' (st) :=
  H.step r fun A hx hby q => XS.iinc A hx rfl (hb hby hd) hl (hz ▸ hl') q
theorem WkS.goto (H : WkS l Z y code mx ret R n0 W V) {o : Int} (hd : decode code pc = .ok (.goto o, 3)) (r : W Ts h k n pc Ls st) (ho : 0 ≤ (pc : Int) + o) (hp : ((pc : Int) + o).toNat = pc') : W Ts h k n pc' Ls st :=
  H.step r fun A hx hby q => XS.goto A hx rfl rfl (hb hby hd) ho hp q
theorem WkS.ifYes (H : WkS l Z y code mx ret R n0 W V) {cd : ClassFile.Cond} {a : Int32} {o : Int} (hd : decode code pc = .ok (.ifCond cd o, 3)) (r : W Ts h k n pc Ls (.int a :: st)) (ho : 0 ≤ (pc : Int) + o) (hp : ((pc : Int) + o).toNat = pc') (hc : if_icmp.holds cd a 0 = true) : W Ts h k n pc' Ls st :=
  H.step r fun A hx hby q => XS.ifYes A hx rfl rfl (hb hby hd) rfl ((if0 cd a).trans hc) ho hp q
theorem WkS.ifNo (H : WkS l Z y code mx ret R n0 W V) {cd : ClassFile.Cond} {a : Int32} {o : Int} (hd : decode code pc = .ok (.ifCond cd o, 3)) (r : W Ts h k n pc Ls (.int a :: st)) (hc : if_icmp.holds cd a 0 = false) : W Ts h k n (pc + 3) Ls st :=
  H.step r fun A hx hby q => XS.ifNo A hx rfl (hb hby hd) rfl ((if0 cd a).trans hc) q
theorem WkS.icmpYes (H : WkS l Z y code mx ret R n0 W V) {cd : ClassFile.Cond} {a b : Int32} {o : Int} (hd : decode code pc = .ok (.if_icmp cd o, 3)) (r : W Ts h k n pc Ls (.int b :: .int a :: st)) (ho : 0 ≤ (pc : Int) + o) (hp : ((pc : Int) + o).toNat = pc') (hc : if_icmp.holds cd a b = true) : W Ts h k n pc' Ls st :=
  H.step r fun A hx hby q => XS.icmpYes A hx rfl rfl (hb hby hd) rfl hc ho hp q
theorem WkS.icmpNo (H : WkS l Z y code mx ret R n0 W V) {cd : ClassFile.Cond} {a b : Int32} {o : Int} (hd : decode code pc = .ok (.if_icmp cd o, 3)) (r : W Ts h k n pc Ls (.int b :: .int a :: st)) (hc : if_icmp.holds cd a b = false) : W Ts h k n (pc + 3) Ls st :=
  H.step r fun A hx hby q => XS.icmpNo A hx rfl (hb hby hd) rfl hc q
theorem WkS.ifnullYes (H : WkS l Z y code mx ret R n0 W V) {o : Int} (hd : decode code pc = .ok (.ifnull o, 3)) (r : W Ts h k n pc Ls (.null :: st)) (ho : 0 ≤ (pc : Int) + o) (hp : ((pc : Int) + o).toNat = pc') : W Ts h k n pc' Ls st :=
  H.step r fun A hx hby q => XS.ifnullYes A hx rfl rfl (hb hby hd) rfl ho hp q
theorem WkS.ifnullNo (H : WkS l Z y code mx ret R n0 W V) {a : Addr} {o : Int} (hd : decode code pc = .ok (.ifnull o, 3)) (r : W Ts h k n pc Ls (.ref a :: st)) : W Ts h k n (pc + 3) Ls st :=
  H.step r fun A hx hby q => XS.ifnullNo A hx rfl (hb hby hd) rfl q
theorem WkS.ifnonnullYes (H : WkS l Z y code mx ret R n0 W V) {a : Addr} {o : Int} (hd : decode code pc = .ok (.ifnonnull o, 3)) (r : W Ts h k n pc Ls (.ref a :: st)) (ho : 0 ≤ (pc : Int) + o) (hp : ((pc : Int) + o).toNat = pc') : W Ts h k n pc' Ls st :=
  H.step r fun A hx hby q => XS.ifnonnullYes A hx rfl rfl (hb hby hd) rfl ho hp q
theorem WkS.ifnonnullNo (H : WkS l Z y code mx ret R n0 W V) {o : Int} (hd : decode code pc = .ok (.ifnonnull o, 3)) (r : W Ts h k n pc Ls (.null :: st)) : W Ts h k n (pc + 3) Ls st :=
  H.step r fun A hx hby q => XS.ifnonnullNo A hx rfl (hb hby hd) rfl q
theorem WkS.acmpYes (H : WkS l Z y code mx ret R n0 W V) {cd : ClassFile.ACond} {a b : Value} {o : Int} (hd : decode code pc = .ok (.if_acmp cd o, 3)) (r : W Ts h k n pc Ls (b :: a :: st)) (ho : 0 ≤ (pc : Int) + o) (hp : ((pc : Int) + o).toNat = pc') (ha : a.isRef = true) (hb' : b.isRef = true) (hc : XT.acmp cd a b = true) : W Ts h k n pc' Ls st :=
  H.step r fun A hx hby q => XT.acmpYes A hx rfl rfl (hb hby hd) rfl ha hb' hc ho hp q
theorem WkS.acmpNo (H : WkS l Z y code mx ret R n0 W V) {cd : ClassFile.ACond} {a b : Value} {o : Int} (hd : decode code pc = .ok (.if_acmp cd o, 3)) (r : W Ts h k n pc Ls (b :: a :: st)) (ha : a.isRef = true) (hb' : b.isRef = true) (hc : XT.acmp cd a b = false) : W Ts h k n (pc + 3) Ls st :=
  H.step r fun A hx hby q => XT.acmpNo A hx rfl (hb hby hd) rfl ha hb' hc q
theorem WkS.lookHit (H : WkS l Z y code mx ret R n0 W V) {z : Int32} {dflt : Int} {pairs : Array (Int × Int)} {len : Nat} {a off : Int} (hsorted : (pairs.toList.zip (pairs.toList.drop 1)).all (fun (a, next) => a.1 < next.1) = true) (hfind : pairs.find? (·.1 == z.toInt) = some (a, off)) (ho : 0 ≤ (pc : Int) + off) (hp : ((pc : Int) + off).toNat = pc') (hd : decode code pc = .ok (.lookupswitch dflt pairs, len)) (r : W Ts h k n pc Ls (.int z :: st)) : W Ts h k n pc' Ls st := by
  subst hp
  exact H.stepX r fun X hx hby hml hown hZ eT => ⟨_, X, eT, fun t q => X.lookupswitchHit hx (g := mkF _ pc Ls (.int z :: st)) rfl rfl (hb hby hd) hsorted hfind ho t q⟩
theorem WkS.lookMiss (H : WkS l Z y code mx ret R n0 W V) {z : Int32} {dflt : Int} {pairs : Array (Int × Int)} {len : Nat} (hsorted : (pairs.toList.zip (pairs.toList.drop 1)).all (fun (a, next) => a.1 < next.1) = true) (hfind : pairs.find? (·.1 == z.toInt) = none) (ho : 0 ≤ (pc : Int) + dflt) (hp : ((pc : Int) + dflt).toNat = pc') (hd : decode code pc = .ok (.lookupswitch dflt pairs, len)) (r : W Ts h k n pc Ls (.int z :: st)) : W Ts h k n pc' Ls st := by
  subst hp
  exact H.stepX r fun X hx hby hml hown hZ eT => ⟨_, X, eT, fun t q => X.lookupswitchMiss hx (g := mkF _ pc Ls (.int z :: st)) rfl rfl (hb hby hd) hsorted hfind ho t q⟩
theorem WkS.getS (H : WkS l Z y code mx ret R n0 W V) {i : Nat} {O nm d : String} {v : Value} (w : (Jvm.Cond.fieldLink y.cls i O nm d).before a0 Z = true) (F : Sta Z h O nm d v) (hd : decode code pc = .ok (.getstatic i, 3)) (r : W Ts h k n pc Ls st) : W Ts h k n (pc + 3) Ls (v :: st) :=
  H.stepX r fun X hx hby hml hown hZ eT => RoadKit.getS X hx hZ (host := "") hown w Via.refl eT F (g := mkF _ pc Ls st) rfl (hb hby hd)
theorem WkS.instY (H : WkS l Z y code mx ret R n0 W V) {i : Nat} {K : String} {a : Addr} (w : (Jvm.Cond.classLink y.cls i K).before a0 Z = true) (F : Ins Z h a K true) (hd : decode code pc = .ok (.instanceof i, 3)) (r : W Ts h k n pc Ls (.ref a :: st)) : W Ts h k n (pc + 3) Ls (.int 1 :: st) :=
  H.stepX r fun X hx hby hml hown hZ eT => RoadKit.instY X hx hZ hown w eT F (g := mkF _ pc Ls (.ref a :: st)) rfl rfl (hb hby hd)
theorem WkS.instNo (H : WkS l Z y code mx ret R n0 W V) {i : Nat} {K C : String} {a : Addr} (w : (Jvm.Cond.classLink y.cls i K).before a0 Z = true) (E : Exa Z h a C) (F : ∃ c t, Z.vm.findClass C = some c ∧ Z.vm.findClass K = some t ∧ Z.vm.assignable c t = false) (hd : decode code pc = .ok (.instanceof i, 3)) (r : W Ts h k n pc Ls (.ref a :: st)) : W Ts h k n (pc + 3) Ls (.int 0 :: st) :=
  H.stepX r fun X hx hby hml hown hZ eT => RoadKit.instNo X hx hZ hown w eT E F (g := mkF _ pc Ls (.ref a :: st)) rfl rfl (hb hby hd)
theorem WkS.instNull (H : WkS l Z y code mx ret R n0 W V) {i : Nat} (hd : decode code pc = .ok (.instanceof i, 3)) (r : W Ts h k n pc Ls (.null :: st)) : W Ts h k n (pc + 3) Ls (.int 0 :: st) :=
  H.stepX r fun X hx hby hml hown hZ eT => ⟨_, X, eT, X.instanceofNull hx (g := mkF _ pc Ls (.null :: st)) rfl rfl (hb hby hd)⟩
theorem WkS.castY (H : WkS l Z y code mx ret R n0 W V) {i : Nat} {K : String} {a : Addr} (w : (Jvm.Cond.classLink y.cls i K).before a0 Z = true) (F : Ins Z h a K true) (hd : decode code pc = .ok (.checkcast i, 3)) (r : W Ts h k n pc Ls (.ref a :: st)) : W Ts h k n (pc + 3) Ls (.ref a :: st) :=
  H.stepX r fun X hx hby hml hown hZ eT => RoadKit.castY X hx hZ hown w eT F (g := mkF _ pc Ls (.ref a :: st)) rfl rfl (hb hby hd)
theorem WkS.castNull (H : WkS l Z y code mx ret R n0 W V) {i : Nat} (hd : decode code pc = .ok (.checkcast i, 3)) (r : W Ts h k n pc Ls (.null :: st)) : W Ts h k n (pc + 3) Ls (.null :: st) :=
  H.stepX r fun X hx hby hml hown hZ eT => ⟨_, X, eT, X.checkcastNull hx (g := mkF _ pc Ls (.null :: st)) rfl rfl (hb hby hd)⟩
theorem WkS.ldcInt (H : WkS l Z y code mx ret R n0 W V) {i : Nat} {v : Int32} (hd : decode code pc = .ok (.ldc i, 2)) (r : W Ts h k n pc Ls st) (w : (Jvm.Cond.constant y.cls i v).before a0 Z = true) : W Ts h k n (pc + 2) Ls (.int v :: st) :=
  H.stepX r fun X hx hby hml hown hZ eT => ⟨_, X, eT, X.ldcInt hx hown (mvT hZ w) (g := mkF _ pc Ls st) rfl (hb hby hd)⟩
theorem WkS.ldcWInt (H : WkS l Z y code mx ret R n0 W V) {i : Nat} {v : Int32} (hd : decode code pc = .ok (.ldc_w i, 3)) (r : W Ts h k n pc Ls st) (w : (Jvm.Cond.constant y.cls i v).before a0 Z = true) : W Ts h k n (pc + 3) Ls (.int v :: st) :=
  H.stepX r fun {p e s m args below meth c T locs} X hx hby hml hown hZ eT => ⟨T, X, eT, fun t q => by
    obtain ⟨kc, cf, bytes, hk, hcf, hcp, hb'⟩ := Cond.constant_spec hown (mvT (args := args) hZ w)
    obtain ⟨k', hk', he⟩ := X.warmed.alike.2.2 _ _ hk
    have hdg := hb hby hd
    show Steps p.tables e below (T.setTop (mkF m pc Ls st)) t
    jvm_step X.here [hx, hdg, ldc_w.wp_int (s := T) (f := mkF m pc Ls st) X.here.top hk' (by rw [he]; exact hcf) hcp, hb']
    exact q⟩
theorem WkS.ldcFloat (H : WkS l Z y code mx ret R n0 W V) {i : Nat} {v : UInt32} (w : (Jvm.Cond.constantFloat y.cls i v).before a0 Z = true) (hd : decode code pc = .ok (.ldc i, 2)) (r : W Ts h k n pc Ls st) : W Ts h k n (pc + 2) Ls (.float v :: st) :=
  H.stepX r fun X hx hby hml hown hZ eT => ⟨_, X, eT, X.ldcFloatC hx hown (mvT hZ w) (g := mkF _ pc Ls st) rfl (hb hby hd)⟩
theorem WkS.ldcLong (H : WkS l Z y code mx ret R n0 W V) {i : Nat} {v : Int64} (hd : decode code pc = .ok (.ldc2_w i, 3)) (r : W Ts h k n pc Ls st) (w : (Jvm.Cond.constantLong y.cls i v).before a0 Z = true) : W Ts h k n (pc + 3) Ls (.long v :: st) :=
  H.stepX r fun X hx hby hml hown hZ eT => ⟨_, X, eT, X.ldc2Long hx hown (mvT hZ w) (g := mkF _ pc Ls st) rfl (hb hby hd)⟩
theorem WkS.getF (H : WkS l Z y code mx ret R n0 W V) {i : Nat} {R0 O nm d host : String} {a : Addr} {v : Value} (w : (Jvm.Cond.fieldLink y.cls i R0 nm d).before a0 Z = true ∨ (Jvm.Cond.fieldLinkNest y.cls i R0 nm d host).before a0 Z = true) (via : Via Z R0 O nm d) (F : Fld Z h a O nm d v) (hd : decode code pc = .ok (.getfield i, 3)) (r : W Ts h k n pc Ls (.ref a :: st)) : W Ts h k n (pc + 3) Ls (v :: st) :=
  H.stepX r fun X hx hby hml hown hZ eT => RoadKit.getF X hx hZ hown w via eT F (g := mkF _ pc Ls (.ref a :: st)) rfl rfl (hb hby hd)
theorem WkS.getF' (H : WkS l Z y code mx ret R n0 W V) {i : Nat} {O nm d : String} {a : Addr} {v : Value} (w : (Jvm.Cond.fieldLink y.cls i O nm d).before a0 Z = true) (F : Fld Z h a O nm d v) (hd : decode code pc = .ok (.getfield i, 3)) (r : W Ts h k n pc Ls (.ref a :: st)) : W Ts h k n (pc + 3) Ls (v :: st) :=
  H.getF (host := "") (Or.inl w) Via.refl F hd r
theorem WkS.putF (H : WkS l Z y code mx ret R n0 W V) {i kk : Nat} {R0 O nm d host C : String} {ty : FieldType} {a : Addr} {v old : Value} (w : (Jvm.Cond.fieldLink y.cls i R0 nm d).before a0 Z = true ∨ (Jvm.Cond.fieldLinkNest y.cls i R0 nm d host).before a0 Z = true) (via : Via Z R0 O nm d) (F : Fld Z h a O nm d old) (E : Exa Z h a C) (L : (Jvm.Cond.lays C O nm d).before a0 Z = true ∨ ((Jvm.Cond.laysFinal C O nm d).before a0 Z = true ∧ y.cls = O ∧ y.name = "<init>")) (wi : (Jvm.Cond.instantiable C kk).before a0 Z = true)
    (hty : parseFieldDescriptor d = some ty) (hn : narrow ty v = v) (hf : fits ty v = true) (hn0 : n0 ≤ a) (hd : decode code pc = .ok (.putfield i, 3)) (r : W Ts h k n pc Ls (v :: .ref a :: st)) : ∃ h', Wr h h' a (Jvm.RoadKit.slotOf Z O nm d) v ∧ W Ts h' k n (pc + 3) Ls st := by
  obtain ⟨p, e, s0, m, args, below, meth, c, S0, hx, hby, hml, hnm, hret, hlk, hZs, rfl, rfl⟩ := H
  obtain ⟨s, T, locs, X, eh, N, hown, hZ, hB, sp⟩ := r
  obtain ⟨T', h', X', e', W', q⟩ := RoadKit.putF X hx hZ hown w via eh F E (L.imp id fun u => ⟨u.1, u.2.1, by rw [hnm]; exact u.2.2⟩) wi hty hn hf (g := mkF m pc Ls (v :: .ref a :: st)) rfl rfl (hb hby hd)
  exact ⟨h', W', s, T', _, X', e', Fr.snoc X' N hn0, hown, hZ, hB.mono (Nat.le_of_eq W'.size.symm), fun t u => sp t (q t u)⟩
theorem WkS.newO (H : WkS l Z y code mx ret R n0 W V) {i q : Nat} {C : String} (w : (Jvm.Cond.classLink y.cls i C).before a0 Z = true) (wi : (Jvm.Cond.instantiable C q).before a0 Z = true) (wz : (Jvm.Cond.initialized C).before a0 Z = true) (hc : k + 1 ≤ R.cells) (hl : n + q ≤ R.slots) (hd : decode code pc = .ok (.new i, 3)) (r : W Ts h k n pc Ls st) :
    ∃ h' a, a = h.size ∧ Ext h h' ∧ Exa Z h' a C ∧ (∀ {O nm d : String} {ty : FieldType}, Laid Z a0 C O nm d → parseFieldDescriptor d = some ty → Fld Z h' a O nm d (defaultValue ty)) ∧ (∃ cell : Cell, h'[a]? = some cell ∧ cell.vm = .none ∧ cell.monitor = {}) ∧ W Ts h' (k + 1) (n + q) (pc + 3) Ls (.ref a :: st) := by
  obtain ⟨p, e, s0, m, args, below, meth, c, S0, hx, hby, hml, hnm, hret, hlk, hZs, rfl, rfl⟩ := H
  obtain ⟨s, T, locs, X, eh, N, hown, hZ, hB, sp⟩ := r
  obtain ⟨T', h', X', e', E', A', D', U', q'⟩ := RoadKit.newO X hx hZ hown w wi wz eh (g := mkF m pc Ls st) rfl (hb hby hd) hc hl
  exact ⟨h', _, rfl, E', A', D', U', s, T', _, X', e', N, hown, hZ, hB.mono E'.1, fun t u => sp t (q' t u)⟩
theorem WkS.newP (H : WkS l Z y code mx ret R n0 W V) {aty : ArrayType} {ty : FieldType} {z : Int32} {cap : Nat} (hty : newarray.typeOf aty = ty) (w : (Jvm.Cond.arrayClass ty).before a0 Z = true) (hn : ¬ z < 0) (hcap : z.toNatClampNeg ≤ cap) (hb8 : cap * 8 ≤ 536870912) (hc : k + 1 ≤ R.cells) (hl : n + cap ≤ R.slots) (hd : decode code pc = .ok (.newarray aty, 2)) (r : W Ts h k n pc Ls (.int z :: st)) :
    ∃ h' a cA, a = h.size ∧ Ext h h' ∧ Arr Z h' a (newA cA ty z) ty ∧ W Ts h' (k + 1) (n + cap) (pc + 2) Ls (.ref a :: st) := by
  subst hty
  obtain ⟨p, e, s0, m, args, below, meth, c, S0, hx, hby, hml, hnm, hret, hlk, hZs, rfl, rfl⟩ := H
  obtain ⟨s, T, locs, X, eh, N, hown, hZ, hB, sp⟩ := r
  obtain ⟨T', h', cA, X', e', E', A', q'⟩ := RoadKit.newP X hx hZ w eh (g := mkF m pc Ls (.int z :: st)) rfl (hb hby hd) rfl hn hcap hb8 hc hl
  exact ⟨h', _, cA, rfl, E', A', s, T', _, X', e', N, hown, hZ, hB.mono E'.1, fun t u => sp t (q' t u)⟩
theorem WkS.arrLen (H : WkS l Z y code mx ret R n0 W V) {a : Addr} {cl : Cell} {ty : FieldType} {z : Int32} (A : Arr Z h a cl ty) (hz : cl.slots.size.toInt32 = z) (hd : decode code pc = .ok (.arraylength, 1)) (r : W Ts h k n pc Ls (.ref a :: st)) : W Ts h k n (pc + 1) Ls (.int z :: st) := by
  subst hz
  exact H.stepX r fun X hx hby hml hown hZ eT => ⟨_, X, eT, X.arraylength hx (by rw [eT]; exact A.1) (State.isArrayOf_alike hZ.alike A.2.1) (g := mkF _ pc Ls (.ref a :: st)) rfl rfl (hb hby hd)⟩
theorem WkS.iaload (H : WkS l Z y code mx ret R n0 W V) {a : Addr} {cl : Cell} {j : Int32} {v : Value} (A : Arr Z h a cl .int) (hin : ¬ (j < 0 ∨ cl.slots.size ≤ j.toNatClampNeg)) (hv : cl.slots[j.toNatClampNeg]? = some v) (hd : decode code pc = .ok (.iaload, 1)) (r : W Ts h k n pc Ls (.int j :: .ref a :: st)) : W Ts h k n (pc + 1) Ls (v :: st) :=
  H.stepX r fun X hx hby hml hown hZ eT => ⟨_, X, eT, X.iaload hx (by rw [eT]; exact A.1) (State.isArrayOf_alike hZ.alike A.2.1) A.2.2 hin hv (g := mkF _ pc Ls (.int j :: .ref a :: st)) rfl rfl (hb hby hd)⟩
theorem WkS.laload (H : WkS l Z y code mx ret R n0 W V) {a : Addr} {cl : Cell} {j : Int32} {v : Value} (A : Arr Z h a cl .long) (hin : ¬ (j < 0 ∨ cl.slots.size ≤ j.toNatClampNeg)) (hv : cl.slots[j.toNatClampNeg]? = some v) (hd : decode code pc = .ok (.laload, 1)) (r : W Ts h k n pc Ls (.int j :: .ref a :: st)) : W Ts h k n (pc + 1) Ls (v :: st) :=
  H.stepX r fun X hx hby hml hown hZ eT => ⟨_, X, eT, X.laload hx (by rw [eT]; exact A.1) (State.isArrayOf_alike hZ.alike A.2.1) A.2.2 hin hv (g := mkF _ pc Ls (.int j :: .ref a :: st)) rfl rfl (hb hby hd)⟩
theorem WkS.caload (H : WkS l Z y code mx ret R n0 W V) {a : Addr} {cl : Cell} {j : Int32} {v : Value} (A : Arr Z h a cl .char) (hin : ¬ (j < 0 ∨ cl.slots.size ≤ j.toNatClampNeg)) (hv : cl.slots[j.toNatClampNeg]? = some v) (hd : decode code pc = .ok (.caload, 1)) (r : W Ts h k n pc Ls (.int j :: .ref a :: st)) : W Ts h k n (pc + 1) Ls (v :: st) :=
  H.stepX r fun X hx hby hml hown hZ eT => ⟨_, X, eT, X.caload hx (by rw [eT]; exact A.1) (State.isArrayOf_alike hZ.alike A.2.1) A.2.2 hin hv (g := mkF _ pc Ls (.int j :: .ref a :: st)) rfl rfl (hb hby hd)⟩
theorem WkS.baload (H : WkS l Z y code mx ret R n0 W V) {a : Addr} {cl : Cell} {j : Int32} {v : Value} (A : Arr Z h a cl .byte) (hin : ¬ (j < 0 ∨ cl.slots.size ≤ j.toNatClampNeg)) (hv : cl.slots[j.toNatClampNeg]? = some v) (hd : decode code pc = .ok (.baload, 1)) (r : W Ts h k n pc Ls (.int j :: .ref a :: st)) : W Ts h k n (pc + 1) Ls (v :: st) :=
  H.stepX r fun X hx hby hml hown hZ eT => ⟨_, X, eT, X.baloadBytes hx (by rw [eT]; exact A.1) (State.isArrayOf_alike hZ.alike A.2.1) A.2.2 hin hv (g := mkF _ pc Ls (.int j :: .ref a :: st)) rfl rfl (hb hby hd)⟩
theorem WkS.aaload (H : WkS l Z y code mx ret R n0 W V) {a : Addr} {cl : Cell} {ty : FieldType} {j : Int32} {v : Value} (A : Arr Z h a cl ty) (hty : ty.isReference = true) (hin : ¬ (j < 0 ∨ cl.slots.size ≤ j.toNatClampNeg)) (hv : cl.slots[j.toNatClampNeg]? = some v) (hd : decode code pc = .ok (.aaload, 1)) (r : W Ts h k n pc Ls (.int j :: .ref a :: st)) : W Ts h k n (pc + 1) Ls (v :: st) :=
  H.stepX r fun X hx hby hml hown hZ eT => ⟨_, X, eT, X.aaload hx (by rw [eT]; exact A.1) (State.isArrayOf_alike hZ.alike A.2.1) hty A.2.2 hin hv (g := mkF _ pc Ls (.int j :: .ref a :: st)) rfl rfl (hb hby hd)⟩
theorem WkS.stI (H : WkS l Z y code mx ret R n0 W V) {a : Addr} {cl : Cell} {j : Int32} {x : Int32} (A : Arr Z h a cl .int) (hin : ¬ (j < 0 ∨ cl.slots.size ≤ j.toNatClampNeg)) (hn0 : n0 ≤ a) (hd : decode code pc = .ok (.iastore, 1)) (r : W Ts h k n pc Ls (.int x :: .int j :: .ref a :: st)) : ∃ h', Wr h h' a j.toNatClampNeg (.int x) ∧ W Ts h' k n (pc + 1) Ls st := by
  obtain ⟨p, e, s0, m, args, below, meth, c, S0, hx, hby, hml, hnm, hret, hlk, hZs, rfl, rfl⟩ := H
  obtain ⟨s, T, locs, X, eh, N, hown, hZ, hB, sp⟩ := r
  obtain ⟨T', h', X', e', W', q⟩ := RoadKit.stI X hx hZ eh A hin (g := mkF m pc Ls (.int x :: .int j :: .ref a :: st)) rfl rfl (hb hby hd)
  exact ⟨h', W', s, T', _, X', e', Fr.snoc X' N hn0, hown, hZ, hB.mono (Nat.le_of_eq W'.size.symm), fun t u => sp t (q t u)⟩
theorem WkS.stJ (H : WkS l Z y code mx ret R n0 W V) {a : Addr} {cl : Cell} {j : Int32} {x : Int64} (A : Arr Z h a cl .long) (hin : ¬ (j < 0 ∨ cl.slots.size ≤ j.toNatClampNeg)) (hn0 : n0 ≤ a) (hd : decode code pc = .ok (.lastore, 1)) (r : W Ts h k n pc Ls (.long x :: .int j :: .ref a :: st)) : ∃ h', Wr h h' a j.toNatClampNeg (.long x) ∧ W Ts h' k n (pc + 1) Ls st := by
  obtain ⟨p, e, s0, m, args, below, meth, c, S0, hx, hby, hml, hnm, hret, hlk, hZs, rfl, rfl⟩ := H
  obtain ⟨s, T, locs, X, eh, N, hown, hZ, hB, sp⟩ := r
  obtain ⟨T', h', X', e', W', q⟩ := RoadKit.stJ X hx hZ eh A hin (g := mkF m pc Ls (.long x :: .int j :: .ref a :: st)) rfl rfl (hb hby hd)
  exact ⟨h', W', s, T', _, X', e', Fr.snoc X' N hn0, hown, hZ, hB.mono (Nat.le_of_eq W'.size.symm), fun t u => sp t (q t u)⟩
theorem WkS.stC (H : WkS l Z y code mx ret R n0 W V) {a : Addr} {cl : Cell} {j : Int32} {x : Int32} (A : Arr Z h a cl .char) (hin : ¬ (j < 0 ∨ cl.slots.size ≤ j.toNatClampNeg)) (hn0 : n0 ≤ a) (hd : decode code pc = .ok (.castore, 1)) (r : W Ts h k n pc Ls (.int x :: .int j :: .ref a :: st)) : ∃ h', Wr h h' a j.toNatClampNeg (.int (nar .char x)) ∧ W Ts h' k n (pc + 1) Ls st := by
  obtain ⟨p, e, s0, m, args, below, meth, c, S0, hx, hby, hml, hnm, hret, hlk, hZs, rfl, rfl⟩ := H
  obtain ⟨s, T, locs, X, eh, N, hown, hZ, hB, sp⟩ := r
  obtain ⟨T', h', X', e', W', q⟩ := RoadKit.stC X hx hZ eh A hin (g := mkF m pc Ls (.int x :: .int j :: .ref a :: st)) rfl rfl (hb hby hd)
  exact ⟨h', W', s, T', _, X', e', Fr.snoc X' N hn0, hown, hZ, hB.mono (Nat.le_of_eq W'.size.symm), fun t u => sp t (q t u)⟩
theorem WkS.stB (H : WkS l Z y code mx ret R n0 W V) {a : Addr} {cl : Cell} {j : Int32} {x : Int32} (A : Arr Z h a cl .byte) (hin : ¬ (j < 0 ∨ cl.slots.size ≤ j.toNatClampNeg)) (hn0 : n0 ≤ a) (hd : decode code pc = .ok (.bastore, 1)) (r : W Ts h k n pc Ls (.int x :: .int j :: .ref a :: st)) : ∃ h', Wr h h' a j.toNatClampNeg (.int (nar .byte x)) ∧ W Ts h' k n (pc + 1) Ls st := by
  obtain ⟨p, e, s0, m, args, below, meth, c, S0, hx, hby, hml, hnm, hret, hlk, hZs, rfl, rfl⟩ := H
  obtain ⟨s, T, locs, X, eh, N, hown, hZ, hB, sp⟩ := r
  obtain ⟨T', h', X', e', W', q⟩ := RoadKit.stB X hx hZ eh A hin (g := mkF m pc Ls (.int x :: .int j :: .ref a :: st)) rfl rfl (hb hby hd)
  exact ⟨h', W', s, T', _, X', e', Fr.snoc X' N hn0, hown, hZ, hB.mono (Nat.le_of_eq W'.size.symm), fun t u => sp t (q t u)⟩
theorem WkS.initO (H : WkS l Z y code mx ret R n0 W V) {i w : Nat} {a : Addr} (w1 : (Jvm.Cond.methodLink y.cls i Lib.objectInit).before a0 Z = true) (w2 : (Jvm.Cond.instanceMethod Lib.objectInit).before a0 Z = true) (w3 : (Jvm.Cond.code Lib.objectInit ⟨#[0xb1]⟩ 1 none).before a0 Z = true) (hsz : Ls.size = mx) (hf : 1 ≤ R.frames) (hw : (st.map fun v => v.category).sum ≤ w) (hl : w + 12 ≤ R.locals) (hd : decode code pc = .ok (.invokespecial i, 3)) (r : W Ts h k n pc Ls (.ref a :: st)) : W Ts h k n (pc + 3) Ls st :=
  H.stepX r fun X hx hby hml hown hZ eT => RoadKit.initO X hx hZ hown w1 w2 w3 eT (g := mkF _ pc Ls (.ref a :: st)) rfl (by rw [hml]; exact hsz) rfl (hb hby hd) hf (by show 2 * 0 + _ ≤ _; omega) hl
variable {y' : MethodName} {bytes' : ByteArray} {mx' : Nat} {ret' : Option FieldType} {rm' : Room} {as' : Array Value} {Q : Option Value → Heap → Prop} {i w : Nat} {ps : List FieldType} {rt : Option FieldType} {argsL rest : List Value}
theorem WkS.callS (H : WkS l Z y code mx ret R n0 W V) (w1 : (Jvm.Cond.methodLink y.cls i y').before a0 Z = true) (w2 : (Jvm.Cond.static y').before a0 Z = true) (w3 : (Jvm.Cond.initialized y'.cls).before a0 Z = true) (w4 : (Jvm.Cond.code y' bytes' mx' ret').before a0 Z = true) (hy : y'.cls ≠ "java/lang/invoke/MethodHandle" ∧ y'.cls ≠ "java/lang/invoke/VarHandle")
    (hpd : parseMethodDescriptor y'.desc = some ⟨ps, rt⟩) (hf : rm'.frames + 1 ≤ R.frames) (hl : w + (mx' + 11) + rm'.locals ≤ R.locals) (hc : k + rm'.cells ≤ R.cells) (hn : n + rm'.slots ≤ R.slots) (hM : Ct l Z y' bytes' mx' ret' rm' n0 argsL.toArray h Q) (hmo : ∀ v h', Q v h' → h.size ≤ h'.size) (hlen : argsL.length = ps.length) (hsz : Ls.size = mx) (hw : (rest.map fun v => v.category).sum ≤ w) (hst : st = argsL.reverse ++ rest) (hd : decode code pc = .ok (.invokestatic i, 3)) (r : W Ts h k n pc Ls st) :
    ∃ v h', Q v h' ∧ W Ts h' (k + rm'.cells) (n + rm'.slots) (pc + 3) Ls (v.toList ++ rest) := by
  subst hst
  obtain ⟨p, e, s0, m, args, below, meth, c, S0, hx, hby, hml, hnm, hret, hlk, hZs, rfl, rfl⟩ := H
  obtain ⟨s, T, locs, X, eh, N, hown, hZ, hB, sp⟩ := r
  obtain ⟨v, _, ⟨T1, L1, k1, n1⟩, -, X1, ⟨Lc, hQ, g1, g2, g3⟩, st1⟩ := Jvm.LawKit.callS X hx (y := y') hown (mvT hZ w1) (mvT hZ w2) (mvT hZ w3) (mvT hZ w4) hy (backOf (W := w) (Q := fun v hh L => Q v hh ∧ Fr n0 L) (hM []) hZ w4 w3 hf hl) (g := mkF m pc Ls (argsL.reverse ++ rest)) rfl (by rw [hml]; exact hsz) (argsL := argsL) (rest := rest) (lenOf hpd hlen) rfl (by show 2 * 0 + _ ≤ _; omega) (hb hby hd) (fun _ _ => ⟨rfl, eh, hc, hn⟩)
  dsimp only [Pt.U, Pt.locs, Pt.cells, Pt.slots] at X1 g1 g2 g3 st1 hQ
  subst g1 g2 g3
  exact ⟨v, T1.heap, hQ.1, s, T1, _, X1, rfl, Fr.app N hQ.2, hown, hZ, hB.mono (hmo _ _ hQ.1), fun t u => sp t (st1 t u)⟩
theorem WkS.callI (H : WkS l Z y code mx ret R n0 W V) {a : Addr} (hi : y'.name = "<init>") (w1 : (Jvm.Cond.methodLink y.cls i y').before a0 Z = true) (w2 : (Jvm.Cond.instanceMethod y').before a0 Z = true) (w3 : (Jvm.Cond.initialized y'.cls).before a0 Z = true) (w4 : (Jvm.Cond.code y' bytes' mx' none).before a0 Z = true) (hy : y'.cls ≠ "java/lang/invoke/MethodHandle" ∧ y'.cls ≠ "java/lang/invoke/VarHandle")
    (hpd : parseMethodDescriptor y'.desc = some ⟨ps, rt⟩) (hf : rm'.frames + 1 ≤ R.frames) (hl : w + (mx' + 11) + rm'.locals ≤ R.locals) (hc : k + rm'.cells ≤ R.cells) (hn : n + rm'.slots ≤ R.slots) (hM : Ct l Z y' bytes' mx' none rm' n0 (.ref a :: argsL).toArray h Q) (hmo : ∀ v h', Q v h' → h.size ≤ h'.size) (hlen : argsL.length = ps.length) (hsz : Ls.size = mx) (hw : (rest.map fun v => v.category).sum ≤ w) (hst : st = argsL.reverse ++ .ref a :: rest) (hd : decode code pc = .ok (.invokespecial i, 3)) (r : W Ts h k n pc Ls st) :
    ∃ v h', Q v h' ∧ W Ts h' (k + rm'.cells) (n + rm'.slots) (pc + 3) Ls (v.toList ++ rest) := by
  subst hst
  obtain ⟨p, e, s0, m, args, below, meth, c, S0, hx, hby, hml, hnm, hret, hlk, hZs, rfl, rfl⟩ := H
  obtain ⟨s, T, locs, X, eh, N, hown, hZ, hB, sp⟩ := r
  obtain ⟨v, _, ⟨T1, L1, k1, n1⟩, -, X1, ⟨Lc, hQ, g1, g2, g3⟩, st1⟩ := X.specialBack hx (y := y') hi hown (mvT hZ w1) (mvT hZ w2) (mvT hZ w4) hy (backOf (W := w) (Q := fun v hh L => Q v hh ∧ Fr n0 L) (hM []) hZ w4 w3 hf hl) (g := mkF m pc Ls (argsL.reverse ++ .ref a :: rest)) rfl (by rw [hml]; exact hsz) (Steps.refl _) (a := a) (argsL := argsL) (rest := rest) (lenOf hpd hlen) rfl (by show 2 * 0 + _ ≤ _; omega) (hb hby hd) (fun _ _ => ⟨rfl, eh, hc, hn⟩)
  dsimp only [Pt.U, Pt.locs, Pt.cells, Pt.slots] at X1 g1 g2 g3 st1 hQ
  subst g1 g2 g3
  exact ⟨v, T1.heap, hQ.1, s, T1, _, X1, rfl, Fr.app N hQ.2, hown, hZ, hB.mono (hmo _ _ hQ.1), fun t u => sp t (st1.trans u)⟩
theorem WkS.callV (H : WkS l Z y code mx ret R n0 W V) {a : Addr} {C : String} {z' : MethodName} (w1 : (Jvm.Cond.methodLink y.cls i z').before a0 Z = true) (w2 : (Jvm.Cond.declares z').before a0 Z = true) (nf : NF Z a0 z') (w5 : (Jvm.Cond.selects C z' y').before a0 Z = true) (w6 : (Jvm.Cond.instanceMethod y').before a0 Z = true) (w3 : (Jvm.Cond.initialized y'.cls).before a0 Z = true) (w4 : (Jvm.Cond.code y' bytes' mx' ret').before a0 Z = true) (hy : z'.cls ≠ "java/lang/invoke/MethodHandle" ∧ z'.cls ≠ "java/lang/invoke/VarHandle")
    (hpd : parseMethodDescriptor z'.desc = some ⟨ps, rt⟩) (hf : rm'.frames + 1 ≤ R.frames) (hl : w + (mx' + 11) + rm'.locals ≤ R.locals) (hc : k + rm'.cells ≤ R.cells) (hn : n + rm'.slots ≤ R.slots) (E : Exa Z h a C) (hM : Ct l Z y' bytes' mx' ret' rm' n0 (.ref a :: argsL).toArray h Q) (hmo : ∀ v h', Q v h' → h.size ≤ h'.size) (hlen : argsL.length = ps.length) (hsz : Ls.size = mx) (hw : (rest.map fun v => v.category).sum ≤ w) (hst : st = argsL.reverse ++ .ref a :: rest) (hd : decode code pc = .ok (.invokevirtual i, 3)) (r : W Ts h k n pc Ls st) :
    ∃ v h', Q v h' ∧ W Ts h' (k + rm'.cells) (n + rm'.slots) (pc + 3) Ls (v.toList ++ rest) := by
  subst hst
  obtain ⟨p, e, s0, m, args, below, meth, c, S0, hx, hby, hml, hnm, hret, hlk, hZs, rfl, rfl⟩ := H
  obtain ⟨s, T, locs, X, eh, N, hown, hZ, hB, sp⟩ := r
  obtain ⟨cq, kq, qa, qb, qc⟩ := isOf (s := s) (T := T) hZ eh E
  obtain ⟨v, _, ⟨T1, L1, k1, n1⟩, -, X1, ⟨Lc, hQ, g1, g2, g3⟩, st1⟩ := X.virtualBack hx (y := z') (z := y') hown (mvT hZ w1) (mvT hZ w2) (nf.at hZ) (mvT hZ w5) (mvT hZ w6) hy (backOf (W := w) (Q := fun v hh L => Q v hh ∧ Fr n0 L) (hM []) hZ w4 w3 hf hl) qa qc (g := mkF m pc Ls (argsL.reverse ++ .ref a :: rest)) rfl (by rw [hml]; exact hsz) (Steps.refl _) (argsL := argsL) (rest := rest) (lenOf hpd hlen) rfl (by show 2 * 0 + _ ≤ _; omega) (hb hby hd) (fun _ _ => ⟨rfl, eh, hc, hn⟩)
  dsimp only [Pt.U, Pt.locs, Pt.cells, Pt.slots] at X1 g1 g2 g3 st1 hQ
  subst g1 g2 g3
  exact ⟨v, T1.heap, hQ.1, s, T1, _, X1, rfl, Fr.app N hQ.2, hown, hZ, hB.mono (hmo _ _ hQ.1), fun t u => sp t (st1.trans u)⟩
theorem WkS.callSP (H : WkS l Z y code mx ret R n0 W V) {v0 : Option Value} (w1 : (Jvm.Cond.methodLink y.cls i y').before a0 Z = true) (w2 : (Jvm.Cond.static y').before a0 Z = true) (w3 : (Jvm.Cond.initialized y'.cls).before a0 Z = true) (w4 : (Jvm.Cond.code y' bytes' mx' ret').before a0 Z = true) (hy : y'.cls ≠ "java/lang/invoke/MethodHandle" ∧ y'.cls ≠ "java/lang/invoke/VarHandle")
    (hpd : parseMethodDescriptor y'.desc = some ⟨ps, rt⟩) (hf : rm'.frames + 1 ≤ R.frames) (hl : w + (mx' + 11) + rm'.locals ≤ R.locals) (hc : k + rm'.cells ≤ R.cells) (hn : n + rm'.slots ≤ R.slots) (hM : Ct l Z y' bytes' mx' ret' rm' n0 argsL.toArray h (fun v h' => v = v0 ∧ h' = h)) (hlen : argsL.length = ps.length) (hsz : Ls.size = mx) (hw : (rest.map fun v => v.category).sum ≤ w) (hst : st = argsL.reverse ++ rest) (hd : decode code pc = .ok (.invokestatic i, 3)) (r : W Ts h k n pc Ls st) :
    W Ts h (k + rm'.cells) (n + rm'.slots) (pc + 3) Ls (v0.toList ++ rest) := by
  obtain ⟨v, h', ⟨e1, e2⟩, r'⟩ := H.callS w1 w2 w3 w4 hy hpd hf hl hc hn hM (fun _ _ q => Nat.le_of_eq (by rw [q.2])) hlen hsz hw hst hd r
  rw [← e1, ← e2]
  rw [e2] at r' ⊢
  exact r'
theorem WkS.callVP (H : WkS l Z y code mx ret R n0 W V) {v0 : Option Value} {a : Addr} {C : String} {z' : MethodName} (w1 : (Jvm.Cond.methodLink y.cls i z').before a0 Z = true) (w2 : (Jvm.Cond.declares z').before a0 Z = true) (nf : NF Z a0 z') (w5 : (Jvm.Cond.selects C z' y').before a0 Z = true) (w6 : (Jvm.Cond.instanceMethod y').before a0 Z = true) (w3 : (Jvm.Cond.initialized y'.cls).before a0 Z = true) (w4 : (Jvm.Cond.code y' bytes' mx' ret').before a0 Z = true) (hy : z'.cls ≠ "java/lang/invoke/MethodHandle" ∧ z'.cls ≠ "java/lang/invoke/VarHandle")
    (hpd : parseMethodDescriptor z'.desc = some ⟨ps, rt⟩) (hf : rm'.frames + 1 ≤ R.frames) (hl : w + (mx' + 11) + rm'.locals ≤ R.locals) (hc : k + rm'.cells ≤ R.cells) (hn : n + rm'.slots ≤ R.slots) (E : Exa Z h a C) (hM : Ct l Z y' bytes' mx' ret' rm' n0 (.ref a :: argsL).toArray h (fun v h' => v = v0 ∧ h' = h)) (hlen : argsL.length = ps.length) (hsz : Ls.size = mx) (hw : (rest.map fun v => v.category).sum ≤ w) (hst : st = argsL.reverse ++ .ref a :: rest) (hd : decode code pc = .ok (.invokevirtual i, 3)) (r : W Ts h k n pc Ls st) :
    W Ts h (k + rm'.cells) (n + rm'.slots) (pc + 3) Ls (v0.toList ++ rest) := by
  obtain ⟨v, h', ⟨e1, e2⟩, r'⟩ := H.callV w1 w2 nf w5 w6 w3 w4 hy hpd hf hl hc hn E hM (fun _ _ q => Nat.le_of_eq (by rw [q.2])) hlen hsz hw hst hd r
  rw [← e1, ← e2]
  rw [e2] at r' ⊢
  exact r'
theorem WkS.retV (H : WkS l Z y code mx ret R n0 W V) {v : Value} {t : FieldType} {ins : Instr} (ht : ret = some t) (hn' : narrow t v = v) (hi : (ins = .ireturn ∧ (t = .int ∨ t = .boolean ∨ t = .byte ∨ t = .char ∨ t = .short) ∧ ∃ z, v = .int z) ∨ (ins = .lreturn ∧ t = .long ∧ ∃ z, v = .long z) ∨ (ins = .dreturn ∧ t = .double ∧ ∃ z, v = .double z) ∨ (ins = .freturn ∧ t = .float ∧ ∃ z, v = .float z) ∨ (ins = .areturn ∧ t.isReference = true ∧ v.isRef = true))
    (hk : k ≤ R.cells) (hn : n ≤ R.slots) (hd : decode code pc = .ok (ins, 1)) (r : W Ts h k n pc Ls (v :: st)) : V (some v) h := by
  obtain ⟨p, e, s0, m, args, below, meth, c, S0, hx, hby, hml, hnm, hret, hlk, hZs, rfl, rfl⟩ := H
  obtain ⟨s, T, locs, X, eh, N, hown, hZ, hB, sp⟩ := r
  have hrt : meth.sig.returnType = some t := hret.trans ht
  obtain ⟨fs, hr, hrun, hended, hW, hsame⟩ := X.leave (v := some v) (fun q => by rw [hrt] at q; cases q) hlk
  exact ⟨_, locs, sp _ (retOut X hx hrt hn' hi (hb hby hd) hr), hrun, hended, eh, N, ⟨_, rfl⟩, Base.fin (U := T.setFrames fs) hB eh hW (hsame.mono hk hn)⟩
theorem WkS.retI (H : WkS l Z y code mx ret R n0 W V) {z : Int32} (ht : ret = some .int) (hk : k ≤ R.cells) (hn : n ≤ R.slots) (hd : decode code pc = .ok (.ireturn, 1)) (r : W Ts h k n pc Ls (.int z :: st)) : V (some (.int z)) h :=
  H.retV ht rfl (Or.inl ⟨rfl, Or.inl rfl, z, rfl⟩) hk hn hd r
theorem WkS.retJ (H : WkS l Z y code mx ret R n0 W V) {z : Int64} (ht : ret = some .long) (hk : k ≤ R.cells) (hn : n ≤ R.slots) (hd : decode code pc = .ok (.lreturn, 1)) (r : W Ts h k n pc Ls (.long z :: st)) : V (some (.long z)) h :=
  H.retV ht rfl (Or.inr (Or.inl ⟨rfl, rfl, z, rfl⟩)) hk hn hd r
theorem WkS.retZ (H : WkS l Z y code mx ret R n0 W V) {z z' : Int32} (hz : z &&& 1 = z') (ht : ret = some .boolean) (hk : k ≤ R.cells) (hn : n ≤ R.slots) (hd : decode code pc = .ok (.ireturn, 1)) (r : W Ts h k n pc Ls (.int z :: st)) : V (some (.int z')) h := by
  subst hz
  obtain ⟨p, e, s0, m, args, below, meth, c, S0, hx, hby, hml, hnm, hret, hlk, hZs, rfl, rfl⟩ := H
  obtain ⟨s, T, locs, X, eh, N, hown, hZ, hB, sp⟩ := r
  have hrt : meth.sig.returnType = some .boolean := hret.trans ht
  obtain ⟨fs, hr, hrun, hended, hW, hsame⟩ := X.leave (v := some (.int (nar .boolean z))) (fun q => by rw [hrt] at q; cases q) hlk
  exact ⟨_, locs, sp _ (retN X hx hrt (by simp) (hb hby hd) hr), hrun, hended, eh, N, ⟨_, rfl⟩, Base.fin (U := T.setFrames fs) hB eh hW (hsame.mono hk hn)⟩
theorem WkS.retB (H : WkS l Z y code mx ret R n0 W V) {z z' : Int32} (hz : z.toInt8.toInt32 = z') (ht : ret = some .byte) (hk : k ≤ R.cells) (hn : n ≤ R.slots) (hd : decode code pc = .ok (.ireturn, 1)) (r : W Ts h k n pc Ls (.int z :: st)) : V (some (.int z')) h := by
  subst hz
  obtain ⟨p, e, s0, m, args, below, meth, c, S0, hx, hby, hml, hnm, hret, hlk, hZs, rfl, rfl⟩ := H
  obtain ⟨s, T, locs, X, eh, N, hown, hZ, hB, sp⟩ := r
  have hrt : meth.sig.returnType = some .byte := hret.trans ht
  obtain ⟨fs, hr, hrun, hended, hW, hsame⟩ := X.leave (v := some (.int (nar .byte z))) (fun q => by rw [hrt] at q; cases q) hlk
  exact ⟨_, locs, sp _ (retN X hx hrt (by simp) (hb hby hd) hr), hrun, hended, eh, N, ⟨_, rfl⟩, Base.fin (U := T.setFrames fs) hB eh hW (hsame.mono hk hn)⟩
theorem WkS.retC (H : WkS l Z y code mx ret R n0 W V) {z z' : Int32} (hz : z.toUInt32.toUInt16.toUInt32.toInt32 = z') (ht : ret = some .char) (hk : k ≤ R.cells) (hn : n ≤ R.slots) (hd : decode code pc = .ok (.ireturn, 1)) (r : W Ts h k n pc Ls (.int z :: st)) : V (some (.int z')) h := by
  subst hz
  obtain ⟨p, e, s0, m, args, below, meth, c, S0, hx, hby, hml, hnm, hret, hlk, hZs, rfl, rfl⟩ := H
  obtain ⟨s, T, locs, X, eh, N, hown, hZ, hB, sp⟩ := r
  have hrt : meth.sig.returnType = some .char := hret.trans ht
  obtain ⟨fs, hr, hrun, hended, hW, hsame⟩ := X.leave (v := some (.int (nar .char z))) (fun q => by rw [hrt] at q; cases q) hlk
  exact ⟨_, locs, sp _ (retN X hx hrt (by simp) (hb hby hd) hr), hrun, hended, eh, N, ⟨_, rfl⟩, Base.fin (U := T.setFrames fs) hB eh hW (hsame.mono hk hn)⟩
theorem WkS.retR (H : WkS l Z y code mx ret R n0 W V) {v : Value} {t : FieldType} (ht : ret = some t) (htr : t.isReference = true) (hv : v.isRef = true) (hk : k ≤ R.cells) (hn : n ≤ R.slots) (hd : decode code pc = .ok (.areturn, 1)) (r : W Ts h k n pc Ls (v :: st)) : V (some v) h :=
  H.retV ht (by cases v <;> simp [Value.isRef] at hv <;> cases t <;> simp [FieldType.isReference] at htr <;> rfl) (Or.inr (Or.inr (Or.inr (Or.inr ⟨rfl, htr, hv⟩)))) hk hn hd r
theorem WkS.retN (H : WkS l Z y code mx ret R n0 W V) (ht : ret = none) (hk : k ≤ R.cells) (hn : n ≤ R.slots) (hd : decode code pc = .ok (.return_, 1)) (r : W Ts h k n pc Ls []) : V none h := by
  obtain ⟨p, e, s0, m, args, below, meth, c, S0, hx, hby, hml, hnm, hret, hlk, hZs, rfl, rfl⟩ := H
  obtain ⟨s, T, locs, X, eh, N, hown, hZ, hB, sp⟩ := r
  have hrt : meth.sig.returnType = none := hret.trans ht
  obtain ⟨fs, hr, hrun, hended, hW, hsame⟩ := X.leave (v := none) (fun _ => rfl) hlk
  exact ⟨_, locs, sp _ (X.returnOut hx hrt (hb hby hd) hr), hrun, hended, eh, N, ⟨_, rfl⟩, Base.fin (U := T.setFrames fs) hB eh hW (hsame.mono hk hn)⟩
end Steps
section Arrays
variable {l : Launch} {Z : State} {y : MethodName} {code : ByteArray} {mx : Nat} {ret : Option FieldType} {R : Room} {n0 : Nat} {W : WTS} {Ts : List String × Option (Nat × Addr)} {V : VT} {h h' : Heap} {k n pc : Nat} {Ls : Array Slot} {st : List Value} {a0 : Array Value} {a b : Addr} {ty : FieldType} {vs : List Value} {ws : List Addr} {sl : Nat} {v : Value}
theorem WkS.newA (H : WkS l Z y code mx ret R n0 W V) {aty : ArrayType} {z : Int32} {cap i : Nat} {d : Value} (hty : newarray.typeOf aty = ty) (hdv : defaultValue ty = d) (w : (Jvm.Cond.arrayClass ty).before a0 Z = true) (hz : z.toInt = i) (hcap : i ≤ cap) (hb8 : cap * 8 ≤ 536870912) (hc : k + 1 ≤ R.cells) (hl : n + cap ≤ R.slots) (hd : decode code pc = .ok (.newarray aty, 2)) (r : W Ts h k n pc Ls (.int z :: st)) :
    ∃ h' a, a = h.size ∧ Ext h h' ∧ Ary Z h' a ty (List.replicate i d) ∧ W Ts h' (k + 1) (n + cap) (pc + 2) Ls (.ref a :: st) := by
  obtain ⟨h1, h2⟩ := idx_ok hz
  obtain ⟨h', a, cA, e, E, A, r'⟩ := H.newP hty w h2 (by rw [h1]; exact hcap) hb8 hc hl hd r
  refine ⟨h', a, e, E, ⟨_, A, ?_⟩, r'⟩
  show Array.replicate z.toNatClampNeg (defaultValue ty) = _
  rw [h1, hdv, List.toArray_replicate]
theorem WkS.newAE (H : WkS l Z y code mx ret R n0 W V) {aty : ArrayType} {z : Int32} {cap i : Nat} {d : Value} {ad : String} (hty : newarray.typeOf aty = ty) (hdv : defaultValue ty = d) (had : "[" ++ ty.toString = ad) (w : (Jvm.Cond.arrayClass ty).before a0 Z = true) (hz : z.toInt = i) (hcap : i ≤ cap) (hb8 : cap * 8 ≤ 536870912) (hc : k + 1 ≤ R.cells) (hl : n + cap ≤ R.slots) (hd : decode code pc = .ok (.newarray aty, 2)) (r : W Ts h k n pc Ls (.int z :: st)) :
    ∃ h' a, a = h.size ∧ Ext h h' ∧ Ary Z h' a ty (List.replicate i d) ∧ Exa Z h' a ad ∧ W Ts h' (k + 1) (n + cap) (pc + 2) Ls (.ref a :: st) := by
  obtain ⟨h1, h2⟩ := idx_ok hz
  subst hty
  obtain ⟨p, e, s0, m, args, below, meth, c, S0, hx, hby, hml, hnm, hret, hlk, hZs, rfl, rfl⟩ := H
  obtain ⟨s, T, locs, X, eh, N, hown, hZ, hB, sp⟩ := r
  obtain ⟨T', h', cA, X', e', E', A', EX, q'⟩ := RoadKit.newPE X hx hZ w eh (g := mkF m pc Ls (.int z :: st)) rfl (hb hby hd) rfl h2 (by rw [h1]; exact hcap) hb8 hc hl had
  refine ⟨h', _, rfl, E', ⟨_, A', ?_⟩, EX, s, T', _, X', e', N, hown, hZ, hB.mono E'.1, fun t u => sp t (q' t u)⟩
  show Array.replicate z.toNatClampNeg (defaultValue (newarray.typeOf aty)) = _
  rw [h1, hdv, List.toArray_replicate]
theorem WkS.cloneA (H : WkS l Z y code mx ret R n0 W V) {i w cap : Nat} {ad : String} (w1 : (Jvm.Cond.methodLink y.cls i ⟨ad, "clone", "()Ljava/lang/Object;"⟩).before a0 Z = true) (w2 : (Jvm.Cond.sameMethod ad "java/lang/Object" "clone" "()Ljava/lang/Object;").before a0 Z = true) (w3 : (Jvm.Cond.native ⟨"java/lang/Object", "clone", "()Ljava/lang/Object;"⟩).before a0 Z = true)
    (w4 : (Jvm.Cond.instanceMethod ⟨"java/lang/Object", "clone", "()Ljava/lang/Object;"⟩).before a0 Z = true) (w5 : (Jvm.Cond.selects ad ⟨ad, "clone", "()Ljava/lang/Object;"⟩ ⟨"java/lang/Object", "clone", "()Ljava/lang/Object;"⟩).before a0 Z = true) (w6 : (Jvm.Cond.castable ad "java/lang/Cloneable").before a0 Z = true)
    (A : Ary Z h a ty vs) (E : Exa Z h a ad) (hfit : ∀ v ∈ vs, fits ty v = true) (hsz : Ls.size = mx) (hf : 1 ≤ R.frames) (hw : (st.map fun v => v.category).sum ≤ w) (hl : w + 14 ≤ R.locals) (hcap : vs.length ≤ cap) (hc : k + 1 ≤ R.cells) (hsl : n + cap ≤ R.slots) (hd : decode code pc = .ok (.invokevirtual i, 3)) (r : W Ts h k n pc Ls (.ref a :: st)) :
    ∃ h' b, b = h.size ∧ Ext h h' ∧ Ary Z h' b ty vs ∧ Exa Z h' b ad ∧ W Ts h' (k + 1) (n + cap) (pc + 3) Ls (.ref b :: st) := by
  obtain ⟨p, e, s0, m, args, below, meth, c, S0, hx, hby, hml, hnm, hret, hlk, hZs, rfl, rfl⟩ := H
  obtain ⟨s, T, locs, X, eh, N, hown, hZ, hB, sp⟩ := r
  obtain ⟨cl, Ar, q⟩ := A
  have hF : FitC Z cl := fitC_of Ar (fun j hj v hv => hfit v (by rw [q, List.getElem?_toArray] at hv; exact List.mem_of_getElem? hv))
  obtain ⟨T', h', X', e', E', A', EX, q'⟩ := RoadKit.cloneA X hx hZ hown w1 w2 w3 w4 w5 w6 eh Ar E hF (g := mkF m pc Ls (.ref a :: st)) rfl (by rw [hml]; exact hsz) rfl (hb hby hd) hf (by show 2 * 0 + _ ≤ _; omega) hl (by rw [q, List.size_toArray]; exact hcap) hc hsl
  exact ⟨h', _, rfl, E', ⟨_, A', q⟩, EX, s, T', _, X', e', N, hown, hZ, hB.mono E'.1, fun t u => sp t (q' t u)⟩
theorem WkS.lenA (H : WkS l Z y code mx ret R n0 W V) {z : Int32} (A : Ary Z h a ty vs) (hz : vs.length.toInt32 = z) (hd : decode code pc = .ok (.arraylength, 1)) (r : W Ts h k n pc Ls (.ref a :: st)) : W Ts h k n (pc + 1) Ls (.int z :: st) := by
  obtain ⟨c, A, q⟩ := A
  exact H.arrLen A (by rw [q, List.size_toArray]; exact hz) hd r
theorem WkS.ldI (H : WkS l Z y code mx ret R n0 W V) {j : Int32} {i : Nat} (A : Ary Z h a .int vs) (hj : j.toInt = i) (hv : vs[i]? = some v) (hd : decode code pc = .ok (.iaload, 1)) (r : W Ts h k n pc Ls (.int j :: .ref a :: st)) : W Ts h k n (pc + 1) Ls (v :: st) := by
  obtain ⟨c, A, q⟩ := A
  obtain ⟨h1, h2⟩ := idx_ok hj
  exact H.iaload A (idx_in' hj q (List.getElem?_eq_some_iff.mp hv).1) (by rw [h1, q, List.getElem?_toArray]; exact hv) hd r
theorem WkS.ldJ (H : WkS l Z y code mx ret R n0 W V) {j : Int32} {i : Nat} (A : Ary Z h a .long vs) (hj : j.toInt = i) (hv : vs[i]? = some v) (hd : decode code pc = .ok (.laload, 1)) (r : W Ts h k n pc Ls (.int j :: .ref a :: st)) : W Ts h k n (pc + 1) Ls (v :: st) := by
  obtain ⟨c, A, q⟩ := A
  obtain ⟨h1, h2⟩ := idx_ok hj
  exact H.laload A (idx_in' hj q (List.getElem?_eq_some_iff.mp hv).1) (by rw [h1, q, List.getElem?_toArray]; exact hv) hd r
theorem WkS.ldC (H : WkS l Z y code mx ret R n0 W V) {j : Int32} {i : Nat} (A : Ary Z h a .char vs) (hj : j.toInt = i) (hv : vs[i]? = some v) (hd : decode code pc = .ok (.caload, 1)) (r : W Ts h k n pc Ls (.int j :: .ref a :: st)) : W Ts h k n (pc + 1) Ls (v :: st) := by
  obtain ⟨c, A, q⟩ := A
  obtain ⟨h1, h2⟩ := idx_ok hj
  exact H.caload A (idx_in' hj q (List.getElem?_eq_some_iff.mp hv).1) (by rw [h1, q, List.getElem?_toArray]; exact hv) hd r
theorem WkS.ldB (H : WkS l Z y code mx ret R n0 W V) {j : Int32} {i : Nat} (A : Ary Z h a .byte vs) (hj : j.toInt = i) (hv : vs[i]? = some v) (hd : decode code pc = .ok (.baload, 1)) (r : W Ts h k n pc Ls (.int j :: .ref a :: st)) : W Ts h k n (pc + 1) Ls (v :: st) := by
  obtain ⟨c, A, q⟩ := A
  obtain ⟨h1, h2⟩ := idx_ok hj
  exact H.baload A (idx_in' hj q (List.getElem?_eq_some_iff.mp hv).1) (by rw [h1, q, List.getElem?_toArray]; exact hv) hd r
theorem WkS.putI (H : WkS l Z y code mx ret R n0 W V) {j : Int32} {i : Nat} {x : Int32} (A : Ary Z h a .int vs) (hj : j.toInt = i) (hi : i < vs.length) (hn0 : n0 ≤ a) (hd : decode code pc = .ok (.iastore, 1)) (r : W Ts h k n pc Ls (.int x :: .int j :: .ref a :: st)) : ∃ h', Wr h h' a i (.int x) ∧ Ary Z h' a .int (vs.set i (.int x)) ∧ W Ts h' k n (pc + 1) Ls st := by
  obtain ⟨h1, h2⟩ := idx_ok hj
  obtain ⟨c, A', q⟩ := id A
  obtain ⟨h', w, r'⟩ := H.stI A' (idx_in' hj q hi) hn0 hd r
  rw [h1] at w
  exact ⟨h', w, A.same w, r'⟩
theorem WkS.putJ (H : WkS l Z y code mx ret R n0 W V) {j : Int32} {i : Nat} {x : Int64} (A : Ary Z h a .long vs) (hj : j.toInt = i) (hi : i < vs.length) (hn0 : n0 ≤ a) (hd : decode code pc = .ok (.lastore, 1)) (r : W Ts h k n pc Ls (.long x :: .int j :: .ref a :: st)) : ∃ h', Wr h h' a i (.long x) ∧ Ary Z h' a .long (vs.set i (.long x)) ∧ W Ts h' k n (pc + 1) Ls st := by
  obtain ⟨h1, h2⟩ := idx_ok hj
  obtain ⟨c, A', q⟩ := id A
  obtain ⟨h', w, r'⟩ := H.stJ A' (idx_in' hj q hi) hn0 hd r
  rw [h1] at w
  exact ⟨h', w, A.same w, r'⟩
theorem WkS.putC (H : WkS l Z y code mx ret R n0 W V) {j : Int32} {i : Nat} {x : Int32} {z : Int32} (hz : x.toUInt32.toUInt16.toUInt32.toInt32 = z) (A : Ary Z h a .char vs) (hj : j.toInt = i) (hi : i < vs.length) (hn0 : n0 ≤ a) (hd : decode code pc = .ok (.castore, 1)) (r : W Ts h k n pc Ls (.int x :: .int j :: .ref a :: st)) : ∃ h', Wr h h' a i (.int z) ∧ Ary Z h' a .char (vs.set i (.int z)) ∧ W Ts h' k n (pc + 1) Ls st := by
  subst hz
  obtain ⟨h1, h2⟩ := idx_ok hj
  obtain ⟨c, A', q⟩ := id A
  obtain ⟨h', w, r'⟩ := H.stC A' (idx_in' hj q hi) hn0 hd r
  rw [h1] at w
  exact ⟨h', w, A.same w, r'⟩
theorem WkS.putB (H : WkS l Z y code mx ret R n0 W V) {j : Int32} {i : Nat} {x : Int32} {z : Int32} (hz : x.toInt8.toInt32 = z) (A : Ary Z h a .byte vs) (hj : j.toInt = i) (hi : i < vs.length) (hn0 : n0 ≤ a) (hd : decode code pc = .ok (.bastore, 1)) (r : W Ts h k n pc Ls (.int x :: .int j :: .ref a :: st)) : ∃ h', Wr h h' a i (.int z) ∧ Ary Z h' a .byte (vs.set i (.int z)) ∧ W Ts h' k n (pc + 1) Ls st := by
  subst hz
  obtain ⟨h1, h2⟩ := idx_ok hj
  obtain ⟨c, A', q⟩ := id A
  obtain ⟨h', w, r'⟩ := H.stB A' (idx_in' hj q hi) hn0 hd r
  rw [h1] at w
  exact ⟨h', w, A.same w, r'⟩
end Arrays
section Lits
variable {l : Launch} {Z : State} {y : MethodName} {code : ByteArray} {mx : Nat} {ret : Option FieldType} {R : Room} {n0 : Nat} {W : WTS} {Ts : List String × Option (Nat × Addr)} {V : VT} {h : Heap} {k n pc : Nat} {Ls : Array Slot} {st : List Value} {a0 : Array Value}
/-- ldc of a String constant below 256, loaded for the first time in this walk -/
theorem WkS.ldcS (H : WkS l Z y code mx ret R n0 W V) {i q : Nat} {text : String} {vs : List Value} {z : Int32} (w : (Jvm.Cond.stringLink y.cls i text).before a0 Z = true) (wS : ∀ a ∈ Bundle.stringAtoms, a.before a0 Z = true) (hnot : text ∉ Ts.1) (hh : Jvm.Lit.constHeld Z y.cls i) (hcw : Jvm.Lit.compactW.before a0 Z = true)
    (ht : (∀ c ∈ text.toList, c.toNat < 256) ∧ text.toList.map (fun c => Value.int (Jvm.Lit.byteI c.toNat.toUInt16)) = vs) (hz : ¬ z < 0) (hl : z.toNatClampNeg = vs.length) (hq : 4 * text.toList.length ≤ q) (hbig : q ≤ 536870912) (hc : k + 2 ≤ R.cells) (hn : n + (q + 4) ≤ R.slots) (hd : decode code pc = .ok (.ldc i, 2)) (r : W Ts h k n pc Ls st) :
    ∃ (h' : Heap) (a b : Addr), Ext h h' ∧ Exa Z h' a "java/lang/String" ∧ Fld Z h' a "java/lang/String" "coder" "B" (.int 0) ∧ Fld Z h' a "java/lang/String" "value" "[B" (.ref b) ∧ Ary Z h' b .byte vs ∧ W (text :: Ts.1, some (i, a)) h' (k + 2) (n + (q + 4)) (pc + 2) Ls (.ref a :: st) := by
  obtain ⟨p, e, s0, m, args, below, meth, c, S0, hx, hby, hml, hnm, hret, hlk, hZs, rfl, rfl⟩ := H
  obtain ⟨s, T, locs, X, eh, N, hown, hZ, ⟨vm0, k0, rfl, S, hk, I, -⟩, sp⟩ := r
  obtain ⟨a, T', h', k1, b, kc, X', e', E', S', hk', hZ', hown', A1, F1, F2, V1, -, -, I', L', st'⟩ := RoadKit.ldcSVL X hx hZ hown w wS eh S hk (by rw [← hZs.2]; exact N) (fun b cl u => by rw [hZs.1]; exact u) I hnot hh hcw ht hz hl (g := mkF m pc Ls st) rfl (hb hby hd) hq hbig hc hn
  refine ⟨h', a, b, E', A1, F1, F2, ?_, s0.setVm T'.vm, T', locs, X', e', N, hown', hZ', ⟨T'.vm, k1, rfl, S', hk', I', fun i' a' q => by first | (cases q; exact L') | (simp only [Option.some.injEq, Prod.mk.injEq] at q; obtain ⟨rfl, rfl⟩ := q; exact L')⟩, fun t u => sp t (st' t u)⟩
  obtain ⟨cc, A, -, Sz, -, Hs, -⟩ := V1
  refine ⟨cc, A, ?_⟩
  have hlen : cc.slots.size = vs.length := Sz.trans hl
  apply Array.ext_getElem?
  intro j
  by_cases hj : j < cc.slots.size
  · rw [Hs j hj, List.getElem?_toArray, List.getD_eq_getElem?_getD, List.getElem?_eq_getElem (by omega)] <;> rfl
  · rw [Array.getElem?_eq_none (by omega), List.getElem?_toArray, List.getElem?_eq_none (by omega)]
/-- .. and loaded again: the same String -/
theorem WkS.ldcAgain (H : WkS l Z y code mx ret R n0 W V) {i : Nat} {text : String} {a : Addr} (w : (Jvm.Cond.stringLink y.cls i text).before a0 Z = true) (hL : Ts.2 = some (i, a)) (hd : decode code pc = .ok (.ldc i, 2)) (r : W Ts h k n pc Ls st) : W Ts h k n (pc + 2) Ls (.ref a :: st) := by
  obtain ⟨p, e, s0, m, args, below, meth, c, S0, hx, hby, hml, hnm, hret, hlk, hZs, rfl, rfl⟩ := H
  obtain ⟨s, T, locs, X, eh, N, hown, hZ, ⟨vm0, k0, rfl, S, hk, I, J⟩, sp⟩ := r
  exact ⟨s0.setVm vm0, T, locs, X, eh, N, hown, hZ, ⟨vm0, k0, rfl, S, hk, I, J⟩, fun t u => sp t (RoadKit.ldcAgain X hx hZ hown w (J i a hL) (g := mkF m pc Ls st) rfl (hb hby hd) t u)⟩
end Lits
end Jvm.OwnS

namespace Jvm.Pilot.@@N@@
open Jvm Jvm.ClassFile Sem Op Lib Jvm.Free Jvm.Stand Jvm.LawKit Jvm.RoadKit Bundle Jvm.OwnW Jvm.OwnS Jvm.Pilot.@@N@@.Jvm.D
def own_hex (z : Int32) : Int32 := if z < 48 then (if z < 97 then (if z < 65 then -1 else if 70 < z then -1 else z - 65 + 10) else if 102 < z then (if z < 65 then -1 else if 70 < z then -1 else z - 65 + 10) else z - 97 + 10) else if 57 < z then (if z < 97 then (if z < 65 then -1 else if 70 < z then -1 else z - 65 + 10) else if 102 < z then (if z < 65 then -1 else if 70 < z then -1 else z - 65 + 10) else z - 97 + 10) else z - 48
def own_ch (t : List Int32) (i : Nat) : Int32 := (t[i]?).getD 0
def own_lo : List Int32 := [(48 : Int32), (49 : Int32), (50 : Int32), (51 : Int32), (52 : Int32), (53 : Int32), (54 : Int32), (55 : Int32), (56 : Int32), (57 : Int32), (97 : Int32), (98 : Int32), (99 : Int32), (100 : Int32), (101 : Int32), (102 : Int32)]
def own_up : List Int32 := [(48 : Int32), (49 : Int32), (50 : Int32), (51 : Int32), (52 : Int32), (53 : Int32), (54 : Int32), (55 : Int32), (56 : Int32), (57 : Int32), (65 : Int32), (66 : Int32), (67 : Int32), (68 : Int32), (69 : Int32), (70 : Int32)]
def own_vlo : List Value := [.int (48 : Int32), .int (49 : Int32), .int (50 : Int32), .int (51 : Int32), .int (52 : Int32), .int (53 : Int32), .int (54 : Int32), .int (55 : Int32), .int (56 : Int32), .int (57 : Int32), .int (97 : Int32), .int (98 : Int32), .int (99 : Int32), .int (100 : Int32), .int (101 : Int32), .int (102 : Int32)]
def own_vup : List Value := [.int (48 : Int32), .int (49 : Int32), .int (50 : Int32), .int (51 : Int32), .int (52 : Int32), .int (53 : Int32), .int (54 : Int32), .int (55 : Int32), .int (56 : Int32), .int (57 : Int32), .int (65 : Int32), .int (66 : Int32), .int (67 : Int32), .int (68 : Int32), .int (69 : Int32), .int (70 : Int32)]
theorem own_lo_at (i : Nat) (hi : i < 16) : own_vlo[i]? = some (.int (own_ch own_lo i)) ∧ (own_ch own_lo i &&& (255 : Int32)).toUInt32.toUInt16.toUInt32.toInt32 = own_ch own_lo i ∧ own_hex (own_ch own_lo i) = Int32.ofNat i := by
  match i, hi with
  | 0, _ => exact ⟨rfl, by decide +kernel, by decide +kernel⟩
  | 1, _ => exact ⟨rfl, by decide +kernel, by decide +kernel⟩
  | 2, _ => exact ⟨rfl, by decide +kernel, by decide +kernel⟩
  | 3, _ => exact ⟨rfl, by decide +kernel, by decide +kernel⟩
  | 4, _ => exact ⟨rfl, by decide +kernel, by decide +kernel⟩
  | 5, _ => exact ⟨rfl, by decide +kernel, by decide +kernel⟩
  | 6, _ => exact ⟨rfl, by decide +kernel, by decide +kernel⟩
  | 7, _ => exact ⟨rfl, by decide +kernel, by decide +kernel⟩
  | 8, _ => exact ⟨rfl, by decide +kernel, by decide +kernel⟩
  | 9, _ => exact ⟨rfl, by decide +kernel, by decide +kernel⟩
  | 10, _ => exact ⟨rfl, by decide +kernel, by decide +kernel⟩
  | 11, _ => exact ⟨rfl, by decide +kernel, by decide +kernel⟩
  | 12, _ => exact ⟨rfl, by decide +kernel, by decide +kernel⟩
  | 13, _ => exact ⟨rfl, by decide +kernel, by decide +kernel⟩
  | 14, _ => exact ⟨rfl, by decide +kernel, by decide +kernel⟩
  | 15, _ => exact ⟨rfl, by decide +kernel, by decide +kernel⟩
  | n + 16, h => exact absurd h (by omega)
theorem own_up_at (i : Nat) (hi : i < 16) : own_vup[i]? = some (.int (own_ch own_up i)) ∧ (own_ch own_up i &&& (255 : Int32)).toUInt32.toUInt16.toUInt32.toInt32 = own_ch own_up i ∧ own_hex (own_ch own_up i) = Int32.ofNat i := by
  match i, hi with
  | 0, _ => exact ⟨rfl, by decide +kernel, by decide +kernel⟩
  | 1, _ => exact ⟨rfl, by decide +kernel, by decide +kernel⟩
  | 2, _ => exact ⟨rfl, by decide +kernel, by decide +kernel⟩
  | 3, _ => exact ⟨rfl, by decide +kernel, by decide +kernel⟩
  | 4, _ => exact ⟨rfl, by decide +kernel, by decide +kernel⟩
  | 5, _ => exact ⟨rfl, by decide +kernel, by decide +kernel⟩
  | 6, _ => exact ⟨rfl, by decide +kernel, by decide +kernel⟩
  | 7, _ => exact ⟨rfl, by decide +kernel, by decide +kernel⟩
  | 8, _ => exact ⟨rfl, by decide +kernel, by decide +kernel⟩
  | 9, _ => exact ⟨rfl, by decide +kernel, by decide +kernel⟩
  | 10, _ => exact ⟨rfl, by decide +kernel, by decide +kernel⟩
  | 11, _ => exact ⟨rfl, by decide +kernel, by decide +kernel⟩
  | 12, _ => exact ⟨rfl, by decide +kernel, by decide +kernel⟩
  | 13, _ => exact ⟨rfl, by decide +kernel, by decide +kernel⟩
  | 14, _ => exact ⟨rfl, by decide +kernel, by decide +kernel⟩
  | 15, _ => exact ⟨rfl, by decide +kernel, by decide +kernel⟩
  | n + 16, h => exact absurd h (by omega)
theorem own_back (z : Int32) : own_hex z = -1 ∨ ∃ i : Nat, i < 16 ∧ own_hex z = Int32.ofNat i ∧ (z = own_ch own_lo i ∨ z = own_ch own_up i) := by
  have key : ∀ (lo n : Nat), (Int32.ofNat lo ≤ z ∧ z < Int32.ofNat (lo + n)) → lo + n < 200 → ∃ k : Nat, k < n ∧ z = Int32.ofNat (lo + k) := by
    intro lo n h hl
    rw [Int32.le_iff_toInt_le, Int32.lt_iff_toInt_lt, own_ofNat (by omega), own_ofNat (by omega)] at h
    refine ⟨(z.toInt - lo).toNat, by omega, ?_⟩
    apply Int32.toInt_inj.mp
    rw [own_ofNat (by omega)]
    omega
  have d1 : ∀ k : Fin 10, own_hex (Int32.ofNat (48 + k.val)) = Int32.ofNat k.val ∧ Int32.ofNat (48 + k.val) = own_ch own_lo k.val := by decide +kernel
  have d2 : ∀ k : Fin 6, own_hex (Int32.ofNat (97 + k.val)) = Int32.ofNat (10 + k.val) ∧ Int32.ofNat (97 + k.val) = own_ch own_lo (10 + k.val) := by decide +kernel
  have d3 : ∀ k : Fin 6, own_hex (Int32.ofNat (65 + k.val)) = Int32.ofNat (10 + k.val) ∧ Int32.ofNat (65 + k.val) = own_ch own_up (10 + k.val) := by decide +kernel
  by_cases a1 : Int32.ofNat 48 ≤ z ∧ z < Int32.ofNat (48 + 10)
  · obtain ⟨k, hk, rfl⟩ := key 48 10 a1 (by decide)
    obtain ⟨e1, e2⟩ := d1 ⟨k, hk⟩
    exact Or.inr ⟨k, by omega, e1, Or.inl e2⟩
  · by_cases a2 : Int32.ofNat 97 ≤ z ∧ z < Int32.ofNat (97 + 6)
    · obtain ⟨k, hk, rfl⟩ := key 97 6 a2 (by decide)
      obtain ⟨e1, e2⟩ := d2 ⟨k, hk⟩
      exact Or.inr ⟨10 + k, by omega, e1, Or.inl e2⟩
    · by_cases a3 : Int32.ofNat 65 ≤ z ∧ z < Int32.ofNat (65 + 6)
      · obtain ⟨k, hk, rfl⟩ := key 65 6 a3 (by decide)
        obtain ⟨e1, e2⟩ := d3 ⟨k, hk⟩
        exact Or.inr ⟨10 + k, by omega, e1, Or.inr e2⟩
      · left
        rw [Int32.le_iff_toInt_le, Int32.lt_iff_toInt_lt, own_ofNat (by omega), own_ofNat (by omega)] at a1 a2 a3
        unfold own_hex
        have c1 : (48 : Int32).toInt = 48 := rfl
        have c2 : (57 : Int32).toInt = 57 := rfl
        have c3 : (97 : Int32).toInt = 97 := rfl
        have c4 : (102 : Int32).toInt = 102 := rfl
        have c5 : (65 : Int32).toInt = 65 := rfl
        have c6 : (70 : Int32).toInt = 70 := rfl
        simp only [Int32.lt_iff_toInt_lt, c1, c2, c3, c4, c5, c6]
        repeat' split
        all_goals first | rfl | (exfalso; omega)
theorem own_m15 (x : Int32) : ∃ n : Nat, n < 16 ∧ (x &&& (15 : Int32)) = Int32.ofNat n := by
  have h1 : (x &&& (15 : Int32)).toInt = x.toInt % (2 ^ 4 : Nat) := c_mask x _ 4 (by decide) (by decide)
  refine ⟨(x &&& (15 : Int32)).toInt.toNat, by omega, ?_⟩
  apply Int32.toInt_inj.mp
  rw [own_ofNat (by omega)]
  omega
theorem d1_0 : decode jdk_42_method_56_code 0 = .ok (.aload_n 0, 1) := by decide +kernel
theorem d1_1 : decode jdk_42_method_56_code 1 = .ok (.invokevirtual 492, 3) := by decide +kernel
theorem d1_4 : decode jdk_42_method_56_code 4 = .ok (.ifCond .eq 12, 3) := by decide +kernel
theorem d1_7 : decode jdk_42_method_56_code 7 = .ok (.aload_n 0, 1) := by decide +kernel
theorem d1_8 : decode jdk_42_method_56_code 8 = .ok (.getfield 9, 3) := by decide +kernel
theorem d1_11 : decode jdk_42_method_56_code 11 = .ok (.iload_n 1, 1) := by decide +kernel
theorem d1_12 : decode jdk_42_method_56_code 12 = .ok (.invokestatic 495, 3) := by decide +kernel
theorem d1_15 : decode jdk_42_method_56_code 15 = .ok (.ireturn, 1) := by decide +kernel
theorem d2_0 : decode jdk_42_method_154_code 0 = .ok (.getstatic 38, 3) := by decide +kernel
theorem d2_3 : decode jdk_42_method_154_code 3 = .ok (.ifCond .eq 14, 3) := by decide +kernel
theorem d2_6 : decode jdk_42_method_154_code 6 = .ok (.aload_n 0, 1) := by decide +kernel
theorem d2_7 : decode jdk_42_method_154_code 7 = .ok (.getfield 15, 3) := by decide +kernel
theorem d2_10 : decode jdk_42_method_154_code 10 = .ok (.ifCond .ne 7, 3) := by decide +kernel
theorem d2_13 : decode jdk_42_method_154_code 13 = .ok (.iconst 1, 1) := by decide +kernel
theorem d2_14 : decode jdk_42_method_154_code 14 = .ok (.goto 4, 3) := by decide +kernel
theorem d2_18 : decode jdk_42_method_154_code 18 = .ok (.ireturn, 1) := by decide +kernel
theorem d3_0 : decode jdk_43_method_2_code 0 = .ok (.iload_n 1, 1) := by decide +kernel
theorem d3_1 : decode jdk_43_method_2_code 1 = .ok (.aload_n 0, 1) := by decide +kernel
theorem d3_2 : decode jdk_43_method_2_code 2 = .ok (.arraylength, 1) := by decide +kernel
theorem d3_3 : decode jdk_43_method_2_code 3 = .ok (.invokestatic 9, 3) := by decide +kernel
theorem d3_6 : decode jdk_43_method_2_code 6 = .ok (.aload_n 0, 1) := by decide +kernel
theorem d3_7 : decode jdk_43_method_2_code 7 = .ok (.iload_n 1, 1) := by decide +kernel
theorem d3_8 : decode jdk_43_method_2_code 8 = .ok (.baload, 1) := by decide +kernel
theorem d3_9 : decode jdk_43_method_2_code 9 = .ok (.sipush 255, 3) := by decide +kernel
theorem d3_12 : decode jdk_43_method_2_code 12 = .ok (.iand, 1) := by decide +kernel
theorem d3_13 : decode jdk_43_method_2_code 13 = .ok (.i2c, 1) := by decide +kernel
theorem d3_14 : decode jdk_43_method_2_code 14 = .ok (.ireturn, 1) := by decide +kernel
theorem d4_0 : decode jdk_42_method_155_code 0 = .ok (.iload_n 0, 1) := by decide +kernel
theorem d4_1 : decode jdk_42_method_155_code 1 = .ok (.iload_n 1, 1) := by decide +kernel
theorem d4_2 : decode jdk_42_method_155_code 2 = .ok (.getstatic 1053, 3) := by decide +kernel
theorem d4_5 : decode jdk_42_method_155_code 5 = .ok (.invokestatic 1059, 3) := by decide +kernel
theorem d4_8 : decode jdk_42_method_155_code 8 = .ok (.pop, 1) := by decide +kernel
theorem d4_9 : decode jdk_42_method_155_code 9 = .ok (.return_, 1) := by decide +kernel
theorem d5_0 : decode jdk_41_method_11_code 0 = .ok (.iload_n 0, 1) := by decide +kernel
theorem d5_1 : decode jdk_41_method_11_code 1 = .ok (.ifCond .lt 8, 3) := by decide +kernel
theorem d5_4 : decode jdk_41_method_11_code 4 = .ok (.iload_n 0, 1) := by decide +kernel
theorem d5_5 : decode jdk_41_method_11_code 5 = .ok (.iload_n 1, 1) := by decide +kernel
theorem d5_6 : decode jdk_41_method_11_code 6 = .ok (.if_icmp .lt 10, 3) := by decide +kernel
theorem d5_16 : decode jdk_41_method_11_code 16 = .ok (.iload_n 0, 1) := by decide +kernel
theorem d5_17 : decode jdk_41_method_11_code 17 = .ok (.ireturn, 1) := by decide +kernel
theorem d6_0 : decode prog_82_method_31_code 0 = .ok (.iload_n 0, 1) := by decide +kernel
theorem d6_1 : decode prog_82_method_31_code 1 = .ok (.bipush 48, 2) := by decide +kernel
theorem d6_3 : decode prog_82_method_31_code 3 = .ok (.if_icmp .lt 14, 3) := by decide +kernel
theorem d6_6 : decode prog_82_method_31_code 6 = .ok (.iload_n 0, 1) := by decide +kernel
theorem d6_7 : decode prog_82_method_31_code 7 = .ok (.bipush 57, 2) := by decide +kernel
theorem d6_9 : decode prog_82_method_31_code 9 = .ok (.if_icmp .gt 8, 3) := by decide +kernel
theorem d6_12 : decode prog_82_method_31_code 12 = .ok (.iload_n 0, 1) := by decide +kernel
theorem d6_13 : decode prog_82_method_31_code 13 = .ok (.bipush 48, 2) := by decide +kernel
theorem d6_15 : decode prog_82_method_31_code 15 = .ok (.isub, 1) := by decide +kernel
theorem d6_16 : decode prog_82_method_31_code 16 = .ok (.ireturn, 1) := by decide +kernel
theorem d6_17 : decode prog_82_method_31_code 17 = .ok (.iload_n 0, 1) := by decide +kernel
theorem d6_18 : decode prog_82_method_31_code 18 = .ok (.bipush 97, 2) := by decide +kernel
theorem d6_20 : decode prog_82_method_31_code 20 = .ok (.if_icmp .lt 17, 3) := by decide +kernel
theorem d6_23 : decode prog_82_method_31_code 23 = .ok (.iload_n 0, 1) := by decide +kernel
theorem d6_24 : decode prog_82_method_31_code 24 = .ok (.bipush 102, 2) := by decide +kernel
theorem d6_26 : decode prog_82_method_31_code 26 = .ok (.if_icmp .gt 11, 3) := by decide +kernel
theorem d6_29 : decode prog_82_method_31_code 29 = .ok (.iload_n 0, 1) := by decide +kernel
theorem d6_30 : decode prog_82_method_31_code 30 = .ok (.bipush 97, 2) := by decide +kernel
theorem d6_32 : decode prog_82_method_31_code 32 = .ok (.isub, 1) := by decide +kernel
theorem d6_33 : decode prog_82_method_31_code 33 = .ok (.bipush 10, 2) := by decide +kernel
theorem d6_35 : decode prog_82_method_31_code 35 = .ok (.iadd, 1) := by decide +kernel
theorem d6_36 : decode prog_82_method_31_code 36 = .ok (.ireturn, 1) := by decide +kernel
theorem d6_37 : decode prog_82_method_31_code 37 = .ok (.iload_n 0, 1) := by decide +kernel
theorem d6_38 : decode prog_82_method_31_code 38 = .ok (.bipush 65, 2) := by decide +kernel
theorem d6_40 : decode prog_82_method_31_code 40 = .ok (.if_icmp .lt 17, 3) := by decide +kernel
theorem d6_43 : decode prog_82_method_31_code 43 = .ok (.iload_n 0, 1) := by decide +kernel
theorem d6_44 : decode prog_82_method_31_code 44 = .ok (.bipush 70, 2) := by decide +kernel
theorem d6_46 : decode prog_82_method_31_code 46 = .ok (.if_icmp .gt 11, 3) := by decide +kernel
theorem d6_49 : decode prog_82_method_31_code 49 = .ok (.iload_n 0, 1) := by decide +kernel
theorem d6_50 : decode prog_82_method_31_code 50 = .ok (.bipush 65, 2) := by decide +kernel
theorem d6_52 : decode prog_82_method_31_code 52 = .ok (.isub, 1) := by decide +kernel
theorem d6_53 : decode prog_82_method_31_code 53 = .ok (.bipush 10, 2) := by decide +kernel
theorem d6_55 : decode prog_82_method_31_code 55 = .ok (.iadd, 1) := by decide +kernel
theorem d6_56 : decode prog_82_method_31_code 56 = .ok (.ireturn, 1) := by decide +kernel
theorem d6_57 : decode prog_82_method_31_code 57 = .ok (.iconst (-1), 1) := by decide +kernel
theorem d6_58 : decode prog_82_method_31_code 58 = .ok (.ireturn, 1) := by decide +kernel
theorem pd_0 : parseMethodDescriptor "(IILjava/util/function/BiFunction;)I" = some ⟨[.int, .int, (.object "java/util/function/BiFunction")], some .int⟩ := by decide +kernel
theorem pd_1 : parseMethodDescriptor "(II)V" = some ⟨[.int, .int], none⟩ := by decide +kernel
theorem pd_2 : parseMethodDescriptor "()Z" = some ⟨[], some .boolean⟩ := by decide +kernel
theorem pd_3 : parseMethodDescriptor "([BI)C" = some ⟨[(.array .byte), .int], some .char⟩ := by decide +kernel
theorem pd_4 : parseMethodDescriptor "(I)C" = some ⟨[.int], some .char⟩ := by decide +kernel
theorem pd_5 : parseMethodDescriptor "(C)I" = some ⟨[.char], some .int⟩ := by decide +kernel
theorem pn_0 : plainName "java/lang/String" = true := by first | (simp [plainName, overriddenIn]; done) | decide +kernel
theorem pn_1 : plainName "jdk/internal/util/Preconditions" = true := by first | (simp [plainName, overriddenIn]; done) | decide +kernel
theorem pn_2 : plainName "java/lang/StringLatin1" = true := by first | (simp [plainName, overriddenIn]; done) | decide +kernel
theorem pn_3 : plainName "com/example/resolvent/resolvent/Lexer" = true := by first | (simp [plainName, overriddenIn]; done) | decide +kernel
theorem pn_4 : plainName "com/example/resolvent/resolvent/LexerHexValuePinLaw" = true := by first | (simp [plainName, overriddenIn]; done) | decide +kernel
theorem ef_lat (x0 : Addr) (m : MethodId) : entryFrame m #[(.ref x0)] 1 = mkF m 0 #[.val (.ref x0)] [] := by first | (simp [entryFrame, mkF, argsToLocals, Value.category]; done) | rfl
theorem ef_pci (x0 x1 : Int32) (fm : Value) (hfm : fm.isRef = true) (m : MethodId) : entryFrame m #[(.int x0), (.int x1), fm] 3 = mkF m 0 #[.val (.int x0), .val (.int x1), .val fm] [] := by
  rcases ref_cases hfm with rfl | ⟨b, rfl⟩ <;> first | (simp [entryFrame, mkF, argsToLocals, Value.category]; done) | rfl
theorem ef_ci (x0 : Int32) (x1 : Int32) (m : MethodId) : entryFrame m #[(.int x0), (.int x1)] 2 = mkF m 0 #[.val (.int x0), .val (.int x1)] [] := by first | (simp [entryFrame, mkF, argsToLocals, Value.category]; done) | rfl
theorem ef_l1 (x0 : Addr) (x1 : Int32) (m : MethodId) : entryFrame m #[(.ref x0), (.int x1)] 2 = mkF m 0 #[.val (.ref x0), .val (.int x1)] [] := by first | (simp [entryFrame, mkF, argsToLocals, Value.category]; done) | rfl
theorem ef_ca (x0 : Addr) (x1 : Int32) (m : MethodId) : entryFrame m #[(.ref x0), (.int x1)] 2 = mkF m 0 #[.val (.ref x0), .val (.int x1)] [] := by first | (simp [entryFrame, mkF, argsToLocals, Value.category]; done) | rfl
theorem ef_hex (x0 : Int32) (m : MethodId) : entryFrame m #[(.int x0)] 1 = mkF m 0 #[.val (.int x0)] [] := by first | (simp [entryFrame, mkF, argsToLocals, Value.category]; done) | rfl
theorem ef_0 (x0 : Int32) (x1 : Int32) (m : MethodId) : entryFrame m #[(.int x0), (.int x1)] maxLocals = mkF m 0 #[.val (.int x0), .val (.int x1), .unset, .unset, .unset, .unset, .unset] [] := by first | (simp [entryFrame, mkF, argsToLocals, Value.category, maxLocals]; done) | rfl
set_option maxRecDepth 65536 in
set_option maxHeartbeats 40000000 in
theorem lat_ct {l : Launch} {Z : State} {a0 : Array Value} (hw : ∀ d ∈ tables_1, d.before a0 Z = true) (a : Addr) (cs : Int32) (hcs : ¬ cs = 0) (S1 : Sta Z Z.heap "java/lang/String" "COMPACT_STRINGS" "Z" (.int cs)) (fm : Value) (hfm : fm.isRef = true) (S2 : Sta Z Z.heap "jdk/internal/util/Preconditions" "SIOOBE_FORMATTER" "Ljava/util/function/BiFunction;" fm) (h0 : Heap) (n0 : Nat) (O0 : Ext Z.heap h0) (C0 : Fld Z h0 a "java/lang/String" "coder" "B" (.int 0)) :
    Ct l Z (⟨"java/lang/String", "isLatin1", "()Z"⟩ : MethodName) jdk_42_method_154_code 1 (some .boolean) ({ frames := 0, cells := 0, slots := 0, locals := 0 } : Room) n0 #[(.ref a)] h0 (fun v h' => v = some (.int (1 : Int32)) ∧ h' = h0) := by
  refine Ct.of (plainFor_of_name pn_0) (fun m => ef_lat a m) ?_
  intro W V H r0
  have r1 : W h0 0 0 3 #[.val (.ref a)] [(.int cs)] := H.getS (hw _ (List.mem_of_getElem? (i := 19) rfl)) (Sta.ext O0 S1) d2_0 r0
  have r2 : W h0 0 0 6 #[.val (.ref a)] [] := (H.ifNo d2_3 r1 (feq hcs).1)
  have r3 : W h0 0 0 7 #[.val (.ref a)] [(.ref a)] := (H.aloadN d2_6 r2 rfl rfl)
  have r4 : W h0 0 0 10 #[.val (.ref a)] [(.int (0 : Int32))] := H.getF' (hw _ (List.mem_of_getElem? (i := 20) rfl)) C0 d2_7 r3
  have r5 : W h0 0 0 13 #[.val (.ref a)] [] := (H.ifNo d2_10 r4 (teq (rfl : (0 : Int32) = 0)).2)
  have r6 : W h0 0 0 18 #[.val (.ref a)] [(.int (1 : Int32))] := (H.goto (pc' := 18) d2_14 (H.iconst (z := (1 : Int32)) d2_13 r5 rfl) (by decide) (by decide))
  exact ⟨_, _, H.retZ rfl rfl (Nat.le_refl _) (Nat.le_refl _) d2_18 r6, rfl, rfl⟩
set_option maxRecDepth 65536 in
set_option maxHeartbeats 40000000 in
theorem pci_ct {l : Launch} {Z : State} {a0 : Array Value} (hw : ∀ d ∈ tables_1, d.before a0 Z = true) (i n : Nat) (hin : i < n) (hn : n < 2147483648) (fm : Value) (hfm : fm.isRef = true) (h0 : Heap) (n0 : Nat) :
    Ct l Z (⟨"jdk/internal/util/Preconditions", "checkIndex", "(IILjava/util/function/BiFunction;)I"⟩ : MethodName) jdk_41_method_11_code 3 (some .int) ({ frames := 0, cells := 0, slots := 0, locals := 0 } : Room) n0 #[(.int (Int32.ofNat i)), (.int (Int32.ofNat n)), fm] h0 (fun v h' => v = some (.int (Int32.ofNat i)) ∧ h' = h0) := by
  refine Ct.of (plainFor_of_name pn_1) (fun m => ef_pci (Int32.ofNat i) (Int32.ofNat n) fm hfm m) ?_
  intro W V H r0
  have r7 : W h0 0 0 4 #[.val (.int (Int32.ofNat i)), .val (.int (Int32.ofNat n)), .val fm] [] := (H.ifNo d5_1 (H.iloadN d5_0 r0 rfl) (flt (own_nn (by omega))).1)
  have r8 : W h0 0 0 16 #[.val (.int (Int32.ofNat i)), .val (.int (Int32.ofNat n)), .val fm] [] := (H.icmpYes (pc' := 16) d5_6 (H.iloadN d5_5 (H.iloadN d5_4 r7 rfl) rfl) (by decide) (by decide) (tlt ((own_ltN (by omega) (by omega)).mpr hin)).1)
  have r9 : W h0 0 0 17 #[.val (.int (Int32.ofNat i)), .val (.int (Int32.ofNat n)), .val fm] [(.int (Int32.ofNat i))] := (H.iloadN d5_16 r8 rfl)
  exact ⟨_, _, H.retI rfl (Nat.le_refl _) (Nat.le_refl _) d5_17 r9, rfl, rfl⟩
set_option maxRecDepth 65536 in
set_option maxHeartbeats 40000000 in
theorem ci_ct {l : Launch} {Z : State} {a0 : Array Value} (hw : ∀ d ∈ tables_1, d.before a0 Z = true) (i n : Nat) (hin : i < n) (hn : n < 2147483648) (cs : Int32) (hcs : ¬ cs = 0) (S1 : Sta Z Z.heap "java/lang/String" "COMPACT_STRINGS" "Z" (.int cs)) (fm : Value) (hfm : fm.isRef = true) (S2 : Sta Z Z.heap "jdk/internal/util/Preconditions" "SIOOBE_FORMATTER" "Ljava/util/function/BiFunction;" fm) (h0 : Heap) (n0 : Nat) (O0 : Ext Z.heap h0) :
    Ct l Z (⟨"java/lang/String", "checkIndex", "(II)V"⟩ : MethodName) jdk_42_method_155_code 2 none ({ frames := 1, cells := 0, slots := 0, locals := 14 } : Room) n0 #[(.int (Int32.ofNat i)), (.int (Int32.ofNat n))] h0 (fun v h' => v = none ∧ h' = h0) := by
  refine Ct.of (plainFor_of_name pn_0) (fun m => ef_ci (Int32.ofNat i) (Int32.ofNat n) m) ?_
  intro W V H r0
  have r10 : W h0 0 0 2 #[.val (.int (Int32.ofNat i)), .val (.int (Int32.ofNat n))] [(.int (Int32.ofNat n)), (.int (Int32.ofNat i))] := (H.iloadN d4_1 (H.iloadN d4_0 r0 rfl) rfl)
  have r11 : W h0 0 0 5 #[.val (.int (Int32.ofNat i)), .val (.int (Int32.ofNat n))] [fm, (.int (Int32.ofNat n)), (.int (Int32.ofNat i))] := H.getS (hw _ (List.mem_of_getElem? (i := 29) rfl)) (Sta.ext O0 S2) d4_2 r10
  have r12 : W h0 0 0 8 #[.val (.int (Int32.ofNat i)), .val (.int (Int32.ofNat n))] [(.int (Int32.ofNat i))] := H.callSP (w := 0) (argsL := [(.int (Int32.ofNat i)), (.int (Int32.ofNat n)), fm]) (rest := []) (hw _ (List.mem_of_getElem? (i := 31) rfl)) (hw _ (List.mem_of_getElem? (i := 32) rfl)) (hw _ (List.mem_of_getElem? (i := 30) rfl)) (hw _ (List.mem_of_getElem? (i := 33) rfl)) (by decide) pd_0 (by decide) (by decide) (by decide) (by decide) (pci_ct hw i n hin hn fm hfm h0 n0) rfl rfl (Nat.le_of_eq rfl) rfl d4_5 r11
  have r13 : W h0 0 0 9 #[.val (.int (Int32.ofNat i)), .val (.int (Int32.ofNat n))] [] := (H.pop d4_8 r12 rfl)
  exact ⟨_, _, H.retN rfl (Nat.le_refl _) (Nat.le_refl _) d4_9 r13, rfl, rfl⟩
set_option maxRecDepth 65536 in
set_option maxHeartbeats 40000000 in
theorem l1_ct {l : Launch} {Z : State} {a0 : Array Value} (hw : ∀ d ∈ tables_1, d.before a0 Z = true) {vs : List Value} (b : Addr) (i : Nat) (v z : Int32) (hn : vs.length < 2147483648) (hv : vs[i]? = some (.int v)) (hz : (v &&& (255 : Int32)).toUInt32.toUInt16.toUInt32.toInt32 = z) (cs : Int32) (hcs : ¬ cs = 0) (S1 : Sta Z Z.heap "java/lang/String" "COMPACT_STRINGS" "Z" (.int cs)) (fm : Value) (hfm : fm.isRef = true) (S2 : Sta Z Z.heap "jdk/internal/util/Preconditions" "SIOOBE_FORMATTER" "Ljava/util/function/BiFunction;" fm) (h0 : Heap) (n0 : Nat) (O0 : Ext Z.heap h0) (A0 : Ary Z h0 b .byte vs) :
    Ct l Z (⟨"java/lang/StringLatin1", "charAt", "([BI)C"⟩ : MethodName) jdk_43_method_2_code 2 (some .char) ({ frames := 2, cells := 0, slots := 0, locals := 27 } : Room) n0 #[(.ref b), (.int (Int32.ofNat i))] h0 (fun v' h' => v' = some (.int z) ∧ h' = h0) := by
  refine Ct.of (plainFor_of_name pn_2) (fun m => ef_l1 b (Int32.ofNat i) m) ?_
  have hin : i < vs.length := (List.getElem?_eq_some_iff.mp hv).1
  intro W V H r0
  have r14 : W h0 0 0 2 #[.val (.ref b), .val (.int (Int32.ofNat i))] [(.ref b), (.int (Int32.ofNat i))] := (H.aloadN d3_1 (H.iloadN d3_0 r0 rfl) rfl rfl)
  have r15 : W h0 0 0 3 #[.val (.ref b), .val (.int (Int32.ofNat i))] [(.int (Int32.ofNat vs.length)), (.int (Int32.ofNat i))] := H.lenA (z := (Int32.ofNat vs.length)) A0 rfl d3_2 r14
  have r16 : W h0 0 0 6 #[.val (.ref b), .val (.int (Int32.ofNat i))] [] := H.callSP (w := 0) (argsL := [(.int (Int32.ofNat i)), (.int (Int32.ofNat vs.length))]) (rest := []) (hw _ (List.mem_of_getElem? (i := 26) rfl)) (hw _ (List.mem_of_getElem? (i := 27) rfl)) (hw _ (List.mem_of_getElem? (i := 1) rfl)) (hw _ (List.mem_of_getElem? (i := 28) rfl)) (by decide) pd_1 (by decide) (by decide) (by decide) (by decide) (ci_ct hw i vs.length hin hn cs hcs S1 fm hfm S2 h0 n0 O0) rfl rfl (Nat.le_of_eq rfl) rfl d3_3 r15
  have r17 : W h0 0 0 8 #[.val (.ref b), .val (.int (Int32.ofNat i))] [(.int (Int32.ofNat i)), (.ref b)] := (H.iloadN d3_7 (H.aloadN d3_6 r16 rfl rfl) rfl)
  have r18 : W h0 0 0 9 #[.val (.ref b), .val (.int (Int32.ofNat i))] [(.int v)] := H.ldB (i := i) (v := (.int v)) A0 (own_ofNat (by omega)) hv d3_8 r17
  have r19 : W h0 0 0 14 #[.val (.ref b), .val (.int (Int32.ofNat i))] [(.int ((v &&& (255 : Int32)).toUInt32.toUInt16.toUInt32.toInt32))] := (H.i2c d3_13 (H.iand d3_12 (H.sipush (z := (255 : Int32)) d3_9 r18 rfl)))
  exact ⟨_, _, H.retC (z' := z) (by rw [i2c_mask]; exact hz) rfl (Nat.le_refl _) (Nat.le_refl _) d3_14 r19, rfl, rfl⟩
set_option maxRecDepth 65536 in
set_option maxHeartbeats 40000000 in
theorem ca_ct {l : Launch} {Z : State} {a0 : Array Value} (hw : ∀ d ∈ tables_1, d.before a0 Z = true) {vs : List Value} (a b : Addr) (i : Nat) (v z : Int32) (hn : vs.length < 2147483648) (hv : vs[i]? = some (.int v)) (hz : (v &&& (255 : Int32)).toUInt32.toUInt16.toUInt32.toInt32 = z) (cs : Int32) (hcs : ¬ cs = 0) (S1 : Sta Z Z.heap "java/lang/String" "COMPACT_STRINGS" "Z" (.int cs)) (fm : Value) (hfm : fm.isRef = true) (S2 : Sta Z Z.heap "jdk/internal/util/Preconditions" "SIOOBE_FORMATTER" "Ljava/util/function/BiFunction;" fm) (h0 : Heap) (n0 : Nat) (O0 : Ext Z.heap h0) (X0 : Exa Z h0 a "java/lang/String") (C0 : Fld Z h0 a "java/lang/String" "coder" "B" (.int 0)) (V0 : Fld Z h0 a "java/lang/String" "value" "[B" (.ref b)) (A0 : Ary Z h0 b .byte vs) :
    Ct l Z (⟨"java/lang/String", "charAt", "(I)C"⟩ : MethodName) jdk_42_method_56_code 2 (some .char) ({ frames := 3, cells := 0, slots := 0, locals := 40 } : Room) n0 #[(.ref a), (.int (Int32.ofNat i))] h0 (fun v' h' => v' = some (.int z) ∧ h' = h0) := by
  refine Ct.of (plainFor_of_name pn_0) (fun m => ef_ca a (Int32.ofNat i) m) ?_
  have hzz : z.toUInt32.toUInt16.toUInt32.toInt32 = z := by rw [← hz, i2c_mask]; exact i2c_mask v
  intro W V H r0
  have r20 : W h0 0 0 1 #[.val (.ref a), .val (.int (Int32.ofNat i))] [(.ref a)] := (H.aloadN d1_0 r0 rfl rfl)
  have r21 : W h0 0 0 4 #[.val (.ref a), .val (.int (Int32.ofNat i))] [(.int (1 : Int32))] := H.callVP (w := 0) (argsL := []) (rest := []) (hw _ (List.mem_of_getElem? (i := 14) rfl)) (hw _ (List.mem_of_getElem? (i := 15) rfl)) (Or.inl ⟨_, _, (hw _ (List.mem_of_getElem? (i := 17) rfl)), rfl⟩) (hw _ (List.mem_of_getElem? (i := 17) rfl)) (hw _ (List.mem_of_getElem? (i := 16) rfl)) (hw _ (List.mem_of_getElem? (i := 1) rfl)) (hw _ (List.mem_of_getElem? (i := 18) rfl)) (by decide) pd_2 (by decide) (by decide) (by decide) (by decide) X0 (lat_ct hw a cs hcs S1 fm hfm S2 h0 n0 O0 C0) rfl rfl (Nat.le_of_eq rfl) rfl d1_1 r20
  have r22 : W h0 0 0 7 #[.val (.ref a), .val (.int (Int32.ofNat i))] [] := (H.ifNo d1_4 r21 (feq (by decide)).1)
  have r23 : W h0 0 0 8 #[.val (.ref a), .val (.int (Int32.ofNat i))] [(.ref a)] := (H.aloadN d1_7 r22 rfl rfl)
  have r24 : W h0 0 0 11 #[.val (.ref a), .val (.int (Int32.ofNat i))] [(.ref b)] := H.getF' (hw _ (List.mem_of_getElem? (i := 21) rfl)) V0 d1_8 r23
  have r25 : W h0 0 0 12 #[.val (.ref a), .val (.int (Int32.ofNat i))] [(.int (Int32.ofNat i)), (.ref b)] := (H.iloadN d1_11 r24 rfl)
  have r26 : W h0 0 0 15 #[.val (.ref a), .val (.int (Int32.ofNat i))] [(.int z)] := H.callSP (w := 0) (argsL := [(.ref b), (.int (Int32.ofNat i))]) (rest := []) (hw _ (List.mem_of_getElem? (i := 22) rfl)) (hw _ (List.mem_of_getElem? (i := 23) rfl)) (hw _ (List.mem_of_getElem? (i := 24) rfl)) (hw _ (List.mem_of_getElem? (i := 25) rfl)) (by decide) pd_3 (by decide) (by decide) (by decide) (by decide) (l1_ct hw b i v z hn hv hz cs hcs S1 fm hfm S2 h0 n0 O0 A0) rfl rfl (Nat.le_of_eq rfl) rfl d1_12 r25
  exact ⟨_, _, H.retC (z' := z) hzz rfl (Nat.le_refl _) (Nat.le_refl _) d1_15 r26, rfl, rfl⟩
set_option maxRecDepth 65536 in
set_option maxHeartbeats 40000000 in
theorem hex_ct {l : Launch} {Z : State} {a0 : Array Value} (hw : ∀ d ∈ tables_1, d.before a0 Z = true) (z : Int32) (h0 : Heap) (n0 : Nat) :
    Ct l Z (⟨"com/example/resolvent/resolvent/Lexer", "hexValue", "(C)I"⟩ : MethodName) prog_82_method_31_code 1 (some .int) ({ frames := 0, cells := 0, slots := 0, locals := 0 } : Room) n0 #[(.int z)] h0 (fun v h' => v = some (.int (own_hex z)) ∧ h' = h0) := by
  refine Ct.of (plainFor_of_name pn_3) (fun m => ef_hex z m) ?_
  intro W V H r0
  have r27 : W h0 0 0 3 #[.val (.int z)] [(.int (48 : Int32)), (.int z)] := (H.bipush (z := (48 : Int32)) d6_1 (H.iloadN d6_0 r0 rfl) rfl)
  by_cases h1 : z < (48 : Int32)
  · have r28 : W h0 0 0 17 #[.val (.int z)] [] := (H.icmpYes (pc' := 17) d6_3 r27 (by decide) (by decide) (tlt h1).1)
    have r30 : W h0 0 0 20 #[.val (.int z)] [(.int (97 : Int32)), (.int z)] := (H.bipush (z := (97 : Int32)) d6_18 (H.iloadN d6_17 r28 rfl) rfl)
    by_cases m1 : z < (97 : Int32)
    · have r31 : W h0 0 0 37 #[.val (.int z)] [] := (H.icmpYes (pc' := 37) d6_20 r30 (by decide) (by decide) (tlt m1).1)
      have r33 : W h0 0 0 40 #[.val (.int z)] [(.int (65 : Int32)), (.int z)] := (H.bipush (z := (65 : Int32)) d6_38 (H.iloadN d6_37 r31 rfl) rfl)
      by_cases k2 : z < (65 : Int32)
      · have r34 : W h0 0 0 57 #[.val (.int z)] [] := (H.icmpYes (pc' := 57) d6_40 r33 (by decide) (by decide) (tlt k2).1)
        have r36 : W h0 0 0 58 #[.val (.int z)] [(.int (-1 : Int32))] := (H.iconst (z := (-1 : Int32)) d6_57 r34 rfl)
        exact ⟨_, _, H.retI rfl (Nat.le_refl _) (Nat.le_refl _) d6_58 r36, by rw [own_hex, if_pos h1, if_pos m1, if_pos k2], rfl⟩
      · have r35 : W h0 0 0 43 #[.val (.int z)] [] := (H.icmpNo d6_40 r33 (flt k2).1)
        have r37 : W h0 0 0 46 #[.val (.int z)] [(.int (70 : Int32)), (.int z)] := (H.bipush (z := (70 : Int32)) d6_44 (H.iloadN d6_43 r35 rfl) rfl)
        by_cases l2 : (70 : Int32) < z
        · have r38 : W h0 0 0 57 #[.val (.int z)] [] := (H.icmpYes (pc' := 57) d6_46 r37 (by decide) (by decide) (tlt l2).2.2.1)
          have r40 : W h0 0 0 58 #[.val (.int z)] [(.int (-1 : Int32))] := (H.iconst (z := (-1 : Int32)) d6_57 r38 rfl)
          exact ⟨_, _, H.retI rfl (Nat.le_refl _) (Nat.le_refl _) d6_58 r40, by rw [own_hex, if_pos h1, if_pos m1, if_neg k2, if_pos l2], rfl⟩
        · have r39 : W h0 0 0 49 #[.val (.int z)] [] := (H.icmpNo d6_46 r37 (flt l2).2.2.1)
          have r41 : W h0 0 0 56 #[.val (.int z)] [(.int ((z - (65 : Int32)) + (10 : Int32)))] := (H.iadd d6_55 (H.bipush (z := (10 : Int32)) d6_53 (H.isub d6_52 (H.bipush (z := (65 : Int32)) d6_50 (H.iloadN d6_49 r39 rfl) rfl)) rfl))
          exact ⟨_, _, H.retI rfl (Nat.le_refl _) (Nat.le_refl _) d6_56 r41, by rw [own_hex, if_pos h1, if_pos m1, if_neg k2, if_neg l2], rfl⟩
    · have r32 : W h0 0 0 23 #[.val (.int z)] [] := (H.icmpNo d6_20 r30 (flt m1).1)
      have r42 : W h0 0 0 26 #[.val (.int z)] [(.int (102 : Int32)), (.int z)] := (H.bipush (z := (102 : Int32)) d6_24 (H.iloadN d6_23 r32 rfl) rfl)
      by_cases n1 : (102 : Int32) < z
      · have r43 : W h0 0 0 37 #[.val (.int z)] [] := (H.icmpYes (pc' := 37) d6_26 r42 (by decide) (by decide) (tlt n1).2.2.1)
        have r45 : W h0 0 0 40 #[.val (.int z)] [(.int (65 : Int32)), (.int z)] := (H.bipush (z := (65 : Int32)) d6_38 (H.iloadN d6_37 r43 rfl) rfl)
        by_cases k3 : z < (65 : Int32)
        · have r46 : W h0 0 0 57 #[.val (.int z)] [] := (H.icmpYes (pc' := 57) d6_40 r45 (by decide) (by decide) (tlt k3).1)
          have r48 : W h0 0 0 58 #[.val (.int z)] [(.int (-1 : Int32))] := (H.iconst (z := (-1 : Int32)) d6_57 r46 rfl)
          exact ⟨_, _, H.retI rfl (Nat.le_refl _) (Nat.le_refl _) d6_58 r48, by rw [own_hex, if_pos h1, if_neg m1, if_pos n1, if_pos k3], rfl⟩
        · have r47 : W h0 0 0 43 #[.val (.int z)] [] := (H.icmpNo d6_40 r45 (flt k3).1)
          have r49 : W h0 0 0 46 #[.val (.int z)] [(.int (70 : Int32)), (.int z)] := (H.bipush (z := (70 : Int32)) d6_44 (H.iloadN d6_43 r47 rfl) rfl)
          by_cases l3 : (70 : Int32) < z
          · have r50 : W h0 0 0 57 #[.val (.int z)] [] := (H.icmpYes (pc' := 57) d6_46 r49 (by decide) (by decide) (tlt l3).2.2.1)
            have r52 : W h0 0 0 58 #[.val (.int z)] [(.int (-1 : Int32))] := (H.iconst (z := (-1 : Int32)) d6_57 r50 rfl)
            exact ⟨_, _, H.retI rfl (Nat.le_refl _) (Nat.le_refl _) d6_58 r52, by rw [own_hex, if_pos h1, if_neg m1, if_pos n1, if_neg k3, if_pos l3], rfl⟩
          · have r51 : W h0 0 0 49 #[.val (.int z)] [] := (H.icmpNo d6_46 r49 (flt l3).2.2.1)
            have r53 : W h0 0 0 56 #[.val (.int z)] [(.int ((z - (65 : Int32)) + (10 : Int32)))] := (H.iadd d6_55 (H.bipush (z := (10 : Int32)) d6_53 (H.isub d6_52 (H.bipush (z := (65 : Int32)) d6_50 (H.iloadN d6_49 r51 rfl) rfl)) rfl))
            exact ⟨_, _, H.retI rfl (Nat.le_refl _) (Nat.le_refl _) d6_56 r53, by rw [own_hex, if_pos h1, if_neg m1, if_pos n1, if_neg k3, if_neg l3], rfl⟩
      · have r44 : W h0 0 0 29 #[.val (.int z)] [] := (H.icmpNo d6_26 r42 (flt n1).2.2.1)
        have r54 : W h0 0 0 36 #[.val (.int z)] [(.int ((z - (97 : Int32)) + (10 : Int32)))] := (H.iadd d6_35 (H.bipush (z := (10 : Int32)) d6_33 (H.isub d6_32 (H.bipush (z := (97 : Int32)) d6_30 (H.iloadN d6_29 r44 rfl) rfl)) rfl))
        exact ⟨_, _, H.retI rfl (Nat.le_refl _) (Nat.le_refl _) d6_36 r54, by rw [own_hex, if_pos h1, if_neg m1, if_neg n1], rfl⟩
  · have r29 : W h0 0 0 6 #[.val (.int z)] [] := (H.icmpNo d6_3 r27 (flt h1).1)
    have r55 : W h0 0 0 9 #[.val (.int z)] [(.int (57 : Int32)), (.int z)] := (H.bipush (z := (57 : Int32)) d6_7 (H.iloadN d6_6 r29 rfl) rfl)
    by_cases h2 : (57 : Int32) < z
    · have r56 : W h0 0 0 17 #[.val (.int z)] [] := (H.icmpYes (pc' := 17) d6_9 r55 (by decide) (by decide) (tlt h2).2.2.1)
      have r58 : W h0 0 0 20 #[.val (.int z)] [(.int (97 : Int32)), (.int z)] := (H.bipush (z := (97 : Int32)) d6_18 (H.iloadN d6_17 r56 rfl) rfl)
      by_cases m4 : z < (97 : Int32)
      · have r59 : W h0 0 0 37 #[.val (.int z)] [] := (H.icmpYes (pc' := 37) d6_20 r58 (by decide) (by decide) (tlt m4).1)
        have r61 : W h0 0 0 40 #[.val (.int z)] [(.int (65 : Int32)), (.int z)] := (H.bipush (z := (65 : Int32)) d6_38 (H.iloadN d6_37 r59 rfl) rfl)
        by_cases k5 : z < (65 : Int32)
        · have r62 : W h0 0 0 57 #[.val (.int z)] [] := (H.icmpYes (pc' := 57) d6_40 r61 (by decide) (by decide) (tlt k5).1)
          have r64 : W h0 0 0 58 #[.val (.int z)] [(.int (-1 : Int32))] := (H.iconst (z := (-1 : Int32)) d6_57 r62 rfl)
          exact ⟨_, _, H.retI rfl (Nat.le_refl _) (Nat.le_refl _) d6_58 r64, by rw [own_hex, if_neg h1, if_pos h2, if_pos m4, if_pos k5], rfl⟩
        · have r63 : W h0 0 0 43 #[.val (.int z)] [] := (H.icmpNo d6_40 r61 (flt k5).1)
          have r65 : W h0 0 0 46 #[.val (.int z)] [(.int (70 : Int32)), (.int z)] := (H.bipush (z := (70 : Int32)) d6_44 (H.iloadN d6_43 r63 rfl) rfl)
          by_cases l5 : (70 : Int32) < z
          · have r66 : W h0 0 0 57 #[.val (.int z)] [] := (H.icmpYes (pc' := 57) d6_46 r65 (by decide) (by decide) (tlt l5).2.2.1)
            have r68 : W h0 0 0 58 #[.val (.int z)] [(.int (-1 : Int32))] := (H.iconst (z := (-1 : Int32)) d6_57 r66 rfl)
            exact ⟨_, _, H.retI rfl (Nat.le_refl _) (Nat.le_refl _) d6_58 r68, by rw [own_hex, if_neg h1, if_pos h2, if_pos m4, if_neg k5, if_pos l5], rfl⟩
          · have r67 : W h0 0 0 49 #[.val (.int z)] [] := (H.icmpNo d6_46 r65 (flt l5).2.2.1)
            have r69 : W h0 0 0 56 #[.val (.int z)] [(.int ((z - (65 : Int32)) + (10 : Int32)))] := (H.iadd d6_55 (H.bipush (z := (10 : Int32)) d6_53 (H.isub d6_52 (H.bipush (z := (65 : Int32)) d6_50 (H.iloadN d6_49 r67 rfl) rfl)) rfl))
            exact ⟨_, _, H.retI rfl (Nat.le_refl _) (Nat.le_refl _) d6_56 r69, by rw [own_hex, if_neg h1, if_pos h2, if_pos m4, if_neg k5, if_neg l5], rfl⟩
      · have r60 : W h0 0 0 23 #[.val (.int z)] [] := (H.icmpNo d6_20 r58 (flt m4).1)
        have r70 : W h0 0 0 26 #[.val (.int z)] [(.int (102 : Int32)), (.int z)] := (H.bipush (z := (102 : Int32)) d6_24 (H.iloadN d6_23 r60 rfl) rfl)
        by_cases n4 : (102 : Int32) < z
        · have r71 : W h0 0 0 37 #[.val (.int z)] [] := (H.icmpYes (pc' := 37) d6_26 r70 (by decide) (by decide) (tlt n4).2.2.1)
          have r73 : W h0 0 0 40 #[.val (.int z)] [(.int (65 : Int32)), (.int z)] := (H.bipush (z := (65 : Int32)) d6_38 (H.iloadN d6_37 r71 rfl) rfl)
          by_cases k6 : z < (65 : Int32)
          · have r74 : W h0 0 0 57 #[.val (.int z)] [] := (H.icmpYes (pc' := 57) d6_40 r73 (by decide) (by decide) (tlt k6).1)
            have r76 : W h0 0 0 58 #[.val (.int z)] [(.int (-1 : Int32))] := (H.iconst (z := (-1 : Int32)) d6_57 r74 rfl)
            exact ⟨_, _, H.retI rfl (Nat.le_refl _) (Nat.le_refl _) d6_58 r76, by rw [own_hex, if_neg h1, if_pos h2, if_neg m4, if_pos n4, if_pos k6], rfl⟩
          · have r75 : W h0 0 0 43 #[.val (.int z)] [] := (H.icmpNo d6_40 r73 (flt k6).1)
            have r77 : W h0 0 0 46 #[.val (.int z)] [(.int (70 : Int32)), (.int z)] := (H.bipush (z := (70 : Int32)) d6_44 (H.iloadN d6_43 r75 rfl) rfl)
            by_cases l6 : (70 : Int32) < z
            · have r78 : W h0 0 0 57 #[.val (.int z)] [] := (H.icmpYes (pc' := 57) d6_46 r77 (by decide) (by decide) (tlt l6).2.2.1)
              have r80 : W h0 0 0 58 #[.val (.int z)] [(.int (-1 : Int32))] := (H.iconst (z := (-1 : Int32)) d6_57 r78 rfl)
              exact ⟨_, _, H.retI rfl (Nat.le_refl _) (Nat.le_refl _) d6_58 r80, by rw [own_hex, if_neg h1, if_pos h2, if_neg m4, if_pos n4, if_neg k6, if_pos l6], rfl⟩
            · have r79 : W h0 0 0 49 #[.val (.int z)] [] := (H.icmpNo d6_46 r77 (flt l6).2.2.1)
              have r81 : W h0 0 0 56 #[.val (.int z)] [(.int ((z - (65 : Int32)) + (10 : Int32)))] := (H.iadd d6_55 (H.bipush (z := (10 : Int32)) d6_53 (H.isub d6_52 (H.bipush (z := (65 : Int32)) d6_50 (H.iloadN d6_49 r79 rfl) rfl)) rfl))
              exact ⟨_, _, H.retI rfl (Nat.le_refl _) (Nat.le_refl _) d6_56 r81, by rw [own_hex, if_neg h1, if_pos h2, if_neg m4, if_pos n4, if_neg k6, if_neg l6], rfl⟩
        · have r72 : W h0 0 0 29 #[.val (.int z)] [] := (H.icmpNo d6_26 r70 (flt n4).2.2.1)
          have r82 : W h0 0 0 36 #[.val (.int z)] [(.int ((z - (97 : Int32)) + (10 : Int32)))] := (H.iadd d6_35 (H.bipush (z := (10 : Int32)) d6_33 (H.isub d6_32 (H.bipush (z := (97 : Int32)) d6_30 (H.iloadN d6_29 r72 rfl) rfl)) rfl))
          exact ⟨_, _, H.retI rfl (Nat.le_refl _) (Nat.le_refl _) d6_36 r82, by rw [own_hex, if_neg h1, if_pos h2, if_neg m4, if_neg n4], rfl⟩
    · have r57 : W h0 0 0 12 #[.val (.int z)] [] := (H.icmpNo d6_9 r55 (flt h2).2.2.1)
      have r83 : W h0 0 0 16 #[.val (.int z)] [(.int (z - (48 : Int32)))] := (H.isub d6_15 (H.bipush (z := (48 : Int32)) d6_13 (H.iloadN d6_12 r57 rfl) rfl))
      exact ⟨_, _, H.retI rfl (Nat.le_refl _) (Nat.le_refl _) d6_16 r83, by rw [own_hex, if_neg h1, if_neg h2], rfl⟩
set_option maxRecDepth 65536 in
set_option maxHeartbeats 40000000 in
theorem law_ct {l : Launch} {Z : State} {a0 : Array Value} (hw : ∀ d ∈ tables_1, d.before a0 Z = true) (x y : Int32) (cs : Int32) (hcs : ¬ cs = 0) (S1 : Sta Z Z.heap "java/lang/String" "COMPACT_STRINGS" "Z" (.int cs)) (fm : Value) (hfm : fm.isRef = true) (S2 : Sta Z Z.heap "jdk/internal/util/Preconditions" "SIOOBE_FORMATTER" "Ljava/util/function/BiFunction;" fm) (wS : ∀ a ∈ Bundle.stringAtoms, a.before a0 Z = true) (hh1 : Jvm.Lit.constHeld Z "com/example/resolvent/resolvent/LexerHexValuePinLaw" 7) (hh2 : Jvm.Lit.constHeld Z "com/example/resolvent/resolvent/LexerHexValuePinLaw" 9) (hcw : Jvm.Lit.compactW.before a0 Z = true) :
    CtW l Z Jvm.Pilot.@@N@@.x code maxLocals ret room_1 #[(.int x), (.int y)] (fun v h' => v = some (.int 1)) := by
  refine CtW.of (plainFor_of_name pn_4) (fun m => ef_0 x y m) ?_
  intro W V H r0
  obtain ⟨hp1, sa, ba, E1, X1, C1, V1, A1, r1l⟩ := H.ldcS (q := 64) (vs := own_vlo) (z := (16 : Int32)) (hw _ (List.mem_of_getElem? (i := 0) rfl)) wS (by show ¬ ("0123456789abcdef" ∈ ([] : List String)); decide) hh1 hcw ⟨by decide +kernel, by decide +kernel⟩ (by decide) (by first | rfl | decide | decide +kernel) (by decide +kernel) (by decide) (by decide) (by decide) at_0 r0
  replace r1l : W (["0123456789abcdef"], some (7, sa)) hp1 2 68 2 #[.val (.int x), .val (.int y), .unset, .unset, .unset, .unset, .unset] [(.ref sa)] := r1l
  have r84 : W (["0123456789abcdef"], some (7, sa)) hp1 2 68 3 #[.val (.int x), .val (.int y), .val (.ref sa), .unset, .unset, .unset, .unset] [] := (H.astoreN at_2 r1l rfl rfl)
  obtain ⟨hp2, sb, bb, E2, X2, C2, V2, A2, r2l⟩ := H.ldcS (q := 64) (vs := own_vup) (z := (16 : Int32)) (hw _ (List.mem_of_getElem? (i := 8) rfl)) wS (by show ¬ ("0123456789ABCDEF" ∈ (["0123456789abcdef"] : List String)); decide) hh2 hcw ⟨by decide +kernel, by decide +kernel⟩ (by decide) (by first | rfl | decide | decide +kernel) (by decide +kernel) (by decide) (by decide) (by decide) at_3 r84
  replace r2l : W (["0123456789ABCDEF", "0123456789abcdef"], some (9, sb)) hp2 4 136 5 #[.val (.int x), .val (.int y), .val (.ref sa), .unset, .unset, .unset, .unset] [(.ref sb)] := r2l
  have r85 : W (["0123456789ABCDEF", "0123456789abcdef"], some (9, sb)) hp2 4 136 6 #[.val (.int x), .val (.int y), .val (.ref sa), .val (.ref sb), .unset, .unset, .unset] [] := (H.astoreN at_5 r2l rfl rfl)
  have O2 : Ext Z.heap hp2 := ⟨Nat.le_trans E1.1 E2.1, fun a c q => E2.2 a c (E1.2 a c q)⟩
  have r86 : W (["0123456789ABCDEF", "0123456789abcdef"], some (9, sb)) hp2 4 136 12 #[.val (.int x), .val (.int y), .val (.ref sa), .val (.ref sb), .val (.int (y &&& (15 : Int32))), .unset, .unset] [] := (H.istore at_10 (H.iand at_9 (H.bipush (z := (15 : Int32)) at_7 (H.iloadN at_6 r85 rfl) rfl)) rfl)
  obtain ⟨i, hi, ei⟩ := own_m15 y
  rw [ei] at r86
  have r87 : W (["0123456789ABCDEF", "0123456789abcdef"], some (9, sb)) hp2 4 136 15 #[.val (.int x), .val (.int y), .val (.ref sa), .val (.ref sb), .val (.int (Int32.ofNat i)), .unset, .unset] [(.int (Int32.ofNat i)), (.ref sa)] := (H.iload at_13 (H.aloadN at_12 r86 rfl rfl) rfl)
  have F88 := Exa.ext E2 X1
  have F89 := Fld.ext E2 C1
  have F90 := Fld.ext E2 V1
  have F91 := A1.ext E2
  have r92 : W (["0123456789ABCDEF", "0123456789abcdef"], some (9, sb)) hp2 4 136 18 #[.val (.int x), .val (.int y), .val (.ref sa), .val (.ref sb), .val (.int (Int32.ofNat i)), .unset, .unset] [(.int (own_ch own_lo i))] := H.callVP (w := 0) (argsL := [(.int (Int32.ofNat i))]) (rest := []) (hw _ (List.mem_of_getElem? (i := 9) rfl)) (hw _ (List.mem_of_getElem? (i := 10) rfl)) (Or.inl ⟨_, _, (hw _ (List.mem_of_getElem? (i := 12) rfl)), rfl⟩) (hw _ (List.mem_of_getElem? (i := 12) rfl)) (hw _ (List.mem_of_getElem? (i := 11) rfl)) (hw _ (List.mem_of_getElem? (i := 1) rfl)) (hw _ (List.mem_of_getElem? (i := 13) rfl)) (by decide) pd_4 (by decide) (by decide) (by decide) (by decide) F88 (ca_ct hw sa ba i _ _ (by decide) (own_lo_at i hi).1 (own_lo_at i hi).2.1 cs hcs S1 fm hfm S2 hp2 Z.heap.size O2 F88 F89 F90 F91) rfl rfl (Nat.le_of_eq rfl) rfl at_15 r87
  have r93 : W (["0123456789ABCDEF", "0123456789abcdef"], some (9, sb)) hp2 4 136 21 #[.val (.int x), .val (.int y), .val (.ref sa), .val (.ref sb), .val (.int (Int32.ofNat i)), .unset, .unset] [(.int (own_hex (own_ch own_lo i)))] := H.callSP (w := 0) (argsL := [(.int (own_ch own_lo i))]) (rest := []) (hw _ (List.mem_of_getElem? (i := 34) rfl)) (hw _ (List.mem_of_getElem? (i := 35) rfl)) (hw _ (List.mem_of_getElem? (i := 36) rfl)) (hw _ (List.mem_of_getElem? (i := 37) rfl)) (by decide) pd_5 (by decide) (by decide) (by decide) (by decide) (hex_ct hw (own_ch own_lo i) hp2 Z.heap.size) rfl rfl (Nat.le_of_eq rfl) rfl at_18 r92
  have r94 : W (["0123456789ABCDEF", "0123456789abcdef"], some (9, sb)) hp2 4 136 28 #[.val (.int x), .val (.int y), .val (.ref sa), .val (.ref sb), .val (.int (Int32.ofNat i)), .unset, .unset] [] := (H.icmpYes (pc' := 28) at_23 (H.iload at_21 r93 rfl) (by decide) (by decide) (teq (own_lo_at i hi).2.2).1)
  have r95 : W (["0123456789ABCDEF", "0123456789abcdef"], some (9, sb)) hp2 4 136 31 #[.val (.int x), .val (.int y), .val (.ref sa), .val (.ref sb), .val (.int (Int32.ofNat i)), .unset, .unset] [(.int (Int32.ofNat i)), (.ref sb)] := (H.iload at_29 (H.aloadN at_28 r94 rfl rfl) rfl)
  have r96 : W (["0123456789ABCDEF", "0123456789abcdef"], some (9, sb)) hp2 4 136 34 #[.val (.int x), .val (.int y), .val (.ref sa), .val (.ref sb), .val (.int (Int32.ofNat i)), .unset, .unset] [(.int (own_ch own_up i))] := H.callVP (w := 0) (argsL := [(.int (Int32.ofNat i))]) (rest := []) (hw _ (List.mem_of_getElem? (i := 9) rfl)) (hw _ (List.mem_of_getElem? (i := 10) rfl)) (Or.inl ⟨_, _, (hw _ (List.mem_of_getElem? (i := 12) rfl)), rfl⟩) (hw _ (List.mem_of_getElem? (i := 12) rfl)) (hw _ (List.mem_of_getElem? (i := 11) rfl)) (hw _ (List.mem_of_getElem? (i := 1) rfl)) (hw _ (List.mem_of_getElem? (i := 13) rfl)) (by decide) pd_4 (by decide) (by decide) (by decide) (by decide) X2 (ca_ct hw sb bb i _ _ (by decide) (own_up_at i hi).1 (own_up_at i hi).2.1 cs hcs S1 fm hfm S2 hp2 Z.heap.size O2 X2 C2 V2 A2) rfl rfl (Nat.le_of_eq rfl) rfl at_31 r95
  have r97 : W (["0123456789ABCDEF", "0123456789abcdef"], some (9, sb)) hp2 4 136 37 #[.val (.int x), .val (.int y), .val (.ref sa), .val (.ref sb), .val (.int (Int32.ofNat i)), .unset, .unset] [(.int (own_hex (own_ch own_up i)))] := H.callSP (w := 0) (argsL := [(.int (own_ch own_up i))]) (rest := []) (hw _ (List.mem_of_getElem? (i := 34) rfl)) (hw _ (List.mem_of_getElem? (i := 35) rfl)) (hw _ (List.mem_of_getElem? (i := 36) rfl)) (hw _ (List.mem_of_getElem? (i := 37) rfl)) (by decide) pd_5 (by decide) (by decide) (by decide) (by decide) (hex_ct hw (own_ch own_up i) hp2 Z.heap.size) rfl rfl (Nat.le_of_eq rfl) rfl at_34 r96
  have r98 : W (["0123456789ABCDEF", "0123456789abcdef"], some (9, sb)) hp2 4 136 44 #[.val (.int x), .val (.int y), .val (.ref sa), .val (.ref sb), .val (.int (Int32.ofNat i)), .unset, .unset] [] := (H.icmpYes (pc' := 44) at_39 (H.iload at_37 r97 rfl) (by decide) (by decide) (teq (own_up_at i hi).2.2).1)
  have r99 : W (["0123456789ABCDEF", "0123456789abcdef"], some (9, sb)) hp2 4 136 51 #[.val (.int x), .val (.int y), .val (.ref sa), .val (.ref sb), .val (.int (Int32.ofNat i)), .val (.int ((x &&& (65535 : Int32)).toUInt32.toUInt16.toUInt32.toInt32)), .unset] [] := (H.istore at_49 (H.i2c at_48 (H.iand at_47 (H.ldcInt at_45 (H.iloadN at_44 r98 rfl) (hw _ (List.mem_of_getElem? (i := 38) rfl))))) rfl)
  generalize ((x &&& (65535 : Int32)).toUInt32.toUInt16.toUInt32.toInt32) = z at r99
  have r100 : W (["0123456789ABCDEF", "0123456789abcdef"], some (9, sb)) hp2 4 136 53 #[.val (.int x), .val (.int y), .val (.ref sa), .val (.ref sb), .val (.int (Int32.ofNat i)), .val (.int z), .unset] [(.int z)] := (H.iload at_51 r99 rfl)
  have r101 : W (["0123456789ABCDEF", "0123456789abcdef"], some (9, sb)) hp2 4 136 56 #[.val (.int x), .val (.int y), .val (.ref sa), .val (.ref sb), .val (.int (Int32.ofNat i)), .val (.int z), .unset] [(.int (own_hex z))] := H.callSP (w := 0) (argsL := [(.int z)]) (rest := []) (hw _ (List.mem_of_getElem? (i := 34) rfl)) (hw _ (List.mem_of_getElem? (i := 35) rfl)) (hw _ (List.mem_of_getElem? (i := 36) rfl)) (hw _ (List.mem_of_getElem? (i := 37) rfl)) (by decide) pd_5 (by decide) (by decide) (by decide) (by decide) (hex_ct hw z hp2 Z.heap.size) rfl rfl (Nat.le_of_eq rfl) rfl at_53 r100
  have r102 : W (["0123456789ABCDEF", "0123456789abcdef"], some (9, sb)) hp2 4 136 58 #[.val (.int x), .val (.int y), .val (.ref sa), .val (.ref sb), .val (.int (Int32.ofNat i)), .val (.int z), .val (.int (own_hex z))] [] := (H.istore at_56 r101 rfl)
  have r103 : W (["0123456789ABCDEF", "0123456789abcdef"], some (9, sb)) hp2 4 136 61 #[.val (.int x), .val (.int y), .val (.ref sa), .val (.ref sb), .val (.int (Int32.ofNat i)), .val (.int z), .val (.int (own_hex z))] [(.int (-1 : Int32)), (.int (own_hex z))] := (H.iconst (z := (-1 : Int32)) at_60 (H.iload at_58 r102 rfl) rfl)
  by_cases h1 : (own_hex z) = (-1 : Int32)
  · have r104 : W (["0123456789ABCDEF", "0123456789abcdef"], some (9, sb)) hp2 4 136 64 #[.val (.int x), .val (.int y), .val (.ref sa), .val (.ref sb), .val (.int (Int32.ofNat i)), .val (.int z), .val (.int (own_hex z))] [] := (H.icmpNo at_61 r103 (teq h1).2)
    have r106 : W (["0123456789ABCDEF", "0123456789abcdef"], some (9, sb)) hp2 4 136 65 #[.val (.int x), .val (.int y), .val (.ref sa), .val (.ref sb), .val (.int (Int32.ofNat i)), .val (.int z), .val (.int (own_hex z))] [(.int (1 : Int32))] := (H.iconst (z := (1 : Int32)) at_64 r104 rfl)
    exact ⟨_, _, H.retZ rfl rfl (by decide) (by decide) at_65 r106, rfl⟩
  · have r105 : W (["0123456789ABCDEF", "0123456789abcdef"], some (9, sb)) hp2 4 136 66 #[.val (.int x), .val (.int y), .val (.ref sa), .val (.ref sb), .val (.int (Int32.ofNat i)), .val (.int z), .val (.int (own_hex z))] [] := (H.icmpYes (pc' := 66) at_61 r103 (by decide) (by decide) (feq h1).2)
    obtain ⟨j, hj, ej, hz⟩ := (own_back z).resolve_left h1
    rw [ej] at r105
    have r107 : W (["0123456789ABCDEF", "0123456789abcdef"], some (9, sb)) hp2 4 136 71 #[.val (.int x), .val (.int y), .val (.ref sa), .val (.ref sb), .val (.int (Int32.ofNat i)), .val (.int z), .val (.int (Int32.ofNat j))] [] := (H.ifNo at_68 (H.iload at_66 r105 rfl) (flt (own_nn (by omega))).1)
    have r108 : W (["0123456789ABCDEF", "0123456789abcdef"], some (9, sb)) hp2 4 136 80 #[.val (.int x), .val (.int y), .val (.ref sa), .val (.ref sb), .val (.int (Int32.ofNat i)), .val (.int z), .val (.int (Int32.ofNat j))] [] := (H.icmpYes (pc' := 80) at_75 (H.bipush (z := (15 : Int32)) at_73 (H.iload at_71 r107 rfl) rfl) (by decide) (by decide) (flt (fun q => absurd ((own_ltN (i := 15) (by omega) (by omega)).mp q) (by omega))).2.2.2)
    have r109 : W (["0123456789ABCDEF", "0123456789abcdef"], some (9, sb)) hp2 4 136 85 #[.val (.int x), .val (.int y), .val (.ref sa), .val (.ref sb), .val (.int (Int32.ofNat i)), .val (.int z), .val (.int (Int32.ofNat j))] [(.int (Int32.ofNat j)), (.ref sa), (.int z)] := (H.iload at_83 (H.aloadN at_82 (H.iload at_80 r108 rfl) rfl rfl) rfl)
    have r110 : W (["0123456789ABCDEF", "0123456789abcdef"], some (9, sb)) hp2 4 136 88 #[.val (.int x), .val (.int y), .val (.ref sa), .val (.ref sb), .val (.int (Int32.ofNat i)), .val (.int z), .val (.int (Int32.ofNat j))] [(.int (own_ch own_lo j)), (.int z)] := H.callVP (w := 1) (argsL := [(.int (Int32.ofNat j))]) (rest := [(.int z)]) (hw _ (List.mem_of_getElem? (i := 9) rfl)) (hw _ (List.mem_of_getElem? (i := 10) rfl)) (Or.inl ⟨_, _, (hw _ (List.mem_of_getElem? (i := 12) rfl)), rfl⟩) (hw _ (List.mem_of_getElem? (i := 12) rfl)) (hw _ (List.mem_of_getElem? (i := 11) rfl)) (hw _ (List.mem_of_getElem? (i := 1) rfl)) (hw _ (List.mem_of_getElem? (i := 13) rfl)) (by decide) pd_4 (by decide) (by decide) (by decide) (by decide) F88 (ca_ct hw sa ba j _ _ (by decide) (own_lo_at j hj).1 (own_lo_at j hj).2.1 cs hcs S1 fm hfm S2 hp2 Z.heap.size O2 F88 F89 F90 F91) rfl rfl (Nat.le_of_eq rfl) rfl at_85 r109
    by_cases h2 : z = (own_ch own_lo j)
    · have r111 : W (["0123456789ABCDEF", "0123456789abcdef"], some (9, sb)) hp2 4 136 102 #[.val (.int x), .val (.int y), .val (.ref sa), .val (.ref sb), .val (.int (Int32.ofNat i)), .val (.int z), .val (.int (Int32.ofNat j))] [] := (H.icmpYes (pc' := 102) at_88 r110 (by decide) (by decide) (teq h2).1)
      have r113 : W (["0123456789ABCDEF", "0123456789abcdef"], some (9, sb)) hp2 4 136 107 #[.val (.int x), .val (.int y), .val (.ref sa), .val (.ref sb), .val (.int (Int32.ofNat i)), .val (.int z), .val (.int (Int32.ofNat j))] [(.int (1 : Int32))] := (H.goto (pc' := 107) at_103 (H.iconst (z := (1 : Int32)) at_102 r111 rfl) (by decide) (by decide))
      exact ⟨_, _, H.retZ rfl rfl (by decide) (by decide) at_107 r113, rfl⟩
    · have r112 : W (["0123456789ABCDEF", "0123456789abcdef"], some (9, sb)) hp2 4 136 91 #[.val (.int x), .val (.int y), .val (.ref sa), .val (.ref sb), .val (.int (Int32.ofNat i)), .val (.int z), .val (.int (Int32.ofNat j))] [] := (H.icmpNo at_88 r110 (feq h2).1)
      have r114 : W (["0123456789ABCDEF", "0123456789abcdef"], some (9, sb)) hp2 4 136 96 #[.val (.int x), .val (.int y), .val (.ref sa), .val (.ref sb), .val (.int (Int32.ofNat i)), .val (.int z), .val (.int (Int32.ofNat j))] [(.int (Int32.ofNat j)), (.ref sb), (.int z)] := (H.iload at_94 (H.aloadN at_93 (H.iload at_91 r112 rfl) rfl rfl) rfl)
      have r115 : W (["0123456789ABCDEF", "0123456789abcdef"], some (9, sb)) hp2 4 136 99 #[.val (.int x), .val (.int y), .val (.ref sa), .val (.ref sb), .val (.int (Int32.ofNat i)), .val (.int z), .val (.int (Int32.ofNat j))] [(.int (own_ch own_up j)), (.int z)] := H.callVP (w := 1) (argsL := [(.int (Int32.ofNat j))]) (rest := [(.int z)]) (hw _ (List.mem_of_getElem? (i := 9) rfl)) (hw _ (List.mem_of_getElem? (i := 10) rfl)) (Or.inl ⟨_, _, (hw _ (List.mem_of_getElem? (i := 12) rfl)), rfl⟩) (hw _ (List.mem_of_getElem? (i := 12) rfl)) (hw _ (List.mem_of_getElem? (i := 11) rfl)) (hw _ (List.mem_of_getElem? (i := 1) rfl)) (hw _ (List.mem_of_getElem? (i := 13) rfl)) (by decide) pd_4 (by decide) (by decide) (by decide) (by decide) X2 (ca_ct hw sb bb j _ _ (by decide) (own_up_at j hj).1 (own_up_at j hj).2.1 cs hcs S1 fm hfm S2 hp2 Z.heap.size O2 X2 C2 V2 A2) rfl rfl (Nat.le_of_eq rfl) rfl at_96 r114
      have r116 : W (["0123456789ABCDEF", "0123456789abcdef"], some (9, sb)) hp2 4 136 102 #[.val (.int x), .val (.int y), .val (.ref sa), .val (.ref sb), .val (.int (Int32.ofNat i)), .val (.int z), .val (.int (Int32.ofNat j))] [] := (H.icmpNo at_99 r115 (teq (hz.resolve_left h2)).2)
      have r117 : W (["0123456789ABCDEF", "0123456789abcdef"], some (9, sb)) hp2 4 136 107 #[.val (.int x), .val (.int y), .val (.ref sa), .val (.ref sb), .val (.int (Int32.ofNat i)), .val (.int z), .val (.int (Int32.ofNat j))] [(.int (1 : Int32))] := (H.goto (pc' := 107) at_103 (H.iconst (z := (1 : Int32)) at_102 r116 rfl) (by decide) (by decide))
      exact ⟨_, _, H.retZ rfl rfl (by decide) (by decide) at_107 r117, rfl⟩
set_option maxRecDepth 65536 in
set_option maxHeartbeats 40000000 in
theorem comes_1 {Post : Tables → Env → Array Value → State → Outcome → State → Prop} (hpost : ∀ tb e args s v u, (limb_1_1.after args s (.returned v) u = true ∧ limb_1_2.after args s (.returned v) u = true ∧ True) → FramedW s (.returned v) u (Jvm.fieldLocs frame_1_writes args s ++ Jvm.arrayLocs frame_1_arrays args s ++ Jvm.staticLocs frame_1_statics s) 8 2112 → Post tb e args s (.returned v) u) :
    ArmFor flags0 classFile x code maxLocals ret World_1 tables_1 room_1 Calls_1 rest_1 Pre_1 Post := by
  intro l hfl _ _ p e ha hc hk s m args below hf hA hF happ hP
  obtain ⟨hcalls, hrest, hpre⟩ := hP
  obtain ⟨-, -, -, hnamed, -, -, -, hat⟩ := (Spec.applies_iff hf).mp happ
  obtain ⟨hg, hn⟩ := and_e (Cond.before_iff.mp (show (Jvm.Cond.and given_1 narrow_1).before args s = true from hpre))
  obtain ⟨hcnt, hg0⟩ := and_e hg
  obtain ⟨ha0, hg1⟩ := and_e hg0
  obtain ⟨w0, w1, rfl⟩ : ∃ w0 w1 : Value, args = #[w0, w1] := by
    have hs : args.size = 2 := by simpa [Cond.value, given_1] using hcnt
    obtain ⟨L⟩ := args
    match L, hs with
    | [w0, w1], _ => exact ⟨w0, w1, rfl⟩
  have hw := fun d (hd : d ∈ tables_1) => atoms_spec (ws := Jvm.Cond.code x code maxLocals ret :: tables_1) hat d (List.mem_cons_of_mem _ hd)
  have hfit : Fit s := fun {y c} hc i hi => by
    obtain ⟨ha, rfl⟩ := Array.getElem?_eq_some_iff.mp hc
    have q := List.all_eq_true.mp ((Array.all_eq_true_iff_forall_mem.mp hF) _ (Array.getElem_mem ha)) i (List.mem_range.mpr hi)
    simpa [Array.getElem?_eq_getElem hi] using q
  obtain ⟨i0, ei0⟩ := is_v ha0
  obtain rfl : w0 = (.int i0) := Option.some.inj ei0
  obtain ⟨i1, ei1⟩ := is_v hg1
  obtain rfl : w1 = (.int i1) := Option.some.inj ei1
  obtain ⟨hsets, hown0⟩ := atoms_of _ (rest_1_c_eq ▸ (show rest_1_c.before _ s = true from hrest))
  have hr0 := Cond.before_iff.mp hown0
  have n5 := not_v (Cond.before_iff.mp (hsets _ (List.mem_of_getElem? (i := 2) rfl)))
  obtain ⟨cs, ecs⟩ := is_v (Cond.before_iff.mp (hsets _ (List.mem_of_getElem? (i := 1) rfl)))
  have S1 : Sta s s.heap "java/lang/String" "COMPACT_STRINGS" "Z" (.int cs) := Sta.start ecs (Or.inl (hsets _ (List.mem_of_getElem? (i := 0) rfl)))
  obtain ⟨fm, efm, hfm⟩ := isR_v (Cond.before_iff.mp (hsets _ (List.mem_of_getElem? (i := 8) rfl)))
  have S2 : Sta s s.heap "jdk/internal/util/Preconditions" "SIOOBE_FORMATTER" "Ljava/util/function/BiFunction;" fm := Sta.start efm (Or.inl (hsets _ (List.mem_of_getElem? (i := 7) rfl)))
  have hcs : ¬ (cs = (0 : Int32)) := gotF (Cond.eq_ints ecs (Term.int_eval (0))) n5
  have wS : ∀ a ∈ Bundle.stringAtoms, a.before #[.int i0, .int i1] s = true := by
    intro a ha
    simp only [Bundle.stringAtoms, List.mem_cons, List.not_mem_nil, or_false] at ha
    rcases ha with rfl | rfl | rfl | rfl | rfl | rfl | rfl <;> first | exact (hw _ (List.mem_of_getElem? (i := 1) rfl)) | exact (hw _ (List.mem_of_getElem? (i := 2) rfl)) | exact (hw _ (List.mem_of_getElem? (i := 3) rfl)) | exact (hw _ (List.mem_of_getElem? (i := 4) rfl)) | exact (hw _ (List.mem_of_getElem? (i := 5) rfl)) | exact (hw _ (List.mem_of_getElem? (i := 6) rfl)) | exact (hw _ (List.mem_of_getElem? (i := 7) rfl))
  have hcw : Jvm.Lit.compactW.before #[.int i0, .int i1] s = true := hsets _ (List.mem_of_getElem? (i := 2) rfl)
  have hheld : ∀ p ∈ consts_1, Jvm.Lit.constHeld s p.1 p.2 := hcalls.1
  have hh1 : Jvm.Lit.constHeld s "com/example/resolvent/resolvent/LexerHexValuePinLaw" 7 := hheld ("com/example/resolvent/resolvent/LexerHexValuePinLaw", 7) (by simp [consts_1])
  have hh2 : Jvm.Lit.constHeld s "com/example/resolvent/resolvent/LexerHexValuePinLaw" 9 := hheld ("com/example/resolvent/resolvent/LexerHexValuePinLaw", 9) (by simp [consts_1])
  obtain ⟨n, o, h1, h2, h3, _, L, rfl, ⟨rfl, N⟩, hq⟩ := law_ct (l := l) hw i0 i1 cs hcs S1 fm hfm S2 wS hh1 hh2 hcw tables_1 p e ha hc hk s m _ below hf ((Spec.applies_iff_loose hf).mp happ).1 ⟨rfl, State.Warmed39.refl s, rfl, IB.start⟩ trivial
  refine ⟨n, _, h1, h2, h3, hpost _ _ _ _ _ _ ⟨Cond.after_iff.mpr rfl, Cond.after_iff.mpr (eq_i res_at (Term.int_eval (1)) rfl), trivial⟩ ⟨hq.1, hq.2.1, hq.2.2.1, (hq.2.2.2.sift fun y hy => Or.inr (N y hy)).mono (by decide) (by decide)⟩⟩
theorem main_1_1 : Claimed_1_1 := comes_1 fun _ _ _ _ _ _ h hF => ⟨h.1, hF⟩
theorem main_1_2 : Claimed_1_2 := comes_1 fun _ _ _ _ _ _ h hF => ⟨h.2.1, hF⟩
end Jvm.Pilot.@@N@@
namespace Jvm.Pilot.@@N@@
open Jvm Jvm.ClassFile Sem Op Lib Jvm.Free Jvm.Stand Jvm.Pilot.@@N@@.Jvm.D
/-! MADE BY PROGRAM (witnessworld.py) out of the Statement's table words and the real class files: 17 classes; the members and pool entries that the words name. The judged class is class 1, her method 1. -/
namespace start1
open Jvm.ClassFile
def u (s : String) : CpInfo := .utf8 (stringToUtf16 s)
/-- a pool by its gaps: so many unusable entries, then the entry; so many at the end -/
def gap : Nat → List CpInfo → List CpInfo
  | 0, r => r
  | n + 1, r => .unusable :: gap n r
def poolList (es : List (Nat × CpInfo)) (last : Nat) : List CpInfo := es.foldr (fun e r => gap e.1 (e.2 :: r)) (gap last [])
def pool (es : List (Nat × CpInfo)) (last : Nat) : Array CpInfo := ⟨poolList es last⟩
def fileOf (pool : Array CpInfo) (this : Nat) (attrs : Array Attribute := #[]) (ms : Array MethodInfo := #[]) (fl : Nat := 33) (sup : Nat := 0) (ifs : Array Nat := #[]) (fds : Array FieldInfo := #[]) : ClassFile where
  minorVersion := 0
  majorVersion := 65
  constantPool := pool
  accessFlags := fl
  thisClass := this
  superClass := sup
  interfaces := ifs
  fields := fds
  methods := ms
  attributes := attrs
def plain (name : String) (sup : Option ClassId) : Class where
  name := name
  kind := .ordinary
  loader := none
  accessFlags := 33
  super := sup
  interfaces := #[]
  cf := none
  fields := #[]
  methods := #[]
  instanceTypes := #[]
  staticTypes := #[]
  resolved := #[]
  callSites := []
  init := .initialized
  statics := none
  mirror := none

def pool0 : Array CpInfo := pool [(5, u "<init>"), (0, u "()V"), (1, .class_ 10), (1, u "java/lang/Object")] 113

def k0m0 : Method := { name := "<init>", desc := "()V", sig := { parameters := [], returnType := none }, accessFlags := 1, code := none }
/-- java/lang/Object -/
def k0 : Class := { plain "java/lang/Object" none with
  accessFlags := 33
  interfaces := #[]
  cf := some (fileOf pool0 8 #[] #[{ accessFlags := 1, nameIndex := 5, descriptorIndex := 6, attributes := #[] }] 33 0 #[] #[])
  fields := #[]
  methods := #[k0m0]
  instanceTypes := #[]
  staticTypes := #[]
  resolved := Array.replicate 124 none
  statics := none }

def pool1 : Array CpInfo := pool [(2, .class_ 4), (1, u "java/lang/Object"), (0, u "<init>"), (0, u "()V"), (0, .string 8), (0, u "0123456789abcdef"), (0, .string 10), (0, u "0123456789ABCDEF"), (0, .methodref 12 13), (0, .class_ 14), (0, .nameAndType 15 16), (0, u "java/lang/String"), (0, u "charAt"), (0, u "(I)C"), (0, .methodref 18 19), (0, .class_ 20), (0, .nameAndType 21 22), (0, u "com/example/resolvent/resolvent/Lexer"), (0, u "hexValue"), (0, u "(C)I"), (0, .integer 65535), (0, .class_ 25), (0, u "com/example/resolvent/resolvent/LexerHexValuePinLaw"), (2, u "law"), (0, u "(II)Z")] 3

def k1m0 : Method := { name := "<init>", desc := "()V", sig := { parameters := [], returnType := none }, accessFlags := 1, code := none }
def k1c1 : Code := { maxStack := 3, maxLocals := 7, code := code, exceptionTable := #[], attributes := #[] }
def k1m1 : Method := { name := "law", desc := "(II)Z", sig := { parameters := [.int, .int], returnType := some .boolean }, accessFlags := 9, code := some k1c1 }
/-- com/example/resolvent/resolvent/LexerHexValuePinLaw -/
def k1 : Class := { plain "com/example/resolvent/resolvent/LexerHexValuePinLaw" (some 0) with
  accessFlags := 49
  interfaces := #[]
  cf := some (fileOf pool1 24 #[] #[{ accessFlags := 1, nameIndex := 5, descriptorIndex := 6, attributes := #[] }, { accessFlags := 9, nameIndex := 28, descriptorIndex := 29, attributes := #[] }] 49 2 #[] #[])
  fields := #[]
  methods := #[k1m0, k1m1]
  instanceTypes := #[]
  staticTypes := #[]
  resolved := Array.replicate 33 none
  statics := none }

def pool2 : Array CpInfo := pool [(1, .class_ 2), (0, u "java/io/Serializable"), (0, .class_ 4), (0, u "java/lang/Object")] 2

/-- java/io/Serializable -/
def k2 : Class := { plain "java/io/Serializable" (some 0) with
  accessFlags := 1537
  interfaces := #[]
  cf := some (fileOf pool2 1 #[] #[] 1537 3 #[] #[])
  fields := #[]
  methods := #[]
  instanceTypes := #[]
  staticTypes := #[]
  resolved := Array.replicate 7 none
  statics := none }

def pool3 : Array CpInfo := pool [(1, .class_ 2), (0, u "java/lang/Comparable"), (0, .class_ 4), (0, u "java/lang/Object")] 7

/-- java/lang/Comparable -/
def k3 : Class := { plain "java/lang/Comparable" (some 0) with
  accessFlags := 1537
  interfaces := #[]
  cf := some (fileOf pool3 1 #[] #[] 1537 3 #[] #[])
  fields := #[]
  methods := #[]
  instanceTypes := #[]
  staticTypes := #[]
  resolved := Array.replicate 12 none
  statics := none }

def pool4 : Array CpInfo := pool [(2, .class_ 4), (1, u "java/lang/CharSequence"), (42, .class_ 48), (0, u "java/lang/CharSequence$1CodePointIterator"), (10, .class_ 60), (0, u "java/lang/CharSequence$1CharIterator"), (5, .class_ 67), (0, u "java/lang/Object")] 63

/-- java/lang/CharSequence -/
def k4 : Class := { plain "java/lang/CharSequence" (some 0) with
  accessFlags := 1537
  interfaces := #[]
  cf := some (fileOf pool4 2 #[.nestMembers #[47, 59]] #[] 1537 66 #[] #[])
  fields := #[]
  methods := #[]
  instanceTypes := #[]
  staticTypes := #[]
  resolved := Array.replicate 131 none
  statics := none }

def pool5 : Array CpInfo := pool [(1, .class_ 2), (0, u "java/lang/constant/Constable"), (0, .class_ 4), (0, u "java/lang/Object")] 6

/-- java/lang/constant/Constable -/
def k5 : Class := { plain "java/lang/constant/Constable" (some 0) with
  accessFlags := 1537
  interfaces := #[]
  cf := some (fileOf pool5 1 #[] #[] 1537 3 #[] #[])
  fields := #[]
  methods := #[]
  instanceTypes := #[]
  staticTypes := #[]
  resolved := Array.replicate 11 none
  statics := none }

def pool6 : Array CpInfo := pool [(1, .class_ 2), (0, u "java/lang/constant/ConstantDesc"), (0, .class_ 4), (0, u "java/lang/Object")] 32

/-- java/lang/constant/ConstantDesc -/
def k6 : Class := { plain "java/lang/constant/ConstantDesc" (some 0) with
  accessFlags := 1537
  interfaces := #[]
  cf := some (fileOf pool6 1 #[] #[] 1537 3 #[] #[])
  fields := #[]
  methods := #[]
  instanceTypes := #[]
  staticTypes := #[]
  resolved := Array.replicate 37 none
  statics := none }

def pool7 : Array CpInfo := pool [(2, .class_ 4), (1, u "java/lang/Object"), (0, u "<init>"), (0, u "()V"), (2, .fieldref 10 11), (0, .class_ 12), (0, .nameAndType 13 14), (0, u "java/lang/String"), (0, u "value"), (0, u "[B"), (0, .fieldref 10 16), (0, .nameAndType 17 18), (0, u "coder"), (0, u "B"), (2, u "hash"), (0, u "I"), (2, u "hashIsZero"), (0, u "Z"), (11, .fieldref 10 39), (0, .nameAndType 40 26), (0, u "COMPACT_STRINGS"), (66, .class_ 109), (1, u "java/lang/StringLatin1"), (32, u "()Z"), (220, u "([BI)C"), (27, u "(II)V"), (35, u "(I)C"), (64, .methodref 10 493), (0, .nameAndType 494 142), (0, u "isLatin1"), (0, .methodref 107 496), (0, .nameAndType 497 363), (0, u "charAt"), (3, u "checkIndex"), (73, .class_ 576), (0, u "java/lang/CharSequence"), (22, u "CASE_INSENSITIVE_ORDER"), (0, u "Ljava/util/Comparator;"), (452, .fieldref 1054 1055), (0, .class_ 1056), (0, .nameAndType 1057 1058), (0, u "jdk/internal/util/Preconditions"), (0, u "SIOOBE_FORMATTER"), (0, u "Ljava/util/function/BiFunction;"), (0, .methodref 1054 1060), (0, .nameAndType 501 1061), (0, u "(IILjava/util/function/BiFunction;)I"), (39, u "serialPersistentFields"), (0, u "[Ljava/io/ObjectStreamField;"), (0, .class_ 1104), (0, u "java/lang/String$CaseInsensitiveComparator"), (1, .class_ 1107), (0, u "java/io/Serializable"), (0, .class_ 1109), (0, u "java/lang/Comparable"), (0, .class_ 1111), (0, u "java/lang/constant/Constable"), (0, .class_ 1113), (0, u "java/lang/constant/ConstantDesc"), (2, u "serialVersionUID"), (0, u "J"), (3, u "REPL"), (0, u "C"), (2, u "LATIN1"), (1, u "UTF16")] 323

def k7m0 : Method := { name := "<init>", desc := "()V", sig := { parameters := [], returnType := none }, accessFlags := 1, code := none }
def k7c1 : Code := { maxStack := 2, maxLocals := 2, code := jdk_42_method_56_code, exceptionTable := #[], attributes := #[] }
def k7m1 : Method := { name := "charAt", desc := "(I)C", sig := { parameters := [.int], returnType := some .char }, accessFlags := 1, code := some k7c1 }
def k7c2 : Code := { maxStack := 1, maxLocals := 1, code := jdk_42_method_154_code, exceptionTable := #[], attributes := #[] }
def k7m2 : Method := { name := "isLatin1", desc := "()Z", sig := { parameters := [], returnType := some .boolean }, accessFlags := 0, code := some k7c2 }
def k7c3 : Code := { maxStack := 3, maxLocals := 2, code := jdk_42_method_155_code, exceptionTable := #[], attributes := #[] }
def k7m3 : Method := { name := "checkIndex", desc := "(II)V", sig := { parameters := [.int, .int], returnType := none }, accessFlags := 8, code := some k7c3 }
/-- java/lang/String -/
def k7 : Class := { plain "java/lang/String" (some 0) with
  accessFlags := 49
  interfaces := #[2, 3, 4, 5, 6]
  cf := some (fileOf pool7 10 #[.nestMembers #[1103]] #[{ accessFlags := 1, nameIndex := 5, descriptorIndex := 6, attributes := #[] }, { accessFlags := 1, nameIndex := 497, descriptorIndex := 427, attributes := #[] }, { accessFlags := 0, nameIndex := 494, descriptorIndex := 142, attributes := #[] }, { accessFlags := 8, nameIndex := 501, descriptorIndex := 391, attributes := #[] }] 49 2 #[1106, 1108, 575, 1110, 1112] #[{ accessFlags := 18, nameIndex := 13, descriptorIndex := 14, attributes := #[] }, { accessFlags := 18, nameIndex := 17, descriptorIndex := 18, attributes := #[] }, { accessFlags := 2, nameIndex := 21, descriptorIndex := 22, attributes := #[] }, { accessFlags := 2, nameIndex := 25, descriptorIndex := 26, attributes := #[] }, { accessFlags := 26, nameIndex := 1116, descriptorIndex := 1117, attributes := #[] }, { accessFlags := 24, nameIndex := 40, descriptorIndex := 26, attributes := #[] }, { accessFlags := 26, nameIndex := 1101, descriptorIndex := 1102, attributes := #[] }, { accessFlags := 26, nameIndex := 1121, descriptorIndex := 1122, attributes := #[] }, { accessFlags := 25, nameIndex := 599, descriptorIndex := 600, attributes := #[] }, { accessFlags := 24, nameIndex := 1125, descriptorIndex := 18, attributes := #[] }, { accessFlags := 24, nameIndex := 1127, descriptorIndex := 18, attributes := #[] }])
  fields := #[{ name := "value", type := (.array .byte), accessFlags := 18, slot := 0, constantValue := 0 }, { name := "coder", type := .byte, accessFlags := 18, slot := 1, constantValue := 0 }, { name := "hash", type := .int, accessFlags := 2, slot := 2, constantValue := 0 }, { name := "hashIsZero", type := .boolean, accessFlags := 2, slot := 3, constantValue := 0 }, { name := "serialVersionUID", type := .long, accessFlags := 26, slot := 0, constantValue := 0 }, { name := "COMPACT_STRINGS", type := .boolean, accessFlags := 24, slot := 1, constantValue := 0 }, { name := "serialPersistentFields", type := (.array (.object "java/io/ObjectStreamField")), accessFlags := 26, slot := 2, constantValue := 0 }, { name := "REPL", type := .char, accessFlags := 26, slot := 3, constantValue := 0 }, { name := "CASE_INSENSITIVE_ORDER", type := (.object "java/util/Comparator"), accessFlags := 25, slot := 4, constantValue := 0 }, { name := "LATIN1", type := .byte, accessFlags := 24, slot := 5, constantValue := 0 }, { name := "UTF16", type := .byte, accessFlags := 24, slot := 6, constantValue := 0 }]
  methods := #[k7m0, k7m1, k7m2, k7m3]
  instanceTypes := #[(.array .byte), .byte, .int, .boolean]
  staticTypes := #[.long, .boolean, (.array (.object "java/io/ObjectStreamField")), .char, (.object "java/util/Comparator"), .byte, .byte]
  resolved := Array.replicate 1451 none
  statics := some 0 }

def pool8 : Array CpInfo := pool [(1, .class_ 2), (0, u "java/lang/String"), (1, .class_ 6), (1, u "java/lang/Object"), (0, u "<init>"), (0, u "()V"), (0, .methodref 1 10), (0, .nameAndType 11 12), (0, u "checkIndex"), (0, u "(II)V"), (1, .class_ 16), (1, u "java/lang/StringLatin1"), (36, u "([BI)C"), (67, u "$assertionsDisabled"), (0, u "Z"), (98, .class_ 223), (1, u "java/lang/StringLatin1$LinesSpliterator"), (28, u "charAt"), (137, .class_ 391), (0, u "java/lang/StringLatin1$CharsSpliterator")] 3

def k8m0 : Method := { name := "<init>", desc := "()V", sig := { parameters := [], returnType := none }, accessFlags := 0, code := none }
def k8c1 : Code := { maxStack := 2, maxLocals := 2, code := jdk_43_method_2_code, exceptionTable := #[], attributes := #[] }
def k8m1 : Method := { name := "charAt", desc := "([BI)C", sig := { parameters := [(.array .byte), .int], returnType := some .char }, accessFlags := 9, code := some k8c1 }
/-- java/lang/StringLatin1 -/
def k8 : Class := { plain "java/lang/StringLatin1" (some 0) with
  accessFlags := 48
  interfaces := #[]
  cf := some (fileOf pool8 14 #[.nestMembers #[390, 221]] #[{ accessFlags := 0, nameIndex := 7, descriptorIndex := 8, attributes := #[] }, { accessFlags := 9, nameIndex := 252, descriptorIndex := 53, attributes := #[] }] 48 4 #[] #[{ accessFlags := 4120, nameIndex := 121, descriptorIndex := 122, attributes := #[] }])
  fields := #[{ name := "$assertionsDisabled", type := .boolean, accessFlags := 4120, slot := 0, constantValue := 0 }]
  methods := #[k8m0, k8m1]
  instanceTypes := #[]
  staticTypes := #[.boolean]
  resolved := Array.replicate 395 none
  statics := none }

def pool9 : Array CpInfo := pool [(2, .class_ 4), (1, u "java/lang/Object"), (0, u "<init>"), (0, u "()V"), (17, .class_ 26), (1, u "jdk/internal/util/Preconditions"), (6, u "checkIndex"), (21, .class_ 56), (0, u "jdk/internal/util/Preconditions$4"), (57, .class_ 115), (0, u "jdk/internal/util/Preconditions$1"), (7, u "SIOOBE_FORMATTER"), (0, u "Ljava/util/function/BiFunction;"), (0, .class_ 126), (0, u "jdk/internal/util/Preconditions$2"), (3, u "AIOOBE_FORMATTER"), (0, .class_ 132), (0, u "jdk/internal/util/Preconditions$3"), (3, u "IOOBE_FORMATTER"), (41, u "(IILjava/util/function/BiFunction;)I")] 15

def k9m0 : Method := { name := "<init>", desc := "()V", sig := { parameters := [], returnType := none }, accessFlags := 1, code := none }
def k9c1 : Code := { maxStack := 3, maxLocals := 3, code := jdk_41_method_11_code, exceptionTable := #[], attributes := #[] }
def k9m1 : Method := { name := "checkIndex", desc := "(IILjava/util/function/BiFunction;)I", sig := { parameters := [.int, .int, (.object "java/util/function/BiFunction")], returnType := some .int }, accessFlags := 9, code := some k9c1 }
/-- jdk/internal/util/Preconditions -/
def k9 : Class := { plain "jdk/internal/util/Preconditions" (some 0) with
  accessFlags := 33
  interfaces := #[]
  cf := some (fileOf pool9 24 #[.nestMembers #[55, 131, 125, 114]] #[{ accessFlags := 1, nameIndex := 5, descriptorIndex := 6, attributes := #[] }, { accessFlags := 9, nameIndex := 33, descriptorIndex := 178, attributes := #[] }] 33 2 #[] #[{ accessFlags := 25, nameIndex := 123, descriptorIndex := 124, attributes := #[] }, { accessFlags := 25, nameIndex := 130, descriptorIndex := 124, attributes := #[] }, { accessFlags := 25, nameIndex := 136, descriptorIndex := 124, attributes := #[] }])
  fields := #[{ name := "SIOOBE_FORMATTER", type := (.object "java/util/function/BiFunction"), accessFlags := 25, slot := 0, constantValue := 0 }, { name := "AIOOBE_FORMATTER", type := (.object "java/util/function/BiFunction"), accessFlags := 25, slot := 1, constantValue := 0 }, { name := "IOOBE_FORMATTER", type := (.object "java/util/function/BiFunction"), accessFlags := 25, slot := 2, constantValue := 0 }]
  methods := #[k9m0, k9m1]
  instanceTypes := #[]
  staticTypes := #[(.object "java/util/function/BiFunction"), (.object "java/util/function/BiFunction"), (.object "java/util/function/BiFunction")]
  resolved := Array.replicate 194 none
  statics := some 1 }

def pool10 : Array CpInfo := pool [(2, .class_ 4), (1, u "java/lang/Object"), (3, .class_ 10), (1, u "com/example/resolvent/resolvent/Lexer"), (0, u "line"), (0, u "I"), (2, u "source"), (0, u "Ljava/lang/String;"), (2, u "maxTokens"), (2, u "kind"), (0, u "Lcom/example/resolvent/resolvent/Lexer$Kind;"), (2, u "value"), (2, u "location"), (0, u "Lcom/example/resolvent/resolvent/SourceLocation;"), (1, .class_ 34), (1, u "com/example/resolvent/resolvent/Lexer$Kind"), (22, u "pos"), (10, u "tokens"), (162, u "(C)I"), (9, u "hexValue"), (92, u "lineLowSurrogates"), (4, u "lineStart")] 75

def k10c0 : Code := { maxStack := 2, maxLocals := 1, code := prog_82_method_31_code, exceptionTable := #[], attributes := #[] }
def k10m0 : Method := { name := "hexValue", desc := "(C)I", sig := { parameters := [.char], returnType := some .int }, accessFlags := 8, code := some k10c0 }
/-- com/example/resolvent/resolvent/Lexer -/
def k10 : Class := { plain "com/example/resolvent/resolvent/Lexer" (some 0) with
  accessFlags := 48
  interfaces := #[]
  cf := some (fileOf pool10 8 #[.nestMembers #[32]] #[{ accessFlags := 8, nameIndex := 241, descriptorIndex := 231, attributes := #[] }] 48 2 #[] #[{ accessFlags := 18, nameIndex := 15, descriptorIndex := 16, attributes := #[] }, { accessFlags := 18, nameIndex := 19, descriptorIndex := 12, attributes := #[] }, { accessFlags := 2, nameIndex := 68, descriptorIndex := 12, attributes := #[] }, { accessFlags := 2, nameIndex := 57, descriptorIndex := 12, attributes := #[] }, { accessFlags := 2, nameIndex := 11, descriptorIndex := 12, attributes := #[] }, { accessFlags := 2, nameIndex := 339, descriptorIndex := 12, attributes := #[] }, { accessFlags := 2, nameIndex := 334, descriptorIndex := 12, attributes := #[] }, { accessFlags := 2, nameIndex := 22, descriptorIndex := 23, attributes := #[] }, { accessFlags := 2, nameIndex := 26, descriptorIndex := 16, attributes := #[] }, { accessFlags := 2, nameIndex := 29, descriptorIndex := 30, attributes := #[] }])
  fields := #[{ name := "source", type := (.object "java/lang/String"), accessFlags := 18, slot := 0, constantValue := 0 }, { name := "maxTokens", type := .int, accessFlags := 18, slot := 1, constantValue := 0 }, { name := "tokens", type := .int, accessFlags := 2, slot := 2, constantValue := 0 }, { name := "pos", type := .int, accessFlags := 2, slot := 3, constantValue := 0 }, { name := "line", type := .int, accessFlags := 2, slot := 4, constantValue := 0 }, { name := "lineStart", type := .int, accessFlags := 2, slot := 5, constantValue := 0 }, { name := "lineLowSurrogates", type := .int, accessFlags := 2, slot := 6, constantValue := 0 }, { name := "kind", type := (.object "com/example/resolvent/resolvent/Lexer$Kind"), accessFlags := 2, slot := 7, constantValue := 0 }, { name := "value", type := (.object "java/lang/String"), accessFlags := 2, slot := 8, constantValue := 0 }, { name := "location", type := (.object "com/example/resolvent/resolvent/SourceLocation"), accessFlags := 2, slot := 9, constantValue := 0 }]
  methods := #[k10m0]
  instanceTypes := #[(.object "java/lang/String"), .int, .int, .int, .int, .int, .int, (.object "com/example/resolvent/resolvent/Lexer$Kind"), (.object "java/lang/String"), (.object "com/example/resolvent/resolvent/SourceLocation")]
  staticTypes := #[]
  resolved := Array.replicate 415 none
  statics := none }

def pool11 : Array CpInfo := pool [(9, u "<init>"), (6, .class_ 18), (1, u "java/lang/Object"), (0, u "()V"), (1, .class_ 23), (1, u "jdk/internal/util/ArraysSupport"), (0, u "LOG2_ARRAY_LONG_INDEX_SCALE"), (0, u "I"), (2, u "U"), (0, u "Ljdk/internal/misc/Unsafe;"), (8, u "BIG_ENDIAN"), (0, u "Z"), (8, u "LOG2_BYTE_BIT_SIZE"), (4, u "LOG2_ARRAY_INT_INDEX_SCALE"), (54, u "JLA"), (0, u "Ljdk/internal/access/JavaLangAccess;"), (11, u "LOG2_ARRAY_BOOLEAN_INDEX_SCALE"), (9, u "LOG2_ARRAY_BYTE_INDEX_SCALE"), (5, u "LOG2_ARRAY_CHAR_INDEX_SCALE"), (5, u "LOG2_ARRAY_SHORT_INDEX_SCALE"), (18, u "LOG2_ARRAY_FLOAT_INDEX_SCALE"), (24, u "LOG2_ARRAY_DOUBLE_INDEX_SCALE"), (89, u "T_BOOLEAN"), (2, u "T_CHAR"), (1, u "T_FLOAT"), (1, u "T_DOUBLE"), (1, u "T_BYTE"), (1, u "T_SHORT"), (1, u "T_INT"), (1, u "T_LONG"), (1, u "SOFT_MAX_ARRAY_LENGTH")] 83

def k11m0 : Method := { name := "<init>", desc := "()V", sig := { parameters := [], returnType := none }, accessFlags := 2, code := none }
/-- jdk/internal/util/ArraysSupport -/
def k11 : Class := { plain "jdk/internal/util/ArraysSupport" (some 0) with
  accessFlags := 33
  interfaces := #[]
  cf := some (fileOf pool11 21 #[] #[{ accessFlags := 2, nameIndex := 9, descriptorIndex := 19, attributes := #[] }] 33 16 #[] #[{ accessFlags := 24, nameIndex := 28, descriptorIndex := 29, attributes := #[] }, { accessFlags := 26, nameIndex := 38, descriptorIndex := 39, attributes := #[] }, { accessFlags := 25, nameIndex := 121, descriptorIndex := 25, attributes := #[] }, { accessFlags := 25, nameIndex := 131, descriptorIndex := 25, attributes := #[] }, { accessFlags := 25, nameIndex := 137, descriptorIndex := 25, attributes := #[] }, { accessFlags := 25, nameIndex := 143, descriptorIndex := 25, attributes := #[] }, { accessFlags := 25, nameIndex := 53, descriptorIndex := 25, attributes := #[] }, { accessFlags := 25, nameIndex := 24, descriptorIndex := 25, attributes := #[] }, { accessFlags := 25, nameIndex := 162, descriptorIndex := 25, attributes := #[] }, { accessFlags := 25, nameIndex := 187, descriptorIndex := 25, attributes := #[] }, { accessFlags := 26, nameIndex := 48, descriptorIndex := 25, attributes := #[] }, { accessFlags := 25, nameIndex := 277, descriptorIndex := 25, attributes := #[] }, { accessFlags := 25, nameIndex := 280, descriptorIndex := 25, attributes := #[] }, { accessFlags := 25, nameIndex := 282, descriptorIndex := 25, attributes := #[] }, { accessFlags := 25, nameIndex := 284, descriptorIndex := 25, attributes := #[] }, { accessFlags := 25, nameIndex := 286, descriptorIndex := 25, attributes := #[] }, { accessFlags := 25, nameIndex := 288, descriptorIndex := 25, attributes := #[] }, { accessFlags := 25, nameIndex := 290, descriptorIndex := 25, attributes := #[] }, { accessFlags := 25, nameIndex := 292, descriptorIndex := 25, attributes := #[] }, { accessFlags := 26, nameIndex := 108, descriptorIndex := 109, attributes := #[] }, { accessFlags := 25, nameIndex := 294, descriptorIndex := 25, attributes := #[] }])
  fields := #[{ name := "U", type := (.object "jdk/internal/misc/Unsafe"), accessFlags := 24, slot := 0, constantValue := 0 }, { name := "BIG_ENDIAN", type := .boolean, accessFlags := 26, slot := 1, constantValue := 0 }, { name := "LOG2_ARRAY_BOOLEAN_INDEX_SCALE", type := .int, accessFlags := 25, slot := 2, constantValue := 0 }, { name := "LOG2_ARRAY_BYTE_INDEX_SCALE", type := .int, accessFlags := 25, slot := 3, constantValue := 0 }, { name := "LOG2_ARRAY_CHAR_INDEX_SCALE", type := .int, accessFlags := 25, slot := 4, constantValue := 0 }, { name := "LOG2_ARRAY_SHORT_INDEX_SCALE", type := .int, accessFlags := 25, slot := 5, constantValue := 0 }, { name := "LOG2_ARRAY_INT_INDEX_SCALE", type := .int, accessFlags := 25, slot := 6, constantValue := 0 }, { name := "LOG2_ARRAY_LONG_INDEX_SCALE", type := .int, accessFlags := 25, slot := 7, constantValue := 0 }, { name := "LOG2_ARRAY_FLOAT_INDEX_SCALE", type := .int, accessFlags := 25, slot := 8, constantValue := 0 }, { name := "LOG2_ARRAY_DOUBLE_INDEX_SCALE", type := .int, accessFlags := 25, slot := 9, constantValue := 0 }, { name := "LOG2_BYTE_BIT_SIZE", type := .int, accessFlags := 26, slot := 10, constantValue := 0 }, { name := "T_BOOLEAN", type := .int, accessFlags := 25, slot := 11, constantValue := 0 }, { name := "T_CHAR", type := .int, accessFlags := 25, slot := 12, constantValue := 0 }, { name := "T_FLOAT", type := .int, accessFlags := 25, slot := 13, constantValue := 0 }, { name := "T_DOUBLE", type := .int, accessFlags := 25, slot := 14, constantValue := 0 }, { name := "T_BYTE", type := .int, accessFlags := 25, slot := 15, constantValue := 0 }, { name := "T_SHORT", type := .int, accessFlags := 25, slot := 16, constantValue := 0 }, { name := "T_INT", type := .int, accessFlags := 25, slot := 17, constantValue := 0 }, { name := "T_LONG", type := .int, accessFlags := 25, slot := 18, constantValue := 0 }, { name := "JLA", type := (.object "jdk/internal/access/JavaLangAccess"), accessFlags := 26, slot := 19, constantValue := 0 }, { name := "SOFT_MAX_ARRAY_LENGTH", type := .int, accessFlags := 25, slot := 20, constantValue := 0 }]
  methods := #[k11m0]
  instanceTypes := #[]
  staticTypes := #[(.object "jdk/internal/misc/Unsafe"), .boolean, .int, .int, .int, .int, .int, .int, .int, .int, .int, .int, .int, .int, .int, .int, .int, .int, .int, (.object "jdk/internal/access/JavaLangAccess"), .int]
  resolved := Array.replicate 378 none
  statics := none }

def pool12 : Array CpInfo := pool [(1, u "java/lang/Cloneable"), (0, .class_ 1), (0, u "java/lang/Object"), (0, .class_ 3)] 3

/-- java/lang/Cloneable -/
def k12 : Class := { plain "java/lang/Cloneable" (some 0) with
  accessFlags := 1537
  interfaces := #[]
  cf := some (fileOf pool12 2 #[] #[] 1537 4 #[] #[])
  fields := #[]
  methods := #[]
  instanceTypes := #[]
  staticTypes := #[]
  resolved := Array.replicate 8 none
  statics := none }

/-- the primitive byte -/
def k13 : Class := { plain "byte" none with kind := .primitive 'B', accessFlags := 0x411 }
/-- [B -/
def k14 : Class := { plain "[B" (some 0) with kind := .array 13 .byte, interfaces := #[12, 2], accessFlags := 1041 }

/-- the primitive int -/
def k15 : Class := { plain "int" none with kind := .primitive 'I', accessFlags := 0x411 }
/-- [I -/
def k16 : Class := { plain "[I" (some 0) with kind := .array 15 .int, interfaces := #[12, 2], accessFlags := 1041 }

def heap : Heap := #[{ cls := 7, slots := #[.long 0, .int 1, .null, .int 0, .null, .int 0, .int 0], vm := .statics 7 },
  { cls := 9, slots := #[.null, .null, .null], vm := .statics 9 }]
def classes : Array Class := #[k0, k1, k2, k3, k4, k5, k6, k7, k8, k9, k10, k11, k12, k13, k14, k15, k16]
def interned : List (Array UInt16 × Addr) := []
def slotsUsed : Nat := 10
def theMethod : MethodId := ⟨1, 1⟩
def args0 : Array Value := #[.int 5, .int 2]
def aboutOver (below : List Frame) : State where
  vm := { classes := classes, interned := interned.toArray }
  heap := heap
  slotsUsed := slotsUsed
  threads := #[{ frames := .invoking theMethod args0 :: below }]
def below0 : List Frame := [.native { method := ⟨0, 0⟩, args := #[] }]
def about1 : State := aboutOver below0
def p0 : Program := .bare "" "" ""
def e0 : Env := launch0.env 0 0 0
theorem w_frames : about1.frames = Frame.invoking theMethod args0 :: below0 := rfl
set_option maxRecDepth 65536 in
theorem w_args : argsFit about1.vm theMethod args0 = true := by decide +kernel
set_option maxRecDepth 65536 in
theorem w_heap : heapFits about1 = true := by decide +kernel
set_option maxRecDepth 65536 in
theorem w_runnable : about1.curStatus? = some .runnable := by decide +kernel
set_option maxRecDepth 65536 in
theorem w_alone : about1.alone = true := by decide +kernel
set_option maxRecDepth 65536 in
theorem w_named : about1.methodNamed? x = some theMethod := by decide +kernel
set_option maxRecDepth 65536 in
theorem w_hears : about1.hears theMethod below0 = true := by decide +kernel
set_option maxRecDepth 65536 in
theorem w_ripe : about1.ripe theMethod args0 below0 = true := by decide +kernel
theorem w_running : about1.status = .running := rfl
set_option maxRecDepth 65536 in
theorem w_room : about1.hasRoom e0.platform room_1 = true :=
  launch0.hasRoom_least _ room_1 (by decide +kernel) (by decide +kernel) (by decide +kernel) (by decide +kernel) (by decide +kernel) (by decide +kernel)
theorem allAtoms_all (ts : List Jvm.Cond) (a : Array Jvm.Value) (st : Jvm.State) : (allAtoms ts).before a st = ts.all (fun c => c.before a st) := by
  induction ts with
  | nil => rfl
  | cons c t ih =>
    show (Jvm.Cond.and c (allAtoms t)).before a st = _
    rw [Jvm.Cond.before_and, ih, List.all_cons]
def words1 : List Jvm.Cond := Jvm.Cond.code x code maxLocals ret :: tables_1
/-- a 'code' word, met by the world's own term for the bytes: nothing is compared byte by byte -/
theorem code_word {y : MethodName} {bytes : ByteArray} {mx : Nat} {rt : Option FieldType} {a : Array Value} {s : State} {m : MethodId} {meth : Method} {c : Code} (h1 : s.methodNamed? y = some m) (h2 : s.vm.method? m = some meth) (h3 : meth.code = some c) (h4 : c.code = bytes)
    (h5 : (c.maxLocals == mx && c.exceptionTable.isEmpty && decide (c.maxStack ≤ mostOperands) && decide (meth.sig.returnType = rt) && !meth.locks && decide (parseMethodDescriptor y.desc = some meth.sig)) = true) : (Jvm.Cond.code y bytes mx rt).before a s = true := by
  simp only [Bool.and_eq_true, beq_iff_eq, Bool.not_eq_true', decide_eq_true_eq] at h5
  obtain ⟨⟨⟨⟨⟨g1, g2⟩, g3⟩, g4⟩, g5⟩, g6⟩ := h5
  simp [Cond.before, Cond.holds, Cond.value, h1, h2, h3, h4, g1, g2, g3, g4, g5, g6]
def isCode : Jvm.Cond → Bool
  | .code _ _ _ _ => true
  | _ => false
theorem all_split {L : List Jvm.Cond} {P : Jvm.Cond → Bool} (h1 : L.all (fun c => isCode c || P c) = true) (h2 : ∀ c ∈ L.filter isCode, P c = true) : L.all P = true := by
  refine List.all_eq_true.mpr fun c hc => ?_
  have h := List.all_eq_true.mp h1 c hc
  rcases Bool.eq_false_or_eq_true (isCode c) with hi | hi
  · exact h2 c (List.mem_filter.mpr ⟨hc, hi⟩)
  · simpa [hi] using h
set_option maxRecDepth 65536 in
theorem w_c0 : (Jvm.Cond.code x code maxLocals ret).before args0 about1 = true := code_word (m := ⟨1, 1⟩) (meth := k1m1) (c := k1c1) (by decide +kernel) rfl rfl rfl (by decide +kernel)
set_option maxRecDepth 65536 in
theorem w_c1 : (Jvm.Cond.code ({ cls := "java/lang/String", name := "charAt", desc := "(I)C" } : Jvm.MethodName) jdk_42_method_56_code (2 : Nat) (Option.some Jvm.ClassFile.FieldType.char)).before args0 about1 = true := code_word (m := ⟨7, 1⟩) (meth := k7m1) (c := k7c1) (by decide +kernel) rfl rfl rfl (by decide +kernel)
set_option maxRecDepth 65536 in
theorem w_c2 : (Jvm.Cond.code ({ cls := "java/lang/String", name := "isLatin1", desc := "()Z" } : Jvm.MethodName) jdk_42_method_154_code (1 : Nat) (Option.some Jvm.ClassFile.FieldType.boolean)).before args0 about1 = true := code_word (m := ⟨7, 2⟩) (meth := k7m2) (c := k7c2) (by decide +kernel) rfl rfl rfl (by decide +kernel)
set_option maxRecDepth 65536 in
theorem w_c3 : (Jvm.Cond.code ({ cls := "java/lang/StringLatin1", name := "charAt", desc := "([BI)C" } : Jvm.MethodName) jdk_43_method_2_code (2 : Nat) (Option.some Jvm.ClassFile.FieldType.char)).before args0 about1 = true := code_word (m := ⟨8, 1⟩) (meth := k8m1) (c := k8c1) (by decide +kernel) rfl rfl rfl (by decide +kernel)
set_option maxRecDepth 65536 in
theorem w_c4 : (Jvm.Cond.code ({ cls := "java/lang/String", name := "checkIndex", desc := "(II)V" } : Jvm.MethodName) jdk_42_method_155_code (2 : Nat) (Option.none : Option Jvm.ClassFile.FieldType)).before args0 about1 = true := code_word (m := ⟨7, 3⟩) (meth := k7m3) (c := k7c3) (by decide +kernel) rfl rfl rfl (by decide +kernel)
set_option maxRecDepth 65536 in
theorem w_c5 : (Jvm.Cond.code ({ cls := "jdk/internal/util/Preconditions", name := "checkIndex", desc := "(IILjava/util/function/BiFunction;)I" } : Jvm.MethodName) jdk_41_method_11_code (3 : Nat) (Option.some Jvm.ClassFile.FieldType.int)).before args0 about1 = true := code_word (m := ⟨9, 1⟩) (meth := k9m1) (c := k9c1) (by decide +kernel) rfl rfl rfl (by decide +kernel)
set_option maxRecDepth 65536 in
theorem w_c6 : (Jvm.Cond.code ({ cls := "com/example/resolvent/resolvent/Lexer", name := "hexValue", desc := "(C)I" } : Jvm.MethodName) prog_82_method_31_code (1 : Nat) (Option.some Jvm.ClassFile.FieldType.int)).before args0 about1 = true := code_word (m := ⟨10, 0⟩) (meth := k10m0) (c := k10c0) (by decide +kernel) rfl rfl rfl (by decide +kernel)
def codes1 : List Jvm.Cond := [Jvm.Cond.code x code maxLocals ret, Jvm.Cond.code ({ cls := "java/lang/String", name := "charAt", desc := "(I)C" } : Jvm.MethodName) jdk_42_method_56_code (2 : Nat) (Option.some Jvm.ClassFile.FieldType.char), Jvm.Cond.code ({ cls := "java/lang/String", name := "isLatin1", desc := "()Z" } : Jvm.MethodName) jdk_42_method_154_code (1 : Nat) (Option.some Jvm.ClassFile.FieldType.boolean), Jvm.Cond.code ({ cls := "java/lang/StringLatin1", name := "charAt", desc := "([BI)C" } : Jvm.MethodName) jdk_43_method_2_code (2 : Nat) (Option.some Jvm.ClassFile.FieldType.char), Jvm.Cond.code ({ cls := "java/lang/String", name := "checkIndex", desc := "(II)V" } : Jvm.MethodName) jdk_42_method_155_code (2 : Nat) (Option.none : Option Jvm.ClassFile.FieldType), Jvm.Cond.code ({ cls := "jdk/internal/util/Preconditions", name := "checkIndex", desc := "(IILjava/util/function/BiFunction;)I" } : Jvm.MethodName) jdk_41_method_11_code (3 : Nat) (Option.some Jvm.ClassFile.FieldType.int), Jvm.Cond.code ({ cls := "com/example/resolvent/resolvent/Lexer", name := "hexValue", desc := "(C)I" } : Jvm.MethodName) prog_82_method_31_code (1 : Nat) (Option.some Jvm.ClassFile.FieldType.int)]
set_option maxRecDepth 65536 in
theorem codes_eq : words1.filter isCode = codes1 := rfl
theorem w_codes : ∀ c ∈ words1.filter isCode, c.before args0 about1 = true := by
  rw [codes_eq]
  intro c hc
  simp only [codes1, List.mem_cons, List.not_mem_nil, or_false] at hc
  rcases hc with rfl | rfl | rfl | rfl | rfl | rfl | rfl
  · exact w_c0
  · exact w_c1
  · exact w_c2
  · exact w_c3
  · exact w_c4
  · exact w_c5
  · exact w_c6
set_option maxRecDepth 65536 in
theorem w_t1 : (words1.take 24).all (fun c => isCode c || c.before args0 about1) = true := by decide +kernel
set_option maxRecDepth 65536 in
theorem w_t2 : (words1.drop 24).all (fun c => isCode c || c.before args0 about1) = true := by decide +kernel
theorem w_tables : (allAtoms (Jvm.Cond.code x code maxLocals ret :: tables_1)).before args0 about1 = true := by
  rw [allAtoms_all]
  show words1.all (fun c => c.before args0 about1) = true
  refine all_split ?_ w_codes
  rw [← List.take_append_drop 24 words1, List.all_append, w_t1, w_t2]
  rfl
set_option maxRecDepth 65536 in
theorem w_rest : rest_1_c.before args0 about1 = true := by decide +kernel
set_option maxRecDepth 65536 in
theorem w_case : (Jvm.Cond.and given_1 narrow_1).before args0 about1 = true := by decide +kernel
set_option maxRecDepth 65536 in
theorem w_consts : constsHeld consts_1 about1 := Jvm.Lit.constsHeldB_iff.mp (by decide +kernel)
theorem w_applies : (headSpec (Jvm.Cond.code x code maxLocals ret :: tables_1) room_1).applies x e0.platform about1 = true :=
  (Spec.applies_iff w_frames).mpr ⟨w_running, w_runnable, w_alone, w_named, w_hears, w_ripe, w_room, w_tables⟩
theorem atStart : AtStart classFile x code maxLocals ret World_1 tables_1 room_1 Calls_1 rest_1 Pre_1 launch0 p0 e0 about1 theMethod args0 below0 :=
  ⟨lists_1, trivial, launch0.admits_env _ _ _, launch0.least_env, fairChoices_fair.cas, fairChoices_fair.clock, w_frames, w_args, w_heap, w_applies, ⟨w_consts, trivial⟩, w_rest, w_case⟩
end start1
theorem witness_1 : WitnessClaimed_1 := ⟨start1.p0, start1.e0, start1.about1, start1.theMethod, start1.args0, start1.below0, start1.atStart⟩
end Jvm.Pilot.@@N@@
