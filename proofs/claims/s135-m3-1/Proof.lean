import JvmDerived
import JvmDerived.Pilot.@@N@@Statement
import JvmDerived.Pilot.@@N@@Code
set_option linter.unusedVariables false
set_option linter.unusedSimpArgs false
namespace Jvm.OwnW
open Jvm Jvm.ClassFile Sem Op Lib Jvm.Free Jvm.Stand Jvm.LawKit Jvm.RoadKit Bundle
/-- the walk stands at pc, over the heap h; k cells and n slots have come; nothing that stood at the start is written -/
def At0 (p : Program) (l : Launch) (e : Env) (R : Room) (s : State) (m : MethodId) (args : Array Value) (below : List Frame) (meth : Method) (c : Code) (n0 : Nat) (S0 : State) (h : Heap) (k n pc : Nat) (Ls : Array Slot) (st : List Value) : Prop :=
  ∃ (T : State) (locs : List Loc), Stand p l e R s m args below meth c T locs k n ∧ T.heap = h ∧ Fr n0 locs ∧ ∀ t, Steps p.tables e below (T.setTop (mkF m pc Ls st)) t → Steps p.tables e below S0 t
/-- the walk has returned v, over the heap h -/
def End0 (p : Program) (e : Env) (R : Room) (s : State) (below : List Frame) (n0 : Nat) (S0 : State) (v : Option Value) (h : Heap) : Prop :=
  ∃ (s₂ : State) (L : List Loc), Steps p.tables e below S0 s₂ ∧ s₂.status = .running ∧ Ended s₂ below (.returned v) ∧ s₂.heap = h ∧ Fr n0 L ∧ FrameEnd s (.returned v) s₂ L R.cells R.slots
abbrev WT := Heap → Nat → Nat → Nat → Array Slot → List Value → Prop
abbrev VT := Option Value → Heap → Prop
/-- W and V are of one walk of the body of y -/
def Wk (l : Launch) (Z : State) (y : MethodName) (code : ByteArray) (mx : Nat) (ret : Option FieldType) (R : Room) (n0 : Nat) (W : WT) (V : VT) : Prop :=
  ∃ (p : Program) (e : Env) (s : State) (m : MethodId) (args : Array Value) (below : List Frame) (meth : Method) (c : Code) (S0 : State),
    p.tables.exec = Jvm.exec ∧ c.code = code ∧ c.maxLocals = mx ∧ s.vm.findClass y.cls = some m.cls ∧ Z.Warmed39 s.vm ∧ meth.name = y.name ∧ meth.sig.returnType = ret ∧ meth.locks = false ∧
    W = At0 p l e R s m args below meth c n0 S0 ∧ V = End0 p e R s below n0 S0
/-- a contract: called with 'as' over the heap h the method returns v and leaves h' with Q v h' -/
def Ct (l : Launch) (Z : State) (y : MethodName) (bytes : ByteArray) (mx : Nat) (ret : Option FieldType) (rm : Room) (n0 : Nat) (as : Array Value) (h : Heap) (Q : Option Value → Heap → Prop) : Prop :=
  ∀ ws : List Jvm.Cond, MetFree l y (head1 (Jvm.Cond.code y bytes mx ret :: ws) rm) (fun a U => a = as ∧ Z.Warmed39 U.vm ∧ U.heap = h) (fun _ _ _ _ _ => True) (fun _ U o U' => ∃ v L, o = .returned v ∧ (Q v U'.heap ∧ Fr n0 L) ∧ FrameEnd U o U' L rm.cells rm.slots)
theorem Ct.of {l : Launch} {Z : State} {y : MethodName} {bytes : ByteArray} {mx : Nat} {ret : Option FieldType} {rm : Room} {n0 : Nat} {as : Array Value} {h : Heap} {Q : Option Value → Heap → Prop} {Ls : Array Slot} (hpn : plainFor y = true) (hef : ∀ m, entryFrame m as mx = mkF m 0 Ls [])
    (body : ∀ W V, Wk l Z y bytes mx ret rm n0 W V → W h 0 0 0 Ls [] → ∃ v h', V v h' ∧ Q v h') : Ct l Z y bytes mx ret rm n0 as h Q := by
  intro ws
  refine MetFree.of_bodySF hpn hisR ?_
  intro p e s m args below meth c s₁ Bd hml0 hP hK
  obtain ⟨rfl, hZ, hh⟩ := hP
  have X0 : Stand p l e rm s m args below meth c s₁ [] 0 0 := Stand.of_body Bd
  have e0 : s₁.heap = h := by rw [← hh, Bd.state]; rfl
  obtain ⟨v, h', ⟨s₂, L, g1, g2, g3, g4, g5, g6⟩, hQ⟩ := body _ _ ⟨p, e, s, m, args, below, meth, c, s₁.setTop (entryFrame m args mx), Bd.exec, Bd.bytes, hml0, findClass_of_methodNamed Bd.named, hZ, (name_of_methodNamed Bd.named Bd.method).1, Bd.returns, Bd.notSynchronized, rfl, rfl⟩
    ⟨s₁, [], X0, e0, Fr.nil n0, fun t k => castTop (hef m) k⟩
  exact ⟨s₂, _, g1, g2, g3, v, L, rfl, ⟨by rw [g4]; exact hQ, g5⟩, g6⟩
theorem Ct.imp {l : Launch} {Z : State} {y : MethodName} {bytes : ByteArray} {mx : Nat} {ret : Option FieldType} {rm : Room} {n0 : Nat} {as : Array Value} {h : Heap} {Q Q' : Option Value → Heap → Prop} (hM : Ct l Z y bytes mx ret rm n0 as h Q) (hi : ∀ v h', Q v h' → Q' v h') : Ct l Z y bytes mx ret rm n0 as h Q' := by
  intro ws p e ha hc hk s m args below hf happ hP hK
  obtain ⟨n, o, h1, h2, h3, v, L, g1, ⟨g2, g3⟩, g4⟩ := hM ws p e ha hc hk s m args below hf happ hP hK
  exact ⟨n, o, h1, h2, h3, v, L, g1, ⟨hi _ _ g2, g3⟩, g4⟩
/-- the class that declares z is no interface, by a word of the sheet -/
def NF (Z : State) (a0 : Array Value) (z : MethodName) : Prop := (∃ C z2, (Jvm.Cond.selects C z2 z2).before a0 Z = true ∧ z2.cls = z.cls) ∨ (∃ S, (Jvm.Cond.superclass z.cls S).before a0 Z = true) ∨ (Jvm.Cond.noSuperclass z.cls).before a0 Z = true
theorem NF.at {Z s : State} {a0 : Array Value} {z : MethodName} (hZ : Z.Warmed39 s.vm) (f : NF Z a0 z) : NotFace s z := by
  rcases f with ⟨C, z2, w, e⟩ | ⟨S, w⟩ | w
  · intro r0 h0
    obtain ⟨c2, r2, m2, q1, q2, q3, q4, kP, hkP, hkPi⟩ := Cond.selects_spec (mvT (args := #[]) hZ w)
    have a := findClass_of_methodNamed h0
    have b := findClass_of_methodNamed q3
    rw [e] at b
    have d : r0.cls = m2.cls := Option.some.inj (a.symm.trans b)
    exact ⟨kP, by rw [d]; exact hkP, hkPi⟩
  · exact nf_super (args := #[]) (mvT hZ w)
  · exact nf_top (args := #[]) (mvT hZ w)
section Steps
variable {l : Launch} {Z : State} {y : MethodName} {code : ByteArray} {mx : Nat} {ret : Option FieldType} {R : Room} {n0 : Nat} {W : WT} {V : VT} {h : Heap} {k n pc pc' : Nat} {Ls Ls' : Array Slot} {st st' : List Value} {a0 : Array Value}
/-- a plain step, by the library's law for it -/
theorem Wk.step (H : Wk l Z y code mx ret R n0 W V) (r : W h k n pc Ls st)
    (f : ∀ {tb : Tables} [Ours tb] {e : Env} {below : List Frame} {T t : State} {m : MethodId} {c : Code}, At T m c below → tb.exec = Jvm.exec → c.code = code → Steps tb e below (T.setTop (mkF m pc' Ls' st')) t → Steps tb e below (T.setTop (mkF m pc Ls st)) t) : W h k n pc' Ls' st' := by
  obtain ⟨p, e, s, m, args, below, meth, c, S0, hx, hby, hml, hown, hZ, hnm, hret, hlk, rfl, rfl⟩ := H
  obtain ⟨T, locs, X, eh, N, sp⟩ := r
  exact ⟨T, locs, X, eh, N, fun t q => sp t (f X.here hx hby q)⟩
/-- the account of cells and slots may be widened -/
theorem Wk.more (H : Wk l Z y code mx ret R n0 W V) {k' n' : Nat} (hk : k ≤ k') (hn : n ≤ n') (r : W h k n pc Ls st) : W h k' n' pc Ls st := by
  obtain ⟨p, e, s, m, args, below, meth, c, S0, hx, hby, hml, hown, hZ, hnm, hret, hlk, rfl, rfl⟩ := H
  obtain ⟨T, locs, X, eh, N, sp⟩ := r
  exact ⟨T, locs, X.mono hk hn, eh, N, sp⟩
/-- a step that reads the tables or the heap -/
theorem Wk.stepX (H : Wk l Z y code mx ret R n0 W V) (r : W h k n pc Ls st)
    (f : ∀ {p : Program} {e : Env} {s : State} {m : MethodId} {args : Array Value} {below : List Frame} {meth : Method} {c : Code} {T : State} {locs : List Loc}, Stand p l e R s m args below meth c T locs k n → p.tables.exec = Jvm.exec → c.code = code → c.maxLocals = mx → s.vm.findClass y.cls = some m.cls → Z.Warmed39 s.vm → T.heap = h → ∃ T', Stand p l e R s m args below meth c T' locs k n ∧ T'.heap = h ∧ ∀ t, Steps p.tables e below (T'.setTop (mkF m pc' Ls' st')) t → Steps p.tables e below (T.setTop (mkF m pc Ls st)) t) : W h k n pc' Ls' st' := by
  obtain ⟨p, e, s, m, args, below, meth, c, S0, hx, hby, hml, hown, hZ, hnm, hret, hlk, rfl, rfl⟩ := H
  obtain ⟨T, locs, X, eh, N, sp⟩ := r
  obtain ⟨T', X', e', q⟩ := f X hx hby hml hown hZ eh
  exact ⟨T', locs, X', e', N, fun t u => sp t (q t u)⟩
theorem Wk.aloadN (H : Wk l Z y code mx ret R n0 W V) {i : Fin 4} {v : Value} (hd : decode code pc = .ok (.aload_n i, 1)) (r : W h k n pc Ls (st)) (hl : Ls[i.val]? = some (.val v)) (hv : v.isRef = true) : W h k n (pc + 1) Ls (v :: st) :=
  H.step r fun A hx hby q => XS.aloadN A hx rfl (hb hby hd) hl hv q
theorem Wk.aload (H : Wk l Z y code mx ret R n0 W V) {i : Nat} {v : Value} (hd : decode code pc = .ok (.aload i, 2)) (r : W h k n pc Ls (st)) (hl : Ls[i]? = some (.val v)) (hv : v.isRef = true) : W h k n (pc + 2) Ls (v :: st) :=
  H.step r fun A hx hby q => XS.aload A hx rfl (hb hby hd) hl hv q
theorem Wk.iloadN (H : Wk l Z y code mx ret R n0 W V) {i : Fin 4} {v : Int32} (hd : decode code pc = .ok (.iload_n i, 1)) (r : W h k n pc Ls (st)) (hl : Ls[i.val]? = some (.val (.int v))) : W h k n (pc + 1) Ls (.int v :: st) :=
  H.step r fun A hx hby q => XS.iloadN A hx rfl (hb hby hd) hl q
theorem Wk.iload (H : Wk l Z y code mx ret R n0 W V) {i : Nat} {v : Int32} (hd : decode code pc = .ok (.iload i, 2)) (r : W h k n pc Ls (st)) (hl : Ls[i]? = some (.val (.int v))) : W h k n (pc + 2) Ls (.int v :: st) :=
  H.step r fun A hx hby q => XS.iload A hx rfl (hb hby hd) hl q
theorem Wk.lloadN (H : Wk l Z y code mx ret R n0 W V) {i : Fin 4} {v : Int64} (hd : decode code pc = .ok (.lload_n i, 1)) (r : W h k n pc Ls (st)) (hl : Ls[i.val]? = some (.val (.long v))) : W h k n (pc + 1) Ls (.long v :: st) :=
  H.step r fun A hx hby q => XS.lloadN A hx rfl (hb hby hd) hl q
theorem Wk.lload (H : Wk l Z y code mx ret R n0 W V) {i : Nat} {v : Int64} (hd : decode code pc = .ok (.lload i, 2)) (r : W h k n pc Ls (st)) (hl : Ls[i]? = some (.val (.long v))) : W h k n (pc + 2) Ls (.long v :: st) :=
  H.step r fun A hx hby q => XS.lload A hx rfl (hb hby hd) hl q
theorem Wk.floadN (H : Wk l Z y code mx ret R n0 W V) {i : Fin 4} {v : UInt32} (hd : decode code pc = .ok (.fload_n i, 1)) (r : W h k n pc Ls (st)) (hl : Ls[i.val]? = some (.val (.float v))) : W h k n (pc + 1) Ls (.float v :: st) :=
  H.step r fun A hx hby q => XS.floadN A hx rfl (hb hby hd) hl q
theorem Wk.iconst (H : Wk l Z y code mx ret R n0 W V) {i : Int} {z : Int32} (hd : decode code pc = .ok (.iconst i, 1)) (r : W h k n pc Ls st) (hz : Int32.ofInt i = z) : W h k n (pc + 1) Ls (.int z :: st) := by
  subst hz
  exact H.step r fun A hx hby q => XS.iconst A hx rfl (hb hby hd) q
theorem Wk.bipush (H : Wk l Z y code mx ret R n0 W V) {i : Int} {z : Int32} (hd : decode code pc = .ok (.bipush i, 2)) (r : W h k n pc Ls st) (hz : (Int8.ofInt i).toInt32 = z) : W h k n (pc + 2) Ls (.int z :: st) := by
  subst hz
  exact H.step r fun A hx hby q => XS.bipush A hx rfl (hb hby hd) q
theorem Wk.sipush (H : Wk l Z y code mx ret R n0 W V) {i : Int} {z : Int32} (hd : decode code pc = .ok (.sipush i, 3)) (r : W h k n pc Ls st) (hz : (Int16.ofInt i).toInt32 = z) : W h k n (pc + 3) Ls (.int z :: st) := by
  subst hz
  exact H.step r fun A hx hby q => XS.sipush A hx rfl (hb hby hd) q
theorem Wk.lconst (H : Wk l Z y code mx ret R n0 W V) {i : Fin 2} {z : Int64} (hd : decode code pc = .ok (.lconst i, 1)) (r : W h k n pc Ls st) (hz : Int64.ofNat i = z) : W h k n (pc + 1) Ls (.long z :: st) := by
  subst hz
  exact H.step r fun A hx hby q => XS.lconst A hx rfl (hb hby hd) q
theorem Wk.fconst0 (H : Wk l Z y code mx ret R n0 W V) {v : UInt32} (hd : decode code pc = .ok (.fconst 0, 1)) (r : W h k n pc Ls st) (hv : FP.fconst0 = v) : W h k n (pc + 1) Ls (.float v :: st) :=
  H.step r fun A hx hby q => XS.fconst0 A hx rfl (hb hby hd) hv q
theorem Wk.fcmp (H : Wk l Z y code mx ret R n0 W V) {o : CmpOp} {x z : UInt32} {v : Int32} (hd : decode code pc = .ok (.fcmp o, 1)) (r : W h k n pc Ls (.float z :: .float x :: st)) (hv : cmpValue (FP.fcmp x z) o = v) : W h k n (pc + 1) Ls (.int v :: st) :=
  H.step r fun A hx hby q => XS.fcmpS A hx rfl (hb hby hd) rfl hv q
theorem Wk.aconstNull (H : Wk l Z y code mx ret R n0 W V) (hd : decode code pc = .ok (.aconst_null, 1)) (r : W h k n pc Ls (st)) : W h k n (pc + 1) Ls (.null :: st) :=
  H.step r fun A hx hby q => XS.aconstNull A hx rfl (hb hby hd)  q
theorem Wk.iadd (H : Wk l Z y code mx ret R n0 W V) {a b : Int32} (hd : decode code pc = .ok (.iadd, 1)) (r : W h k n pc Ls (.int b :: .int a :: st)) : W h k n (pc + 1) Ls (.int (a + b) :: st) :=
  H.step r fun A hx hby q => XS.iadd A hx rfl (hb hby hd) rfl q
theorem Wk.isub (H : Wk l Z y code mx ret R n0 W V) {a b : Int32} (hd : decode code pc = .ok (.isub, 1)) (r : W h k n pc Ls (.int b :: .int a :: st)) : W h k n (pc + 1) Ls (.int (a - b) :: st) :=
  H.step r fun A hx hby q => XS.isub A hx rfl (hb hby hd) rfl q
theorem Wk.iand (H : Wk l Z y code mx ret R n0 W V) {a b : Int32} (hd : decode code pc = .ok (.iand, 1)) (r : W h k n pc Ls (.int b :: .int a :: st)) : W h k n (pc + 1) Ls (.int (a &&& b) :: st) :=
  H.step r fun A hx hby q => XS.iand A hx rfl (hb hby hd) rfl q
theorem Wk.imul (H : Wk l Z y code mx ret R n0 W V) {a b : Int32} (hd : decode code pc = .ok (.imul, 1)) (r : W h k n pc Ls (.int b :: .int a :: st)) : W h k n (pc + 1) Ls (.int (a * b) :: st) :=
  H.step r fun A hx hby q => XS.imul A hx rfl (hb hby hd) rfl q
theorem Wk.ior (H : Wk l Z y code mx ret R n0 W V) {a b : Int32} (hd : decode code pc = .ok (.ior, 1)) (r : W h k n pc Ls (.int b :: .int a :: st)) : W h k n (pc + 1) Ls (.int (a ||| b) :: st) :=
  H.step r fun A hx hby q => XS.ior A hx rfl (hb hby hd) rfl q
theorem Wk.ixor (H : Wk l Z y code mx ret R n0 W V) {a b : Int32} (hd : decode code pc = .ok (.ixor, 1)) (r : W h k n pc Ls (.int b :: .int a :: st)) : W h k n (pc + 1) Ls (.int (a ^^^ b) :: st) :=
  H.step r fun A hx hby q => XS.ixor A hx rfl (hb hby hd) rfl q
theorem Wk.ishl (H : Wk l Z y code mx ret R n0 W V) {a b : Int32} (hd : decode code pc = .ok (.ishl, 1)) (r : W h k n pc Ls (.int b :: .int a :: st)) : W h k n (pc + 1) Ls (.int (a <<< (b &&& 31)) :: st) :=
  H.step r fun A hx hby q => XS.ishl A hx rfl (hb hby hd) rfl q
theorem Wk.ishr (H : Wk l Z y code mx ret R n0 W V) {a b : Int32} (hd : decode code pc = .ok (.ishr, 1)) (r : W h k n pc Ls (.int b :: .int a :: st)) : W h k n (pc + 1) Ls (.int (a >>> (b &&& 31)) :: st) :=
  H.step r fun A hx hby q => XS.ishr A hx rfl (hb hby hd) rfl q
theorem Wk.iushr (H : Wk l Z y code mx ret R n0 W V) {a b : Int32} (hd : decode code pc = .ok (.iushr, 1)) (r : W h k n pc Ls (.int b :: .int a :: st)) : W h k n (pc + 1) Ls (.int ((a.toUInt32 >>> (b &&& 31).toUInt32).toInt32) :: st) :=
  H.step r fun A hx hby q => XS.iushr A hx rfl (hb hby hd) rfl q
theorem Wk.ladd (H : Wk l Z y code mx ret R n0 W V) {a b : Int64} (hd : decode code pc = .ok (.ladd, 1)) (r : W h k n pc Ls (.long b :: .long a :: st)) : W h k n (pc + 1) Ls (.long (a + b) :: st) :=
  H.step r fun A hx hby q => XS.ladd A hx rfl (hb hby hd) rfl q
theorem Wk.lsub (H : Wk l Z y code mx ret R n0 W V) {a b : Int64} (hd : decode code pc = .ok (.lsub, 1)) (r : W h k n pc Ls (.long b :: .long a :: st)) : W h k n (pc + 1) Ls (.long (a - b) :: st) :=
  H.step r fun A hx hby q => XS.lsub A hx rfl (hb hby hd) rfl q
theorem Wk.lmul (H : Wk l Z y code mx ret R n0 W V) {a b : Int64} (hd : decode code pc = .ok (.lmul, 1)) (r : W h k n pc Ls (.long b :: .long a :: st)) : W h k n (pc + 1) Ls (.long (a * b) :: st) :=
  H.step r fun A hx hby q => XS.lmul A hx rfl (hb hby hd) rfl q
theorem Wk.land (H : Wk l Z y code mx ret R n0 W V) {a b : Int64} (hd : decode code pc = .ok (.land, 1)) (r : W h k n pc Ls (.long b :: .long a :: st)) : W h k n (pc + 1) Ls (.long (a &&& b) :: st) :=
  H.step r fun A hx hby q => XS.land A hx rfl (hb hby hd) rfl q
theorem Wk.lor (H : Wk l Z y code mx ret R n0 W V) {a b : Int64} (hd : decode code pc = .ok (.lor, 1)) (r : W h k n pc Ls (.long b :: .long a :: st)) : W h k n (pc + 1) Ls (.long (a ||| b) :: st) :=
  H.step r fun A hx hby q => XS.lor A hx rfl (hb hby hd) rfl q
theorem Wk.lxor (H : Wk l Z y code mx ret R n0 W V) {a b : Int64} (hd : decode code pc = .ok (.lxor, 1)) (r : W h k n pc Ls (.long b :: .long a :: st)) : W h k n (pc + 1) Ls (.long (a ^^^ b) :: st) :=
  H.step r fun A hx hby q => XS.lxor A hx rfl (hb hby hd) rfl q
theorem Wk.lshl (H : Wk l Z y code mx ret R n0 W V) {a : Int64} {b : Int32} (hd : decode code pc = .ok (.lshl, 1)) (r : W h k n pc Ls (.int b :: .long a :: st)) : W h k n (pc + 1) Ls (.long (a <<< (b &&& 0x3f).toInt64) :: st) :=
  H.step r fun A hx hby q => XS.lshl A hx rfl (hb hby hd) rfl q
theorem Wk.lshr (H : Wk l Z y code mx ret R n0 W V) {a : Int64} {b : Int32} (hd : decode code pc = .ok (.lshr, 1)) (r : W h k n pc Ls (.int b :: .long a :: st)) : W h k n (pc + 1) Ls (.long (a >>> (b &&& 0x3f).toInt64) :: st) :=
  H.step r fun A hx hby q => XS.lshr A hx rfl (hb hby hd) rfl q
theorem Wk.lushr (H : Wk l Z y code mx ret R n0 W V) {a : Int64} {b : Int32} (hd : decode code pc = .ok (.lushr, 1)) (r : W h k n pc Ls (.int b :: .long a :: st)) : W h k n (pc + 1) Ls (.long ((a.toUInt64 >>> (b &&& 0x3f).toInt64.toUInt64).toInt64) :: st) :=
  H.step r fun A hx hby q => XS.lushr A hx rfl (hb hby hd) rfl q
theorem Wk.ldiv (H : Wk l Z y code mx ret R n0 W V) {a b : Int64} (hd : decode code pc = .ok (.ldiv, 1)) (r : W h k n pc Ls (.long b :: .long a :: st)) (hy : b ≠ 0) : W h k n (pc + 1) Ls (.long (a / b) :: st) :=
  H.step r fun A hx hby q => XS.ldiv A hx rfl (hb hby hd) rfl hy q
theorem Wk.idiv (H : Wk l Z y code mx ret R n0 W V) {a b : Int32} (hd : decode code pc = .ok (.idiv, 1)) (r : W h k n pc Ls (.int b :: .int a :: st)) (hy : b ≠ 0) : W h k n (pc + 1) Ls (.int (a / b) :: st) :=
  H.step r fun A hx hby q => XS.idiv A hx rfl (hb hby hd) rfl hy q
theorem Wk.lrem (H : Wk l Z y code mx ret R n0 W V) {a b : Int64} (hd : decode code pc = .ok (.lrem, 1)) (r : W h k n pc Ls (.long b :: .long a :: st)) (hy : b ≠ 0) : W h k n (pc + 1) Ls (.long (a % b) :: st) := by
  rw [← lrem_mod a b]
  exact H.step r fun A hx hby q => XS.lrem A hx rfl (hb hby hd) rfl hy q
theorem Wk.irem (H : Wk l Z y code mx ret R n0 W V) {a b : Int32} (hd : decode code pc = .ok (.irem, 1)) (r : W h k n pc Ls (.int b :: .int a :: st)) (hy : b ≠ 0) : W h k n (pc + 1) Ls (.int (a % b) :: st) :=
  H.stepX r fun X hx hby hml hown hZ eT => ⟨_, X, eT, fun t q => iremM X hx rfl (hb hby hd) rfl hy q⟩
theorem Wk.i2b (H : Wk l Z y code mx ret R n0 W V) {a : Int32} (hd : decode code pc = .ok (.i2b, 1)) (r : W h k n pc Ls (.int a :: st)) : W h k n (pc + 1) Ls (.int (a.toInt8.toInt32) :: st) :=
  H.step r fun A hx hby q => XS.i2b A hx rfl (hb hby hd) rfl q
theorem Wk.i2c (H : Wk l Z y code mx ret R n0 W V) {a : Int32} (hd : decode code pc = .ok (.i2c, 1)) (r : W h k n pc Ls (.int a :: st)) : W h k n (pc + 1) Ls (.int (a.toUInt32.toUInt16.toUInt32.toInt32) :: st) :=
  H.step r fun A hx hby q => XS.i2c A hx rfl (hb hby hd) rfl q
theorem Wk.i2s (H : Wk l Z y code mx ret R n0 W V) {a : Int32} (hd : decode code pc = .ok (.i2s, 1)) (r : W h k n pc Ls (.int a :: st)) : W h k n (pc + 1) Ls (.int (a.toInt16.toInt32) :: st) :=
  H.step r fun A hx hby q => XS.i2s A hx rfl (hb hby hd) rfl q
theorem Wk.i2l (H : Wk l Z y code mx ret R n0 W V) {a : Int32} (hd : decode code pc = .ok (.i2l, 1)) (r : W h k n pc Ls (.int a :: st)) : W h k n (pc + 1) Ls (.long (a.toInt64) :: st) :=
  H.step r fun A hx hby q => XS.i2l A hx rfl (hb hby hd) rfl q
theorem Wk.l2i (H : Wk l Z y code mx ret R n0 W V) {a : Int64} (hd : decode code pc = .ok (.l2i, 1)) (r : W h k n pc Ls (.long a :: st)) : W h k n (pc + 1) Ls (.int (a.toInt32) :: st) :=
  H.step r fun A hx hby q => XS.l2i A hx rfl (hb hby hd) rfl q
theorem Wk.ineg (H : Wk l Z y code mx ret R n0 W V) {a : Int32} (hd : decode code pc = .ok (.ineg, 1)) (r : W h k n pc Ls (.int a :: st)) : W h k n (pc + 1) Ls (.int (-a) :: st) :=
  H.step r fun A hx hby q => XS.ineg A hx rfl (hb hby hd) rfl q
theorem Wk.lcmp (H : Wk l Z y code mx ret R n0 W V) {a b : Int64} (hd : decode code pc = .ok (.lcmp, 1)) (r : W h k n pc Ls (.long b :: .long a :: st)) : W h k n (pc + 1) Ls (.int (lcmpW a b) :: st) :=
  H.step r fun A hx hby q => XS.lcmp A hx rfl (hb hby hd) rfl q
theorem Wk.dup (H : Wk l Z y code mx ret R n0 W V) {v : Value} (hd : decode code pc = .ok (.dup, 1)) (r : W h k n pc Ls (v :: st)) (hc : v.category = 1) : W h k n (pc + 1) Ls (v :: v :: st) :=
  H.step r fun A hx hby q => XS.dup A hx rfl (hb hby hd) rfl hc q
theorem Wk.pop (H : Wk l Z y code mx ret R n0 W V) {v : Value} (hd : decode code pc = .ok (.pop, 1)) (r : W h k n pc Ls (v :: st)) (hc : v.category = 1) : W h k n (pc + 1) Ls (st) :=
  H.step r fun A hx hby q => XS.pop A hx rfl (hb hby hd) rfl hc q
theorem Wk.dupX1 (H : Wk l Z y code mx ret R n0 W V) {v w : Value} (hd : decode code pc = .ok (.dup_x1, 1)) (r : W h k n pc Ls (v :: w :: st)) (hc : v.category = 1) (hc2 : w.category = 1) : W h k n (pc + 1) Ls (v :: w :: v :: st) :=
  H.step r fun A hx hby q => XS.dupX1 A hx rfl (hb hby hd) rfl hc hc2 q
theorem Wk.istoreN (H : Wk l Z y code mx ret R n0 W V) {i : Fin 4} {v : Int32} (hd : decode code pc = .ok (.istore_n i, 1)) (r : W h k n pc Ls (.int v :: st)) (hl : storeLocals Ls i.val (.int v) = some Ls') : W h k n (pc + 1) Ls' (st) :=
  H.step r fun A hx hby q => XS.istoreN A hx rfl (hb hby hd) rfl hl q
theorem Wk.istore (H : Wk l Z y code mx ret R n0 W V) {i : Nat} {v : Int32} (hd : decode code pc = .ok (.istore i, 2)) (r : W h k n pc Ls (.int v :: st)) (hl : storeLocals Ls i (.int v) = some Ls') : W h k n (pc + 2) Ls' (st) :=
  H.step r fun A hx hby q => XS.istore A hx rfl (hb hby hd) rfl hl q
theorem Wk.lstoreN (H : Wk l Z y code mx ret R n0 W V) {i : Fin 4} {v : Int64} (hd : decode code pc = .ok (.lstore_n i, 1)) (r : W h k n pc Ls (.long v :: st)) (hl : storeLocals Ls i.val (.long v) = some Ls') : W h k n (pc + 1) Ls' (st) :=
  H.step r fun A hx hby q => XS.lstoreN A hx rfl (hb hby hd) rfl hl q
theorem Wk.lstore (H : Wk l Z y code mx ret R n0 W V) {i : Nat} {v : Int64} (hd : decode code pc = .ok (.lstore i, 2)) (r : W h k n pc Ls (.long v :: st)) (hl : storeLocals Ls i (.long v) = some Ls') : W h k n (pc + 2) Ls' (st) :=
  H.step r fun A hx hby q => XS.lstore A hx rfl (hb hby hd) rfl hl q
theorem Wk.astoreN (H : Wk l Z y code mx ret R n0 W V) {i : Fin 4} {v : Value} (hd : decode code pc = .ok (.astore_n i, 1)) (r : W h k n pc Ls (v :: st)) (hv : v.isRef = true) (hl : storeLocals Ls i.val v = some Ls') : W h k n (pc + 1) Ls' (st) :=
  H.step r fun A hx hby q => XS.astoreN A hx rfl (hb hby hd) rfl hv hl q
theorem Wk.astore (H : Wk l Z y code mx ret R n0 W V) {i : Nat} {v : Value} (hd : decode code pc = .ok (.astore i, 2)) (r : W h k n pc Ls (v :: st)) (hv : v.isRef = true) (hl : storeLocals Ls i v = some Ls') : W h k n (pc + 2) Ls' (st) :=
  H.step r fun A hx hby q => XS.astore A hx rfl (hb hby hd) rfl hv hl q
theorem Wk.istoreNS (H : Wk l Z y code mx ret R n0 W V) {i : Fin 4} {v : Int32} {o : Slot} (hd : decode code pc = .ok (.istore_n i, 1)) (r : W h k n pc Ls (.int v :: st)) (hold : Ls[i.val]? = some o) (ho : One o) : W h k n (pc + 1) (Ls.setIfInBounds i.val (.val (.int v))) st :=
  H.step r fun A hx hby q => XS.istoreNS A hx rfl (hb hby hd) rfl hold ho q
theorem Wk.istoreS (H : Wk l Z y code mx ret R n0 W V) {i : Nat} {v : Int32} {o : Slot} (hd : decode code pc = .ok (.istore i, 2)) (r : W h k n pc Ls (.int v :: st)) (hold : Ls[i]? = some o) (ho : One o) : W h k n (pc + 2) (Ls.setIfInBounds i (.val (.int v))) st :=
  H.step r fun A hx hby q => XS.istoreS A hx rfl (hb hby hd) rfl hold ho q
theorem Wk.iinc (H : Wk l Z y code mx ret R n0 W V) {i : Nat} {cst : Int} {v z : Int32} (hd : decode code pc = .ok (.iinc i cst, 3)) (r : W h k n pc Ls (st)) (hz : v + Int32.ofInt cst = z) (hl : Ls[i]? = some (.val (.int v))) (hl' : storeLocals Ls i (.int z) = some Ls') : W h k n (pc + 3) Ls' (st) :=
  H.step r fun A hx hby q => XS.iinc A hx rfl (hb hby hd) hl (hz ▸ hl') q
theorem Wk.goto (H : Wk l Z y code mx ret R n0 W V) {o : Int} (hd : decode code pc = .ok (.goto o, 3)) (r : W h k n pc Ls st) (ho : 0 ≤ (pc : Int) + o) (hp : ((pc : Int) + o).toNat = pc') : W h k n pc' Ls st :=
  H.step r fun A hx hby q => XS.goto A hx rfl rfl (hb hby hd) ho hp q
theorem Wk.ifYes (H : Wk l Z y code mx ret R n0 W V) {cd : ClassFile.Cond} {a : Int32} {o : Int} (hd : decode code pc = .ok (.ifCond cd o, 3)) (r : W h k n pc Ls (.int a :: st)) (ho : 0 ≤ (pc : Int) + o) (hp : ((pc : Int) + o).toNat = pc') (hc : if_icmp.holds cd a 0 = true) : W h k n pc' Ls st :=
  H.step r fun A hx hby q => XS.ifYes A hx rfl rfl (hb hby hd) rfl ((if0 cd a).trans hc) ho hp q
theorem Wk.ifNo (H : Wk l Z y code mx ret R n0 W V) {cd : ClassFile.Cond} {a : Int32} {o : Int} (hd : decode code pc = .ok (.ifCond cd o, 3)) (r : W h k n pc Ls (.int a :: st)) (hc : if_icmp.holds cd a 0 = false) : W h k n (pc + 3) Ls st :=
  H.step r fun A hx hby q => XS.ifNo A hx rfl (hb hby hd) rfl ((if0 cd a).trans hc) q
theorem Wk.icmpYes (H : Wk l Z y code mx ret R n0 W V) {cd : ClassFile.Cond} {a b : Int32} {o : Int} (hd : decode code pc = .ok (.if_icmp cd o, 3)) (r : W h k n pc Ls (.int b :: .int a :: st)) (ho : 0 ≤ (pc : Int) + o) (hp : ((pc : Int) + o).toNat = pc') (hc : if_icmp.holds cd a b = true) : W h k n pc' Ls st :=
  H.step r fun A hx hby q => XS.icmpYes A hx rfl rfl (hb hby hd) rfl hc ho hp q
theorem Wk.icmpNo (H : Wk l Z y code mx ret R n0 W V) {cd : ClassFile.Cond} {a b : Int32} {o : Int} (hd : decode code pc = .ok (.if_icmp cd o, 3)) (r : W h k n pc Ls (.int b :: .int a :: st)) (hc : if_icmp.holds cd a b = false) : W h k n (pc + 3) Ls st :=
  H.step r fun A hx hby q => XS.icmpNo A hx rfl (hb hby hd) rfl hc q
theorem Wk.ifnullYes (H : Wk l Z y code mx ret R n0 W V) {o : Int} (hd : decode code pc = .ok (.ifnull o, 3)) (r : W h k n pc Ls (.null :: st)) (ho : 0 ≤ (pc : Int) + o) (hp : ((pc : Int) + o).toNat = pc') : W h k n pc' Ls st :=
  H.step r fun A hx hby q => XS.ifnullYes A hx rfl rfl (hb hby hd) rfl ho hp q
theorem Wk.ifnullNo (H : Wk l Z y code mx ret R n0 W V) {a : Addr} {o : Int} (hd : decode code pc = .ok (.ifnull o, 3)) (r : W h k n pc Ls (.ref a :: st)) : W h k n (pc + 3) Ls st :=
  H.step r fun A hx hby q => XS.ifnullNo A hx rfl (hb hby hd) rfl q
theorem Wk.ifnonnullYes (H : Wk l Z y code mx ret R n0 W V) {a : Addr} {o : Int} (hd : decode code pc = .ok (.ifnonnull o, 3)) (r : W h k n pc Ls (.ref a :: st)) (ho : 0 ≤ (pc : Int) + o) (hp : ((pc : Int) + o).toNat = pc') : W h k n pc' Ls st :=
  H.step r fun A hx hby q => XS.ifnonnullYes A hx rfl rfl (hb hby hd) rfl ho hp q
theorem Wk.ifnonnullNo (H : Wk l Z y code mx ret R n0 W V) {o : Int} (hd : decode code pc = .ok (.ifnonnull o, 3)) (r : W h k n pc Ls (.null :: st)) : W h k n (pc + 3) Ls st :=
  H.step r fun A hx hby q => XS.ifnonnullNo A hx rfl (hb hby hd) rfl q
theorem Wk.acmpYes (H : Wk l Z y code mx ret R n0 W V) {cd : ClassFile.ACond} {a b : Value} {o : Int} (hd : decode code pc = .ok (.if_acmp cd o, 3)) (r : W h k n pc Ls (b :: a :: st)) (ho : 0 ≤ (pc : Int) + o) (hp : ((pc : Int) + o).toNat = pc') (ha : a.isRef = true) (hb' : b.isRef = true) (hc : XT.acmp cd a b = true) : W h k n pc' Ls st :=
  H.step r fun A hx hby q => XT.acmpYes A hx rfl rfl (hb hby hd) rfl ha hb' hc ho hp q
theorem Wk.acmpNo (H : Wk l Z y code mx ret R n0 W V) {cd : ClassFile.ACond} {a b : Value} {o : Int} (hd : decode code pc = .ok (.if_acmp cd o, 3)) (r : W h k n pc Ls (b :: a :: st)) (ha : a.isRef = true) (hb' : b.isRef = true) (hc : XT.acmp cd a b = false) : W h k n (pc + 3) Ls st :=
  H.step r fun A hx hby q => XT.acmpNo A hx rfl (hb hby hd) rfl ha hb' hc q
theorem Wk.lookHit (H : Wk l Z y code mx ret R n0 W V) {z : Int32} {dflt : Int} {pairs : Array (Int × Int)} {len : Nat} {a off : Int} (hsorted : (pairs.toList.zip (pairs.toList.drop 1)).all (fun (a, next) => a.1 < next.1) = true) (hfind : pairs.find? (·.1 == z.toInt) = some (a, off)) (ho : 0 ≤ (pc : Int) + off) (hp : ((pc : Int) + off).toNat = pc') (hd : decode code pc = .ok (.lookupswitch dflt pairs, len)) (r : W h k n pc Ls (.int z :: st)) : W h k n pc' Ls st := by
  subst hp
  exact H.stepX r fun X hx hby hml hown hZ eT => ⟨_, X, eT, fun t q => X.lookupswitchHit hx (g := mkF _ pc Ls (.int z :: st)) rfl rfl (hb hby hd) hsorted hfind ho t q⟩
theorem Wk.lookMiss (H : Wk l Z y code mx ret R n0 W V) {z : Int32} {dflt : Int} {pairs : Array (Int × Int)} {len : Nat} (hsorted : (pairs.toList.zip (pairs.toList.drop 1)).all (fun (a, next) => a.1 < next.1) = true) (hfind : pairs.find? (·.1 == z.toInt) = none) (ho : 0 ≤ (pc : Int) + dflt) (hp : ((pc : Int) + dflt).toNat = pc') (hd : decode code pc = .ok (.lookupswitch dflt pairs, len)) (r : W h k n pc Ls (.int z :: st)) : W h k n pc' Ls st := by
  subst hp
  exact H.stepX r fun X hx hby hml hown hZ eT => ⟨_, X, eT, fun t q => X.lookupswitchMiss hx (g := mkF _ pc Ls (.int z :: st)) rfl rfl (hb hby hd) hsorted hfind ho t q⟩
theorem Wk.getS (H : Wk l Z y code mx ret R n0 W V) {i : Nat} {O nm d : String} {v : Value} (w : (Jvm.Cond.fieldLink y.cls i O nm d).before a0 Z = true) (F : Sta Z h O nm d v) (hd : decode code pc = .ok (.getstatic i, 3)) (r : W h k n pc Ls st) : W h k n (pc + 3) Ls (v :: st) :=
  H.stepX r fun X hx hby hml hown hZ eT => RoadKit.getS X hx hZ (host := "") hown w Via.refl eT F (g := mkF _ pc Ls st) rfl (hb hby hd)
theorem Wk.instY (H : Wk l Z y code mx ret R n0 W V) {i : Nat} {K : String} {a : Addr} (w : (Jvm.Cond.classLink y.cls i K).before a0 Z = true) (F : Ins Z h a K true) (hd : decode code pc = .ok (.instanceof i, 3)) (r : W h k n pc Ls (.ref a :: st)) : W h k n (pc + 3) Ls (.int 1 :: st) :=
  H.stepX r fun X hx hby hml hown hZ eT => RoadKit.instY X hx hZ hown w eT F (g := mkF _ pc Ls (.ref a :: st)) rfl rfl (hb hby hd)
theorem Wk.instNo (H : Wk l Z y code mx ret R n0 W V) {i : Nat} {K C : String} {a : Addr} (w : (Jvm.Cond.classLink y.cls i K).before a0 Z = true) (E : Exa Z h a C) (F : ∃ c t, Z.vm.findClass C = some c ∧ Z.vm.findClass K = some t ∧ Z.vm.assignable c t = false) (hd : decode code pc = .ok (.instanceof i, 3)) (r : W h k n pc Ls (.ref a :: st)) : W h k n (pc + 3) Ls (.int 0 :: st) :=
  H.stepX r fun X hx hby hml hown hZ eT => RoadKit.instNo X hx hZ hown w eT E F (g := mkF _ pc Ls (.ref a :: st)) rfl rfl (hb hby hd)
theorem Wk.instNull (H : Wk l Z y code mx ret R n0 W V) {i : Nat} (hd : decode code pc = .ok (.instanceof i, 3)) (r : W h k n pc Ls (.null :: st)) : W h k n (pc + 3) Ls (.int 0 :: st) :=
  H.stepX r fun X hx hby hml hown hZ eT => ⟨_, X, eT, X.instanceofNull hx (g := mkF _ pc Ls (.null :: st)) rfl rfl (hb hby hd)⟩
theorem Wk.castY (H : Wk l Z y code mx ret R n0 W V) {i : Nat} {K : String} {a : Addr} (w : (Jvm.Cond.classLink y.cls i K).before a0 Z = true) (F : Ins Z h a K true) (hd : decode code pc = .ok (.checkcast i, 3)) (r : W h k n pc Ls (.ref a :: st)) : W h k n (pc + 3) Ls (.ref a :: st) :=
  H.stepX r fun X hx hby hml hown hZ eT => RoadKit.castY X hx hZ hown w eT F (g := mkF _ pc Ls (.ref a :: st)) rfl rfl (hb hby hd)
theorem Wk.castNull (H : Wk l Z y code mx ret R n0 W V) {i : Nat} (hd : decode code pc = .ok (.checkcast i, 3)) (r : W h k n pc Ls (.null :: st)) : W h k n (pc + 3) Ls (.null :: st) :=
  H.stepX r fun X hx hby hml hown hZ eT => ⟨_, X, eT, X.checkcastNull hx (g := mkF _ pc Ls (.null :: st)) rfl rfl (hb hby hd)⟩
theorem Wk.ldcInt (H : Wk l Z y code mx ret R n0 W V) {i : Nat} {v : Int32} (hd : decode code pc = .ok (.ldc i, 2)) (r : W h k n pc Ls st) (w : (Jvm.Cond.constant y.cls i v).before a0 Z = true) : W h k n (pc + 2) Ls (.int v :: st) :=
  H.stepX r fun X hx hby hml hown hZ eT => ⟨_, X, eT, X.ldcInt hx hown (mvT hZ w) (g := mkF _ pc Ls st) rfl (hb hby hd)⟩
theorem Wk.ldcWInt (H : Wk l Z y code mx ret R n0 W V) {i : Nat} {v : Int32} (hd : decode code pc = .ok (.ldc_w i, 3)) (r : W h k n pc Ls st) (w : (Jvm.Cond.constant y.cls i v).before a0 Z = true) : W h k n (pc + 3) Ls (.int v :: st) :=
  H.stepX r fun {p e s m args below meth c T locs} X hx hby hml hown hZ eT => ⟨T, X, eT, fun t q => by
    obtain ⟨kc, cf, bytes, hk, hcf, hcp, hb'⟩ := Cond.constant_spec hown (mvT (args := args) hZ w)
    obtain ⟨k', hk', he⟩ := X.warmed.alike.2.2 _ _ hk
    have hdg := hb hby hd
    show Steps p.tables e below (T.setTop (mkF m pc Ls st)) t
    jvm_step X.here [hx, hdg, ldc_w.wp_int (s := T) (f := mkF m pc Ls st) X.here.top hk' (by rw [he]; exact hcf) hcp, hb']
    exact q⟩
theorem Wk.ldcFloat (H : Wk l Z y code mx ret R n0 W V) {i : Nat} {v : UInt32} (w : (Jvm.Cond.constantFloat y.cls i v).before a0 Z = true) (hd : decode code pc = .ok (.ldc i, 2)) (r : W h k n pc Ls st) : W h k n (pc + 2) Ls (.float v :: st) :=
  H.stepX r fun X hx hby hml hown hZ eT => ⟨_, X, eT, X.ldcFloatC hx hown (mvT hZ w) (g := mkF _ pc Ls st) rfl (hb hby hd)⟩
theorem Wk.ldcLong (H : Wk l Z y code mx ret R n0 W V) {i : Nat} {v : Int64} (hd : decode code pc = .ok (.ldc2_w i, 3)) (r : W h k n pc Ls st) (w : (Jvm.Cond.constantLong y.cls i v).before a0 Z = true) : W h k n (pc + 3) Ls (.long v :: st) :=
  H.stepX r fun X hx hby hml hown hZ eT => ⟨_, X, eT, X.ldc2Long hx hown (mvT hZ w) (g := mkF _ pc Ls st) rfl (hb hby hd)⟩
theorem Wk.getF (H : Wk l Z y code mx ret R n0 W V) {i : Nat} {R0 O nm d host : String} {a : Addr} {v : Value} (w : (Jvm.Cond.fieldLink y.cls i R0 nm d).before a0 Z = true ∨ (Jvm.Cond.fieldLinkNest y.cls i R0 nm d host).before a0 Z = true) (via : Via Z R0 O nm d) (F : Fld Z h a O nm d v) (hd : decode code pc = .ok (.getfield i, 3)) (r : W h k n pc Ls (.ref a :: st)) : W h k n (pc + 3) Ls (v :: st) :=
  H.stepX r fun X hx hby hml hown hZ eT => RoadKit.getF X hx hZ hown w via eT F (g := mkF _ pc Ls (.ref a :: st)) rfl rfl (hb hby hd)
theorem Wk.getF' (H : Wk l Z y code mx ret R n0 W V) {i : Nat} {O nm d : String} {a : Addr} {v : Value} (w : (Jvm.Cond.fieldLink y.cls i O nm d).before a0 Z = true) (F : Fld Z h a O nm d v) (hd : decode code pc = .ok (.getfield i, 3)) (r : W h k n pc Ls (.ref a :: st)) : W h k n (pc + 3) Ls (v :: st) :=
  H.getF (host := "") (Or.inl w) Via.refl F hd r
theorem Wk.putF (H : Wk l Z y code mx ret R n0 W V) {i kk : Nat} {R0 O nm d host C : String} {ty : FieldType} {a : Addr} {v old : Value} (w : (Jvm.Cond.fieldLink y.cls i R0 nm d).before a0 Z = true ∨ (Jvm.Cond.fieldLinkNest y.cls i R0 nm d host).before a0 Z = true) (via : Via Z R0 O nm d) (F : Fld Z h a O nm d old) (E : Exa Z h a C) (L : (Jvm.Cond.lays C O nm d).before a0 Z = true ∨ ((Jvm.Cond.laysFinal C O nm d).before a0 Z = true ∧ y.cls = O ∧ y.name = "<init>")) (wi : (Jvm.Cond.instantiable C kk).before a0 Z = true)
    (hty : parseFieldDescriptor d = some ty) (hn : narrow ty v = v) (hf : fits ty v = true) (hn0 : n0 ≤ a) (hd : decode code pc = .ok (.putfield i, 3)) (r : W h k n pc Ls (v :: .ref a :: st)) : ∃ h', Wr h h' a (Jvm.RoadKit.slotOf Z O nm d) v ∧ W h' k n (pc + 3) Ls st := by
  obtain ⟨p, e, s, m, args, below, meth, c, S0, hx, hby, hml, hown, hZ, hnm, hret, hlk, rfl, rfl⟩ := H
  obtain ⟨T, locs, X, eh, N, sp⟩ := r
  obtain ⟨T', h', X', e', W', q⟩ := RoadKit.putF X hx hZ hown w via eh F E (L.imp id fun u => ⟨u.1, u.2.1, by rw [hnm]; exact u.2.2⟩) wi hty hn hf (g := mkF m pc Ls (v :: .ref a :: st)) rfl rfl (hb hby hd)
  exact ⟨h', W', T', _, X', e', Fr.snoc X' N hn0, fun t u => sp t (q t u)⟩
theorem Wk.newO (H : Wk l Z y code mx ret R n0 W V) {i q : Nat} {C : String} (w : (Jvm.Cond.classLink y.cls i C).before a0 Z = true) (wi : (Jvm.Cond.instantiable C q).before a0 Z = true) (wz : (Jvm.Cond.initialized C).before a0 Z = true) (hc : k + 1 ≤ R.cells) (hl : n + q ≤ R.slots) (hd : decode code pc = .ok (.new i, 3)) (r : W h k n pc Ls st) :
    ∃ h' a, a = h.size ∧ Ext h h' ∧ Exa Z h' a C ∧ (∀ {O nm d : String} {ty : FieldType}, Laid Z a0 C O nm d → parseFieldDescriptor d = some ty → Fld Z h' a O nm d (defaultValue ty)) ∧ (∃ cell : Cell, h'[a]? = some cell ∧ cell.vm = .none ∧ cell.monitor = {}) ∧ W h' (k + 1) (n + q) (pc + 3) Ls (.ref a :: st) := by
  obtain ⟨p, e, s, m, args, below, meth, c, S0, hx, hby, hml, hown, hZ, hnm, hret, hlk, rfl, rfl⟩ := H
  obtain ⟨T, locs, X, eh, N, sp⟩ := r
  obtain ⟨T', h', X', e', E', A', D', U', q'⟩ := RoadKit.newO X hx hZ hown w wi wz eh (g := mkF m pc Ls st) rfl (hb hby hd) hc hl
  exact ⟨h', _, rfl, E', A', D', U', T', _, X', e', N, fun t u => sp t (q' t u)⟩
theorem Wk.newP (H : Wk l Z y code mx ret R n0 W V) {aty : ArrayType} {ty : FieldType} {z : Int32} {cap : Nat} (hty : newarray.typeOf aty = ty) (w : (Jvm.Cond.arrayClass ty).before a0 Z = true) (hn : ¬ z < 0) (hcap : z.toNatClampNeg ≤ cap) (hb8 : cap * 8 ≤ 536870912) (hc : k + 1 ≤ R.cells) (hl : n + cap ≤ R.slots) (hd : decode code pc = .ok (.newarray aty, 2)) (r : W h k n pc Ls (.int z :: st)) :
    ∃ h' a cA, a = h.size ∧ Ext h h' ∧ Arr Z h' a (newA cA ty z) ty ∧ W h' (k + 1) (n + cap) (pc + 2) Ls (.ref a :: st) := by
  subst hty
  obtain ⟨p, e, s, m, args, below, meth, c, S0, hx, hby, hml, hown, hZ, hnm, hret, hlk, rfl, rfl⟩ := H
  obtain ⟨T, locs, X, eh, N, sp⟩ := r
  obtain ⟨T', h', cA, X', e', E', A', q'⟩ := RoadKit.newP X hx hZ w eh (g := mkF m pc Ls (.int z :: st)) rfl (hb hby hd) rfl hn hcap hb8 hc hl
  exact ⟨h', _, cA, rfl, E', A', T', _, X', e', N, fun t u => sp t (q' t u)⟩
theorem Wk.arrLen (H : Wk l Z y code mx ret R n0 W V) {a : Addr} {cl : Cell} {ty : FieldType} {z : Int32} (A : Arr Z h a cl ty) (hz : cl.slots.size.toInt32 = z) (hd : decode code pc = .ok (.arraylength, 1)) (r : W h k n pc Ls (.ref a :: st)) : W h k n (pc + 1) Ls (.int z :: st) := by
  subst hz
  exact H.stepX r fun X hx hby hml hown hZ eT => ⟨_, X, eT, X.arraylength hx (by rw [eT]; exact A.1) (State.isArrayOf_alike hZ.alike A.2.1) (g := mkF _ pc Ls (.ref a :: st)) rfl rfl (hb hby hd)⟩
theorem Wk.iaload (H : Wk l Z y code mx ret R n0 W V) {a : Addr} {cl : Cell} {j : Int32} {v : Value} (A : Arr Z h a cl .int) (hin : ¬ (j < 0 ∨ cl.slots.size ≤ j.toNatClampNeg)) (hv : cl.slots[j.toNatClampNeg]? = some v) (hd : decode code pc = .ok (.iaload, 1)) (r : W h k n pc Ls (.int j :: .ref a :: st)) : W h k n (pc + 1) Ls (v :: st) :=
  H.stepX r fun X hx hby hml hown hZ eT => ⟨_, X, eT, X.iaload hx (by rw [eT]; exact A.1) (State.isArrayOf_alike hZ.alike A.2.1) A.2.2 hin hv (g := mkF _ pc Ls (.int j :: .ref a :: st)) rfl rfl (hb hby hd)⟩
theorem Wk.laload (H : Wk l Z y code mx ret R n0 W V) {a : Addr} {cl : Cell} {j : Int32} {v : Value} (A : Arr Z h a cl .long) (hin : ¬ (j < 0 ∨ cl.slots.size ≤ j.toNatClampNeg)) (hv : cl.slots[j.toNatClampNeg]? = some v) (hd : decode code pc = .ok (.laload, 1)) (r : W h k n pc Ls (.int j :: .ref a :: st)) : W h k n (pc + 1) Ls (v :: st) :=
  H.stepX r fun X hx hby hml hown hZ eT => ⟨_, X, eT, X.laload hx (by rw [eT]; exact A.1) (State.isArrayOf_alike hZ.alike A.2.1) A.2.2 hin hv (g := mkF _ pc Ls (.int j :: .ref a :: st)) rfl rfl (hb hby hd)⟩
theorem Wk.caload (H : Wk l Z y code mx ret R n0 W V) {a : Addr} {cl : Cell} {j : Int32} {v : Value} (A : Arr Z h a cl .char) (hin : ¬ (j < 0 ∨ cl.slots.size ≤ j.toNatClampNeg)) (hv : cl.slots[j.toNatClampNeg]? = some v) (hd : decode code pc = .ok (.caload, 1)) (r : W h k n pc Ls (.int j :: .ref a :: st)) : W h k n (pc + 1) Ls (v :: st) :=
  H.stepX r fun X hx hby hml hown hZ eT => ⟨_, X, eT, X.caload hx (by rw [eT]; exact A.1) (State.isArrayOf_alike hZ.alike A.2.1) A.2.2 hin hv (g := mkF _ pc Ls (.int j :: .ref a :: st)) rfl rfl (hb hby hd)⟩
theorem Wk.baload (H : Wk l Z y code mx ret R n0 W V) {a : Addr} {cl : Cell} {j : Int32} {v : Value} (A : Arr Z h a cl .byte) (hin : ¬ (j < 0 ∨ cl.slots.size ≤ j.toNatClampNeg)) (hv : cl.slots[j.toNatClampNeg]? = some v) (hd : decode code pc = .ok (.baload, 1)) (r : W h k n pc Ls (.int j :: .ref a :: st)) : W h k n (pc + 1) Ls (v :: st) :=
  H.stepX r fun X hx hby hml hown hZ eT => ⟨_, X, eT, X.baloadBytes hx (by rw [eT]; exact A.1) (State.isArrayOf_alike hZ.alike A.2.1) A.2.2 hin hv (g := mkF _ pc Ls (.int j :: .ref a :: st)) rfl rfl (hb hby hd)⟩
theorem Wk.aaload (H : Wk l Z y code mx ret R n0 W V) {a : Addr} {cl : Cell} {ty : FieldType} {j : Int32} {v : Value} (A : Arr Z h a cl ty) (hty : ty.isReference = true) (hin : ¬ (j < 0 ∨ cl.slots.size ≤ j.toNatClampNeg)) (hv : cl.slots[j.toNatClampNeg]? = some v) (hd : decode code pc = .ok (.aaload, 1)) (r : W h k n pc Ls (.int j :: .ref a :: st)) : W h k n (pc + 1) Ls (v :: st) :=
  H.stepX r fun X hx hby hml hown hZ eT => ⟨_, X, eT, X.aaload hx (by rw [eT]; exact A.1) (State.isArrayOf_alike hZ.alike A.2.1) hty A.2.2 hin hv (g := mkF _ pc Ls (.int j :: .ref a :: st)) rfl rfl (hb hby hd)⟩
theorem Wk.stI (H : Wk l Z y code mx ret R n0 W V) {a : Addr} {cl : Cell} {j : Int32} {x : Int32} (A : Arr Z h a cl .int) (hin : ¬ (j < 0 ∨ cl.slots.size ≤ j.toNatClampNeg)) (hn0 : n0 ≤ a) (hd : decode code pc = .ok (.iastore, 1)) (r : W h k n pc Ls (.int x :: .int j :: .ref a :: st)) : ∃ h', Wr h h' a j.toNatClampNeg (.int x) ∧ W h' k n (pc + 1) Ls st := by
  obtain ⟨p, e, s, m, args, below, meth, c, S0, hx, hby, hml, hown, hZ, hnm, hret, hlk, rfl, rfl⟩ := H
  obtain ⟨T, locs, X, eh, N, sp⟩ := r
  obtain ⟨T', h', X', e', W', q⟩ := RoadKit.stI X hx hZ eh A hin (g := mkF m pc Ls (.int x :: .int j :: .ref a :: st)) rfl rfl (hb hby hd)
  exact ⟨h', W', T', _, X', e', Fr.snoc X' N hn0, fun t u => sp t (q t u)⟩
theorem Wk.stJ (H : Wk l Z y code mx ret R n0 W V) {a : Addr} {cl : Cell} {j : Int32} {x : Int64} (A : Arr Z h a cl .long) (hin : ¬ (j < 0 ∨ cl.slots.size ≤ j.toNatClampNeg)) (hn0 : n0 ≤ a) (hd : decode code pc = .ok (.lastore, 1)) (r : W h k n pc Ls (.long x :: .int j :: .ref a :: st)) : ∃ h', Wr h h' a j.toNatClampNeg (.long x) ∧ W h' k n (pc + 1) Ls st := by
  obtain ⟨p, e, s, m, args, below, meth, c, S0, hx, hby, hml, hown, hZ, hnm, hret, hlk, rfl, rfl⟩ := H
  obtain ⟨T, locs, X, eh, N, sp⟩ := r
  obtain ⟨T', h', X', e', W', q⟩ := RoadKit.stJ X hx hZ eh A hin (g := mkF m pc Ls (.long x :: .int j :: .ref a :: st)) rfl rfl (hb hby hd)
  exact ⟨h', W', T', _, X', e', Fr.snoc X' N hn0, fun t u => sp t (q t u)⟩
theorem Wk.stC (H : Wk l Z y code mx ret R n0 W V) {a : Addr} {cl : Cell} {j : Int32} {x : Int32} (A : Arr Z h a cl .char) (hin : ¬ (j < 0 ∨ cl.slots.size ≤ j.toNatClampNeg)) (hn0 : n0 ≤ a) (hd : decode code pc = .ok (.castore, 1)) (r : W h k n pc Ls (.int x :: .int j :: .ref a :: st)) : ∃ h', Wr h h' a j.toNatClampNeg (.int (nar .char x)) ∧ W h' k n (pc + 1) Ls st := by
  obtain ⟨p, e, s, m, args, below, meth, c, S0, hx, hby, hml, hown, hZ, hnm, hret, hlk, rfl, rfl⟩ := H
  obtain ⟨T, locs, X, eh, N, sp⟩ := r
  obtain ⟨T', h', X', e', W', q⟩ := RoadKit.stC X hx hZ eh A hin (g := mkF m pc Ls (.int x :: .int j :: .ref a :: st)) rfl rfl (hb hby hd)
  exact ⟨h', W', T', _, X', e', Fr.snoc X' N hn0, fun t u => sp t (q t u)⟩
theorem Wk.stB (H : Wk l Z y code mx ret R n0 W V) {a : Addr} {cl : Cell} {j : Int32} {x : Int32} (A : Arr Z h a cl .byte) (hin : ¬ (j < 0 ∨ cl.slots.size ≤ j.toNatClampNeg)) (hn0 : n0 ≤ a) (hd : decode code pc = .ok (.bastore, 1)) (r : W h k n pc Ls (.int x :: .int j :: .ref a :: st)) : ∃ h', Wr h h' a j.toNatClampNeg (.int (nar .byte x)) ∧ W h' k n (pc + 1) Ls st := by
  obtain ⟨p, e, s, m, args, below, meth, c, S0, hx, hby, hml, hown, hZ, hnm, hret, hlk, rfl, rfl⟩ := H
  obtain ⟨T, locs, X, eh, N, sp⟩ := r
  obtain ⟨T', h', X', e', W', q⟩ := RoadKit.stB X hx hZ eh A hin (g := mkF m pc Ls (.int x :: .int j :: .ref a :: st)) rfl rfl (hb hby hd)
  exact ⟨h', W', T', _, X', e', Fr.snoc X' N hn0, fun t u => sp t (q t u)⟩
theorem Wk.initO (H : Wk l Z y code mx ret R n0 W V) {i w : Nat} {a : Addr} (w1 : (Jvm.Cond.methodLink y.cls i Lib.objectInit).before a0 Z = true) (w2 : (Jvm.Cond.instanceMethod Lib.objectInit).before a0 Z = true) (w3 : (Jvm.Cond.code Lib.objectInit ⟨#[0xb1]⟩ 1 none).before a0 Z = true) (hsz : Ls.size = mx) (hf : 1 ≤ R.frames) (hw : (st.map fun v => v.category).sum ≤ w) (hl : w + 12 ≤ R.locals) (hd : decode code pc = .ok (.invokespecial i, 3)) (r : W h k n pc Ls (.ref a :: st)) : W h k n (pc + 3) Ls st :=
  H.stepX r fun X hx hby hml hown hZ eT => RoadKit.initO X hx hZ hown w1 w2 w3 eT (g := mkF _ pc Ls (.ref a :: st)) rfl (by rw [hml]; exact hsz) rfl (hb hby hd) hf (by show 2 * 0 + _ ≤ _; omega) hl
variable {y' : MethodName} {bytes' : ByteArray} {mx' : Nat} {ret' : Option FieldType} {rm' : Room} {as' : Array Value} {Q : Option Value → Heap → Prop} {i w : Nat} {ps : List FieldType} {rt : Option FieldType} {argsL rest : List Value}
theorem Wk.callS (H : Wk l Z y code mx ret R n0 W V) (w1 : (Jvm.Cond.methodLink y.cls i y').before a0 Z = true) (w2 : (Jvm.Cond.static y').before a0 Z = true) (w3 : (Jvm.Cond.initialized y'.cls).before a0 Z = true) (w4 : (Jvm.Cond.code y' bytes' mx' ret').before a0 Z = true) (hy : y'.cls ≠ "java/lang/invoke/MethodHandle" ∧ y'.cls ≠ "java/lang/invoke/VarHandle")
    (hpd : parseMethodDescriptor y'.desc = some ⟨ps, rt⟩) (hf : rm'.frames + 1 ≤ R.frames) (hl : w + (mx' + 11) + rm'.locals ≤ R.locals) (hc : k + rm'.cells ≤ R.cells) (hn : n + rm'.slots ≤ R.slots) (hM : Ct l Z y' bytes' mx' ret' rm' n0 argsL.toArray h Q) (hlen : argsL.length = ps.length) (hsz : Ls.size = mx) (hw : (rest.map fun v => v.category).sum ≤ w) (hst : st = argsL.reverse ++ rest) (hd : decode code pc = .ok (.invokestatic i, 3)) (r : W h k n pc Ls st) :
    ∃ v h', Q v h' ∧ W h' (k + rm'.cells) (n + rm'.slots) (pc + 3) Ls (v.toList ++ rest) := by
  subst hst
  obtain ⟨p, e, s, m, args, below, meth, c, S0, hx, hby, hml, hown, hZ, hnm, hret, hlk, rfl, rfl⟩ := H
  obtain ⟨T, locs, X, eh, N, sp⟩ := r
  obtain ⟨v, _, ⟨T1, L1, k1, n1⟩, -, X1, ⟨Lc, hQ, g1, g2, g3⟩, st1⟩ := Jvm.LawKit.callS X hx (y := y') hown (mvT hZ w1) (mvT hZ w2) (mvT hZ w3) (mvT hZ w4) hy (backOf (W := w) (Q := fun v hh L => Q v hh ∧ Fr n0 L) (hM []) hZ w4 w3 hf hl) (g := mkF m pc Ls (argsL.reverse ++ rest)) rfl (by rw [hml]; exact hsz) (argsL := argsL) (rest := rest) (lenOf hpd hlen) rfl (by show 2 * 0 + _ ≤ _; omega) (hb hby hd) (fun _ _ => ⟨rfl, eh, hc, hn⟩)
  dsimp only [Pt.U, Pt.locs, Pt.cells, Pt.slots] at X1 g1 g2 g3 st1 hQ
  subst g1 g2 g3
  exact ⟨v, T1.heap, hQ.1, T1, _, X1, rfl, Fr.app N hQ.2, fun t u => sp t (st1 t u)⟩
theorem Wk.callI (H : Wk l Z y code mx ret R n0 W V) {a : Addr} (hi : y'.name = "<init>") (w1 : (Jvm.Cond.methodLink y.cls i y').before a0 Z = true) (w2 : (Jvm.Cond.instanceMethod y').before a0 Z = true) (w3 : (Jvm.Cond.initialized y'.cls).before a0 Z = true) (w4 : (Jvm.Cond.code y' bytes' mx' none).before a0 Z = true) (hy : y'.cls ≠ "java/lang/invoke/MethodHandle" ∧ y'.cls ≠ "java/lang/invoke/VarHandle")
    (hpd : parseMethodDescriptor y'.desc = some ⟨ps, rt⟩) (hf : rm'.frames + 1 ≤ R.frames) (hl : w + (mx' + 11) + rm'.locals ≤ R.locals) (hc : k + rm'.cells ≤ R.cells) (hn : n + rm'.slots ≤ R.slots) (hM : Ct l Z y' bytes' mx' none rm' n0 (.ref a :: argsL).toArray h Q) (hlen : argsL.length = ps.length) (hsz : Ls.size = mx) (hw : (rest.map fun v => v.category).sum ≤ w) (hst : st = argsL.reverse ++ .ref a :: rest) (hd : decode code pc = .ok (.invokespecial i, 3)) (r : W h k n pc Ls st) :
    ∃ v h', Q v h' ∧ W h' (k + rm'.cells) (n + rm'.slots) (pc + 3) Ls (v.toList ++ rest) := by
  subst hst
  obtain ⟨p, e, s, m, args, below, meth, c, S0, hx, hby, hml, hown, hZ, hnm, hret, hlk, rfl, rfl⟩ := H
  obtain ⟨T, locs, X, eh, N, sp⟩ := r
  obtain ⟨v, _, ⟨T1, L1, k1, n1⟩, -, X1, ⟨Lc, hQ, g1, g2, g3⟩, st1⟩ := X.specialBack hx (y := y') hi hown (mvT hZ w1) (mvT hZ w2) (mvT hZ w4) hy (backOf (W := w) (Q := fun v hh L => Q v hh ∧ Fr n0 L) (hM []) hZ w4 w3 hf hl) (g := mkF m pc Ls (argsL.reverse ++ .ref a :: rest)) rfl (by rw [hml]; exact hsz) (Steps.refl _) (a := a) (argsL := argsL) (rest := rest) (lenOf hpd hlen) rfl (by show 2 * 0 + _ ≤ _; omega) (hb hby hd) (fun _ _ => ⟨rfl, eh, hc, hn⟩)
  dsimp only [Pt.U, Pt.locs, Pt.cells, Pt.slots] at X1 g1 g2 g3 st1 hQ
  subst g1 g2 g3
  exact ⟨v, T1.heap, hQ.1, T1, _, X1, rfl, Fr.app N hQ.2, fun t u => sp t (st1.trans u)⟩
theorem Wk.callV (H : Wk l Z y code mx ret R n0 W V) {a : Addr} {C : String} {z' : MethodName} (w1 : (Jvm.Cond.methodLink y.cls i z').before a0 Z = true) (w2 : (Jvm.Cond.declares z').before a0 Z = true) (nf : NF Z a0 z') (w5 : (Jvm.Cond.selects C z' y').before a0 Z = true) (w6 : (Jvm.Cond.instanceMethod y').before a0 Z = true) (w3 : (Jvm.Cond.initialized y'.cls).before a0 Z = true) (w4 : (Jvm.Cond.code y' bytes' mx' ret').before a0 Z = true) (hy : z'.cls ≠ "java/lang/invoke/MethodHandle" ∧ z'.cls ≠ "java/lang/invoke/VarHandle")
    (hpd : parseMethodDescriptor z'.desc = some ⟨ps, rt⟩) (hf : rm'.frames + 1 ≤ R.frames) (hl : w + (mx' + 11) + rm'.locals ≤ R.locals) (hc : k + rm'.cells ≤ R.cells) (hn : n + rm'.slots ≤ R.slots) (E : Exa Z h a C) (hM : Ct l Z y' bytes' mx' ret' rm' n0 (.ref a :: argsL).toArray h Q) (hlen : argsL.length = ps.length) (hsz : Ls.size = mx) (hw : (rest.map fun v => v.category).sum ≤ w) (hst : st = argsL.reverse ++ .ref a :: rest) (hd : decode code pc = .ok (.invokevirtual i, 3)) (r : W h k n pc Ls st) :
    ∃ v h', Q v h' ∧ W h' (k + rm'.cells) (n + rm'.slots) (pc + 3) Ls (v.toList ++ rest) := by
  subst hst
  obtain ⟨p, e, s, m, args, below, meth, c, S0, hx, hby, hml, hown, hZ, hnm, hret, hlk, rfl, rfl⟩ := H
  obtain ⟨T, locs, X, eh, N, sp⟩ := r
  obtain ⟨cq, kq, qa, qb, qc⟩ := isOf (s := s) (T := T) hZ eh E
  obtain ⟨v, _, ⟨T1, L1, k1, n1⟩, -, X1, ⟨Lc, hQ, g1, g2, g3⟩, st1⟩ := X.virtualBack hx (y := z') (z := y') hown (mvT hZ w1) (mvT hZ w2) (nf.at hZ) (mvT hZ w5) (mvT hZ w6) hy (backOf (W := w) (Q := fun v hh L => Q v hh ∧ Fr n0 L) (hM []) hZ w4 w3 hf hl) qa qc (g := mkF m pc Ls (argsL.reverse ++ .ref a :: rest)) rfl (by rw [hml]; exact hsz) (Steps.refl _) (argsL := argsL) (rest := rest) (lenOf hpd hlen) rfl (by show 2 * 0 + _ ≤ _; omega) (hb hby hd) (fun _ _ => ⟨rfl, eh, hc, hn⟩)
  dsimp only [Pt.U, Pt.locs, Pt.cells, Pt.slots] at X1 g1 g2 g3 st1 hQ
  subst g1 g2 g3
  exact ⟨v, T1.heap, hQ.1, T1, _, X1, rfl, Fr.app N hQ.2, fun t u => sp t (st1.trans u)⟩
theorem Wk.callSP (H : Wk l Z y code mx ret R n0 W V) {v0 : Option Value} (w1 : (Jvm.Cond.methodLink y.cls i y').before a0 Z = true) (w2 : (Jvm.Cond.static y').before a0 Z = true) (w3 : (Jvm.Cond.initialized y'.cls).before a0 Z = true) (w4 : (Jvm.Cond.code y' bytes' mx' ret').before a0 Z = true) (hy : y'.cls ≠ "java/lang/invoke/MethodHandle" ∧ y'.cls ≠ "java/lang/invoke/VarHandle")
    (hpd : parseMethodDescriptor y'.desc = some ⟨ps, rt⟩) (hf : rm'.frames + 1 ≤ R.frames) (hl : w + (mx' + 11) + rm'.locals ≤ R.locals) (hc : k + rm'.cells ≤ R.cells) (hn : n + rm'.slots ≤ R.slots) (hM : Ct l Z y' bytes' mx' ret' rm' n0 argsL.toArray h (fun v h' => v = v0 ∧ h' = h)) (hlen : argsL.length = ps.length) (hsz : Ls.size = mx) (hw : (rest.map fun v => v.category).sum ≤ w) (hst : st = argsL.reverse ++ rest) (hd : decode code pc = .ok (.invokestatic i, 3)) (r : W h k n pc Ls st) :
    W h (k + rm'.cells) (n + rm'.slots) (pc + 3) Ls (v0.toList ++ rest) := by
  obtain ⟨v, h', ⟨e1, e2⟩, r'⟩ := H.callS w1 w2 w3 w4 hy hpd hf hl hc hn hM hlen hsz hw hst hd r
  rw [← e1, ← e2]
  rw [e2] at r' ⊢
  exact r'
theorem Wk.callVP (H : Wk l Z y code mx ret R n0 W V) {v0 : Option Value} {a : Addr} {C : String} {z' : MethodName} (w1 : (Jvm.Cond.methodLink y.cls i z').before a0 Z = true) (w2 : (Jvm.Cond.declares z').before a0 Z = true) (nf : NF Z a0 z') (w5 : (Jvm.Cond.selects C z' y').before a0 Z = true) (w6 : (Jvm.Cond.instanceMethod y').before a0 Z = true) (w3 : (Jvm.Cond.initialized y'.cls).before a0 Z = true) (w4 : (Jvm.Cond.code y' bytes' mx' ret').before a0 Z = true) (hy : z'.cls ≠ "java/lang/invoke/MethodHandle" ∧ z'.cls ≠ "java/lang/invoke/VarHandle")
    (hpd : parseMethodDescriptor z'.desc = some ⟨ps, rt⟩) (hf : rm'.frames + 1 ≤ R.frames) (hl : w + (mx' + 11) + rm'.locals ≤ R.locals) (hc : k + rm'.cells ≤ R.cells) (hn : n + rm'.slots ≤ R.slots) (E : Exa Z h a C) (hM : Ct l Z y' bytes' mx' ret' rm' n0 (.ref a :: argsL).toArray h (fun v h' => v = v0 ∧ h' = h)) (hlen : argsL.length = ps.length) (hsz : Ls.size = mx) (hw : (rest.map fun v => v.category).sum ≤ w) (hst : st = argsL.reverse ++ .ref a :: rest) (hd : decode code pc = .ok (.invokevirtual i, 3)) (r : W h k n pc Ls st) :
    W h (k + rm'.cells) (n + rm'.slots) (pc + 3) Ls (v0.toList ++ rest) := by
  obtain ⟨v, h', ⟨e1, e2⟩, r'⟩ := H.callV w1 w2 nf w5 w6 w3 w4 hy hpd hf hl hc hn E hM hlen hsz hw hst hd r
  rw [← e1, ← e2]
  rw [e2] at r' ⊢
  exact r'
theorem Wk.retV (H : Wk l Z y code mx ret R n0 W V) {v : Value} {t : FieldType} {ins : Instr} (ht : ret = some t) (hn' : narrow t v = v) (hi : (ins = .ireturn ∧ (t = .int ∨ t = .boolean ∨ t = .byte ∨ t = .char ∨ t = .short) ∧ ∃ z, v = .int z) ∨ (ins = .lreturn ∧ t = .long ∧ ∃ z, v = .long z) ∨ (ins = .dreturn ∧ t = .double ∧ ∃ z, v = .double z) ∨ (ins = .freturn ∧ t = .float ∧ ∃ z, v = .float z) ∨ (ins = .areturn ∧ t.isReference = true ∧ v.isRef = true))
    (hk : k ≤ R.cells) (hn : n ≤ R.slots) (hd : decode code pc = .ok (ins, 1)) (r : W h k n pc Ls (v :: st)) : V (some v) h := by
  obtain ⟨p, e, s, m, args, below, meth, c, S0, hx, hby, hml, hown, hZ, hnm, hret, hlk, rfl, rfl⟩ := H
  obtain ⟨T, locs, X, eh, N, sp⟩ := r
  have hrt : meth.sig.returnType = some t := hret.trans ht
  obtain ⟨fs, hr, hrun, hended, hW, hsame⟩ := X.leave (v := some v) (fun q => by rw [hrt] at q; cases q) hlk
  exact ⟨_, locs, sp _ (retOut X hx hrt hn' hi (hb hby hd) hr), hrun, hended, eh, N, ⟨_, rfl⟩, hW, hsame.mono hk hn⟩
theorem Wk.retI (H : Wk l Z y code mx ret R n0 W V) {z : Int32} (ht : ret = some .int) (hk : k ≤ R.cells) (hn : n ≤ R.slots) (hd : decode code pc = .ok (.ireturn, 1)) (r : W h k n pc Ls (.int z :: st)) : V (some (.int z)) h :=
  H.retV ht rfl (Or.inl ⟨rfl, Or.inl rfl, z, rfl⟩) hk hn hd r
theorem Wk.retJ (H : Wk l Z y code mx ret R n0 W V) {z : Int64} (ht : ret = some .long) (hk : k ≤ R.cells) (hn : n ≤ R.slots) (hd : decode code pc = .ok (.lreturn, 1)) (r : W h k n pc Ls (.long z :: st)) : V (some (.long z)) h :=
  H.retV ht rfl (Or.inr (Or.inl ⟨rfl, rfl, z, rfl⟩)) hk hn hd r
theorem Wk.retZ (H : Wk l Z y code mx ret R n0 W V) {z z' : Int32} (hz : z &&& 1 = z') (ht : ret = some .boolean) (hk : k ≤ R.cells) (hn : n ≤ R.slots) (hd : decode code pc = .ok (.ireturn, 1)) (r : W h k n pc Ls (.int z :: st)) : V (some (.int z')) h := by
  subst hz
  obtain ⟨p, e, s, m, args, below, meth, c, S0, hx, hby, hml, hown, hZ, hnm, hret, hlk, rfl, rfl⟩ := H
  obtain ⟨T, locs, X, eh, N, sp⟩ := r
  have hrt : meth.sig.returnType = some .boolean := hret.trans ht
  obtain ⟨fs, hr, hrun, hended, hW, hsame⟩ := X.leave (v := some (.int (nar .boolean z))) (fun q => by rw [hrt] at q; cases q) hlk
  exact ⟨_, locs, sp _ (retN X hx hrt (by simp) (hb hby hd) hr), hrun, hended, eh, N, ⟨_, rfl⟩, hW, hsame.mono hk hn⟩
theorem Wk.retB (H : Wk l Z y code mx ret R n0 W V) {z z' : Int32} (hz : z.toInt8.toInt32 = z') (ht : ret = some .byte) (hk : k ≤ R.cells) (hn : n ≤ R.slots) (hd : decode code pc = .ok (.ireturn, 1)) (r : W h k n pc Ls (.int z :: st)) : V (some (.int z')) h := by
  subst hz
  obtain ⟨p, e, s, m, args, below, meth, c, S0, hx, hby, hml, hown, hZ, hnm, hret, hlk, rfl, rfl⟩ := H
  obtain ⟨T, locs, X, eh, N, sp⟩ := r
  have hrt : meth.sig.returnType = some .byte := hret.trans ht
  obtain ⟨fs, hr, hrun, hended, hW, hsame⟩ := X.leave (v := some (.int (nar .byte z))) (fun q => by rw [hrt] at q; cases q) hlk
  exact ⟨_, locs, sp _ (retN X hx hrt (by simp) (hb hby hd) hr), hrun, hended, eh, N, ⟨_, rfl⟩, hW, hsame.mono hk hn⟩
theorem Wk.retC (H : Wk l Z y code mx ret R n0 W V) {z z' : Int32} (hz : z.toUInt32.toUInt16.toUInt32.toInt32 = z') (ht : ret = some .char) (hk : k ≤ R.cells) (hn : n ≤ R.slots) (hd : decode code pc = .ok (.ireturn, 1)) (r : W h k n pc Ls (.int z :: st)) : V (some (.int z')) h := by
  subst hz
  obtain ⟨p, e, s, m, args, below, meth, c, S0, hx, hby, hml, hown, hZ, hnm, hret, hlk, rfl, rfl⟩ := H
  obtain ⟨T, locs, X, eh, N, sp⟩ := r
  have hrt : meth.sig.returnType = some .char := hret.trans ht
  obtain ⟨fs, hr, hrun, hended, hW, hsame⟩ := X.leave (v := some (.int (nar .char z))) (fun q => by rw [hrt] at q; cases q) hlk
  exact ⟨_, locs, sp _ (retN X hx hrt (by simp) (hb hby hd) hr), hrun, hended, eh, N, ⟨_, rfl⟩, hW, hsame.mono hk hn⟩
theorem Wk.retR (H : Wk l Z y code mx ret R n0 W V) {v : Value} {t : FieldType} (ht : ret = some t) (htr : t.isReference = true) (hv : v.isRef = true) (hk : k ≤ R.cells) (hn : n ≤ R.slots) (hd : decode code pc = .ok (.areturn, 1)) (r : W h k n pc Ls (v :: st)) : V (some v) h :=
  H.retV ht (by cases v <;> simp [Value.isRef] at hv <;> cases t <;> simp [FieldType.isReference] at htr <;> rfl) (Or.inr (Or.inr (Or.inr (Or.inr ⟨rfl, htr, hv⟩)))) hk hn hd r
theorem Wk.retN (H : Wk l Z y code mx ret R n0 W V) (ht : ret = none) (hk : k ≤ R.cells) (hn : n ≤ R.slots) (hd : decode code pc = .ok (.return_, 1)) (r : W h k n pc Ls []) : V none h := by
  obtain ⟨p, e, s, m, args, below, meth, c, S0, hx, hby, hml, hown, hZ, hnm, hret, hlk, rfl, rfl⟩ := H
  obtain ⟨T, locs, X, eh, N, sp⟩ := r
  have hrt : meth.sig.returnType = none := hret.trans ht
  obtain ⟨fs, hr, hrun, hended, hW, hsame⟩ := X.leave (v := none) (fun _ => rfl) hlk
  exact ⟨_, locs, sp _ (X.returnOut hx hrt (hb hby hd) hr), hrun, hended, eh, N, ⟨_, rfl⟩, hW, hsame.mono hk hn⟩
end Steps
end Jvm.OwnW
namespace Jvm.OwnW
open Jvm Jvm.ClassFile Sem Op Lib Jvm.Free Jvm.Stand Jvm.LawKit Jvm.RoadKit Bundle
/-- an array at a, of components ty, that holds just vs -/
def Ary (Z : State) (h : Heap) (a : Addr) (ty : FieldType) (vs : List Value) : Prop := ∃ c : Cell, Arr Z h a c ty ∧ c.slots = vs.toArray
section Arrays
variable {l : Launch} {Z : State} {y : MethodName} {code : ByteArray} {mx : Nat} {ret : Option FieldType} {R : Room} {n0 : Nat} {W : WT} {V : VT} {h h' : Heap} {k n pc : Nat} {Ls : Array Slot} {st : List Value} {a0 : Array Value} {a b : Addr} {ty : FieldType} {vs : List Value} {ws : List Addr} {sl : Nat} {v : Value}
theorem Ary.lt (A : Ary Z h a ty vs) : a < h.size := by obtain ⟨c, A, -⟩ := A; exact A.lt
theorem Ary.ext (A : Ary Z h a ty vs) (E : Ext h h') : Ary Z h' a ty vs := by obtain ⟨c, A, q⟩ := A; exact ⟨c, A.ext E, q⟩
theorem Ary.other (A : Ary Z h b ty vs) (w : Wr h h' a sl v) (ne : b ≠ a) : Ary Z h' b ty vs := by obtain ⟨c, A, q⟩ := A; exact ⟨c, A.other w ne, q⟩
theorem Ary.keep (A : Ary Z h a ty vs) (K : Keep h h' ws) (q : a ∉ ws) : Ary Z h' a ty vs := by obtain ⟨c, A, r⟩ := A; exact ⟨c, ⟨K.2.1 a c A.1 q, A.2⟩, r⟩
theorem Ary.same (A : Ary Z h a ty vs) (w : Wr h h' a sl v) : Ary Z h' a ty (vs.set sl v) := by
  obtain ⟨c, A, q⟩ := A
  refine ⟨_, A.same w, ?_⟩
  show c.slots.setIfInBounds sl v = _
  rw [q, List.setIfInBounds_toArray]
theorem idx_ok {j : Int32} {i : Nat} (hj : j.toInt = i) : j.toNatClampNeg = i ∧ ¬ j < 0 := by
  refine ⟨?_, ?_⟩
  · show j.toInt.toNat = i
    rw [hj]; rfl
  · rw [Int32.lt_iff_toInt_lt, hj, Int32.toInt_zero]
    omega
theorem idx_in' {j : Int32} {i : Nat} (hj : j.toInt = i) {c : Cell} (q : c.slots = vs.toArray) (hi : i < vs.length) : ¬ (j < 0 ∨ c.slots.size ≤ j.toNatClampNeg) := by
  obtain ⟨h1, h2⟩ := idx_ok hj
  rw [h1, q, List.size_toArray]
  exact fun u => u.elim h2 (fun u => by omega)
theorem Wk.newA (H : Wk l Z y code mx ret R n0 W V) {aty : ArrayType} {z : Int32} {cap i : Nat} {d : Value} (hty : newarray.typeOf aty = ty) (hdv : defaultValue ty = d) (w : (Jvm.Cond.arrayClass ty).before a0 Z = true) (hz : z.toInt = i) (hcap : i ≤ cap) (hb8 : cap * 8 ≤ 536870912) (hc : k + 1 ≤ R.cells) (hl : n + cap ≤ R.slots) (hd : decode code pc = .ok (.newarray aty, 2)) (r : W h k n pc Ls (.int z :: st)) :
    ∃ h' a, a = h.size ∧ Ext h h' ∧ Ary Z h' a ty (List.replicate i d) ∧ W h' (k + 1) (n + cap) (pc + 2) Ls (.ref a :: st) := by
  obtain ⟨h1, h2⟩ := idx_ok hz
  obtain ⟨h', a, cA, e, E, A, r'⟩ := H.newP hty w h2 (by rw [h1]; exact hcap) hb8 hc hl hd r
  refine ⟨h', a, e, E, ⟨_, A, ?_⟩, r'⟩
  show Array.replicate z.toNatClampNeg (defaultValue ty) = _
  rw [h1, hdv, List.toArray_replicate]
theorem Wk.newAE (H : Wk l Z y code mx ret R n0 W V) {aty : ArrayType} {z : Int32} {cap i : Nat} {d : Value} {ad : String} (hty : newarray.typeOf aty = ty) (hdv : defaultValue ty = d) (had : "[" ++ ty.toString = ad) (w : (Jvm.Cond.arrayClass ty).before a0 Z = true) (hz : z.toInt = i) (hcap : i ≤ cap) (hb8 : cap * 8 ≤ 536870912) (hc : k + 1 ≤ R.cells) (hl : n + cap ≤ R.slots) (hd : decode code pc = .ok (.newarray aty, 2)) (r : W h k n pc Ls (.int z :: st)) :
    ∃ h' a, a = h.size ∧ Ext h h' ∧ Ary Z h' a ty (List.replicate i d) ∧ Exa Z h' a ad ∧ W h' (k + 1) (n + cap) (pc + 2) Ls (.ref a :: st) := by
  obtain ⟨h1, h2⟩ := idx_ok hz
  subst hty
  obtain ⟨p, e, s, m, args, below, meth, c, S0, hx, hby, hml, hown, hZ, hnm, hret, hlk, rfl, rfl⟩ := H
  obtain ⟨T, locs, X, eh, N, sp⟩ := r
  obtain ⟨T', h', cA, X', e', E', A', EX, q'⟩ := RoadKit.newPE X hx hZ w eh (g := mkF m pc Ls (.int z :: st)) rfl (hb hby hd) rfl h2 (by rw [h1]; exact hcap) hb8 hc hl had
  refine ⟨h', _, rfl, E', ⟨_, A', ?_⟩, EX, T', _, X', e', N, fun t u => sp t (q' t u)⟩
  show Array.replicate z.toNatClampNeg (defaultValue (newarray.typeOf aty)) = _
  rw [h1, hdv, List.toArray_replicate]
theorem Wk.cloneA (H : Wk l Z y code mx ret R n0 W V) {i w cap : Nat} {ad : String} (w1 : (Jvm.Cond.methodLink y.cls i ⟨ad, "clone", "()Ljava/lang/Object;"⟩).before a0 Z = true) (w2 : (Jvm.Cond.sameMethod ad "java/lang/Object" "clone" "()Ljava/lang/Object;").before a0 Z = true) (w3 : (Jvm.Cond.native ⟨"java/lang/Object", "clone", "()Ljava/lang/Object;"⟩).before a0 Z = true)
    (w4 : (Jvm.Cond.instanceMethod ⟨"java/lang/Object", "clone", "()Ljava/lang/Object;"⟩).before a0 Z = true) (w5 : (Jvm.Cond.selects ad ⟨ad, "clone", "()Ljava/lang/Object;"⟩ ⟨"java/lang/Object", "clone", "()Ljava/lang/Object;"⟩).before a0 Z = true) (w6 : (Jvm.Cond.castable ad "java/lang/Cloneable").before a0 Z = true)
    (A : Ary Z h a ty vs) (E : Exa Z h a ad) (hfit : ∀ v ∈ vs, fits ty v = true) (hsz : Ls.size = mx) (hf : 1 ≤ R.frames) (hw : (st.map fun v => v.category).sum ≤ w) (hl : w + 14 ≤ R.locals) (hcap : vs.length ≤ cap) (hc : k + 1 ≤ R.cells) (hsl : n + cap ≤ R.slots) (hd : decode code pc = .ok (.invokevirtual i, 3)) (r : W h k n pc Ls (.ref a :: st)) :
    ∃ h' b, b = h.size ∧ Ext h h' ∧ Ary Z h' b ty vs ∧ Exa Z h' b ad ∧ W h' (k + 1) (n + cap) (pc + 3) Ls (.ref b :: st) := by
  obtain ⟨p, e, s, m, args, below, meth, c, S0, hx, hby, hml, hown, hZ, hnm, hret, hlk, rfl, rfl⟩ := H
  obtain ⟨T, locs, X, eh, N, sp⟩ := r
  obtain ⟨cl, Ar, q⟩ := A
  have hF : FitC Z cl := fitC_of Ar (fun j hj v hv => hfit v (by rw [q, List.getElem?_toArray] at hv; exact List.mem_of_getElem? hv))
  obtain ⟨T', h', X', e', E', A', EX, q'⟩ := RoadKit.cloneA X hx hZ hown w1 w2 w3 w4 w5 w6 eh Ar E hF (g := mkF m pc Ls (.ref a :: st)) rfl (by rw [hml]; exact hsz) rfl (hb hby hd) hf (by show 2 * 0 + _ ≤ _; omega) hl (by rw [q, List.size_toArray]; exact hcap) hc hsl
  exact ⟨h', _, rfl, E', ⟨_, A', q⟩, EX, T', _, X', e', N, fun t u => sp t (q' t u)⟩
theorem Wk.lenA (H : Wk l Z y code mx ret R n0 W V) {z : Int32} (A : Ary Z h a ty vs) (hz : vs.length.toInt32 = z) (hd : decode code pc = .ok (.arraylength, 1)) (r : W h k n pc Ls (.ref a :: st)) : W h k n (pc + 1) Ls (.int z :: st) := by
  obtain ⟨c, A, q⟩ := A
  exact H.arrLen A (by rw [q, List.size_toArray]; exact hz) hd r
theorem Wk.ldI (H : Wk l Z y code mx ret R n0 W V) {j : Int32} {i : Nat} (A : Ary Z h a .int vs) (hj : j.toInt = i) (hv : vs[i]? = some v) (hd : decode code pc = .ok (.iaload, 1)) (r : W h k n pc Ls (.int j :: .ref a :: st)) : W h k n (pc + 1) Ls (v :: st) := by
  obtain ⟨c, A, q⟩ := A
  obtain ⟨h1, h2⟩ := idx_ok hj
  exact H.iaload A (idx_in' hj q (List.getElem?_eq_some_iff.mp hv).1) (by rw [h1, q, List.getElem?_toArray]; exact hv) hd r
theorem Wk.ldJ (H : Wk l Z y code mx ret R n0 W V) {j : Int32} {i : Nat} (A : Ary Z h a .long vs) (hj : j.toInt = i) (hv : vs[i]? = some v) (hd : decode code pc = .ok (.laload, 1)) (r : W h k n pc Ls (.int j :: .ref a :: st)) : W h k n (pc + 1) Ls (v :: st) := by
  obtain ⟨c, A, q⟩ := A
  obtain ⟨h1, h2⟩ := idx_ok hj
  exact H.laload A (idx_in' hj q (List.getElem?_eq_some_iff.mp hv).1) (by rw [h1, q, List.getElem?_toArray]; exact hv) hd r
theorem Wk.ldC (H : Wk l Z y code mx ret R n0 W V) {j : Int32} {i : Nat} (A : Ary Z h a .char vs) (hj : j.toInt = i) (hv : vs[i]? = some v) (hd : decode code pc = .ok (.caload, 1)) (r : W h k n pc Ls (.int j :: .ref a :: st)) : W h k n (pc + 1) Ls (v :: st) := by
  obtain ⟨c, A, q⟩ := A
  obtain ⟨h1, h2⟩ := idx_ok hj
  exact H.caload A (idx_in' hj q (List.getElem?_eq_some_iff.mp hv).1) (by rw [h1, q, List.getElem?_toArray]; exact hv) hd r
theorem Wk.ldB (H : Wk l Z y code mx ret R n0 W V) {j : Int32} {i : Nat} (A : Ary Z h a .byte vs) (hj : j.toInt = i) (hv : vs[i]? = some v) (hd : decode code pc = .ok (.baload, 1)) (r : W h k n pc Ls (.int j :: .ref a :: st)) : W h k n (pc + 1) Ls (v :: st) := by
  obtain ⟨c, A, q⟩ := A
  obtain ⟨h1, h2⟩ := idx_ok hj
  exact H.baload A (idx_in' hj q (List.getElem?_eq_some_iff.mp hv).1) (by rw [h1, q, List.getElem?_toArray]; exact hv) hd r
theorem Wk.putI (H : Wk l Z y code mx ret R n0 W V) {j : Int32} {i : Nat} {x : Int32} (A : Ary Z h a .int vs) (hj : j.toInt = i) (hi : i < vs.length) (hn0 : n0 ≤ a) (hd : decode code pc = .ok (.iastore, 1)) (r : W h k n pc Ls (.int x :: .int j :: .ref a :: st)) : ∃ h', Wr h h' a i (.int x) ∧ Ary Z h' a .int (vs.set i (.int x)) ∧ W h' k n (pc + 1) Ls st := by
  obtain ⟨h1, h2⟩ := idx_ok hj
  obtain ⟨c, A', q⟩ := id A
  obtain ⟨h', w, r'⟩ := H.stI A' (idx_in' hj q hi) hn0 hd r
  rw [h1] at w
  exact ⟨h', w, A.same w, r'⟩
theorem Wk.putJ (H : Wk l Z y code mx ret R n0 W V) {j : Int32} {i : Nat} {x : Int64} (A : Ary Z h a .long vs) (hj : j.toInt = i) (hi : i < vs.length) (hn0 : n0 ≤ a) (hd : decode code pc = .ok (.lastore, 1)) (r : W h k n pc Ls (.long x :: .int j :: .ref a :: st)) : ∃ h', Wr h h' a i (.long x) ∧ Ary Z h' a .long (vs.set i (.long x)) ∧ W h' k n (pc + 1) Ls st := by
  obtain ⟨h1, h2⟩ := idx_ok hj
  obtain ⟨c, A', q⟩ := id A
  obtain ⟨h', w, r'⟩ := H.stJ A' (idx_in' hj q hi) hn0 hd r
  rw [h1] at w
  exact ⟨h', w, A.same w, r'⟩
theorem Wk.putC (H : Wk l Z y code mx ret R n0 W V) {j : Int32} {i : Nat} {x : Int32} {z : Int32} (hz : x.toUInt32.toUInt16.toUInt32.toInt32 = z) (A : Ary Z h a .char vs) (hj : j.toInt = i) (hi : i < vs.length) (hn0 : n0 ≤ a) (hd : decode code pc = .ok (.castore, 1)) (r : W h k n pc Ls (.int x :: .int j :: .ref a :: st)) : ∃ h', Wr h h' a i (.int z) ∧ Ary Z h' a .char (vs.set i (.int z)) ∧ W h' k n (pc + 1) Ls st := by
  subst hz
  obtain ⟨h1, h2⟩ := idx_ok hj
  obtain ⟨c, A', q⟩ := id A
  obtain ⟨h', w, r'⟩ := H.stC A' (idx_in' hj q hi) hn0 hd r
  rw [h1] at w
  exact ⟨h', w, A.same w, r'⟩
theorem Wk.putB (H : Wk l Z y code mx ret R n0 W V) {j : Int32} {i : Nat} {x : Int32} {z : Int32} (hz : x.toInt8.toInt32 = z) (A : Ary Z h a .byte vs) (hj : j.toInt = i) (hi : i < vs.length) (hn0 : n0 ≤ a) (hd : decode code pc = .ok (.bastore, 1)) (r : W h k n pc Ls (.int x :: .int j :: .ref a :: st)) : ∃ h', Wr h h' a i (.int z) ∧ Ary Z h' a .byte (vs.set i (.int z)) ∧ W h' k n (pc + 1) Ls st := by
  subst hz
  obtain ⟨h1, h2⟩ := idx_ok hj
  obtain ⟨c, A', q⟩ := id A
  obtain ⟨h', w, r'⟩ := H.stB A' (idx_in' hj q hi) hn0 hd r
  rw [h1] at w
  exact ⟨h', w, A.same w, r'⟩
end Arrays
theorem ns_root {Z : State} {a0 : Array Value} {O K : String} {q : Nat} (w : (Jvm.Cond.noSuperclass O).before a0 Z = true) (wk : (Jvm.Cond.instantiable K q).before a0 Z = true) (hn : O ≠ K) : NS Z O K := by
  obtain ⟨c, k, h1, h2, h3, -, -⟩ := Cond.noSuperclass_spec w
  obtain ⟨t, k', g1, g2, -⟩ := Cond.instantiable_spec wk
  have ne := ids_ne h1 g1 hn
  refine ⟨c, t, h1, g1, fun fuel => ?_⟩
  cases fuel with
  | zero => rfl
  | succ f => simp [Vm.isSubclassAux, ne, h2, h3]
theorem ns_no {Z : State} {a0 : Array Value} {C S K : String} {q : Nat} (w : (Jvm.Cond.superclass C S).before a0 Z = true) (wk : (Jvm.Cond.instantiable K q).before a0 Z = true) (n : NS Z C K) (hn : C ≠ K) : ∃ c t, Z.vm.findClass C = some c ∧ Z.vm.findClass K = some t ∧ Z.vm.assignable c t = false := by
  obtain ⟨c, t, h0, g0, n3⟩ := n
  obtain ⟨p, k, kp, h1, h2, h3, h4, h5, -, h7⟩ := Cond.superclass_spec h0 w
  obtain ⟨t', k', g1, g2, g5, g7, -⟩ := Cond.instantiable_spec wk
  cases g0.symm.trans g1
  have ne := ids_ne h0 g0 hn
  have g8 : k'.isInterface = false := by cases hh : k'.isInterface <;> simp [hh] at g7 ⊢
  refine ⟨c, t, h0, g0, ?_⟩
  show Z.vm.assignableAux (255 + 1) c t = false
  simp [Vm.assignableAux, ne, h2, g2, h5, g5, g8, Vm.isSubclass, n3]
/-- (k & 0x7fffffff) % m as a natural -/
theorem own_modn (k : Int32) (m : Nat) (h0 : 0 < m) (hm : m < 2147483648) : ∃ i : Nat, i < m ∧ (k &&& (2147483647 : Int32)) % Int32.ofNat m = Int32.ofNat i := by
  have h1 : (k &&& (2147483647 : Int32)).toInt = k.toInt % (2 ^ 31 : Nat) := c_mask k _ 31 (by decide) (by decide)
  have hM : (Int32.ofNat m).toInt = (m : Int) := Int32.toInt_ofNat_of_lt (by omega)
  have h2 := (c_irem (k &&& (2147483647 : Int32)) (Int32.ofNat m) m hM).1 (by rw [h1]; omega)
  have h3 : 0 ≤ (k &&& (2147483647 : Int32)).toInt % (m : Int) := Int.emod_nonneg _ (by omega)
  have h4 : (k &&& (2147483647 : Int32)).toInt % (m : Int) < m := Int.emod_lt_of_pos _ (by omega)
  refine ⟨((k &&& (2147483647 : Int32)) % Int32.ofNat m).toInt.toNat, by omega, ?_⟩
  apply Int32.toInt_inj.mp
  rw [Int32.toInt_ofNat_of_lt (by omega)]
  omega
theorem own_ofNat {i : Nat} (hi : i < 2147483648) : (Int32.ofNat i).toInt = (i : Int) := Int32.toInt_ofNat_of_lt (by omega)
theorem own_ltN {i j : Nat} (hi : i < 2147483648) (hj : j < 2147483648) : Int32.ofNat i < Int32.ofNat j ↔ i < j := by
  rw [Int32.lt_iff_toInt_lt, own_ofNat hi, own_ofNat hj]
  omega
theorem own_eqN {i j : Nat} (hi : i < 2147483648) (hj : j < 2147483648) : Int32.ofNat i = Int32.ofNat j ↔ i = j := by
  rw [← Int32.toInt_inj, own_ofNat hi, own_ofNat hj]
  omega
theorem own_nn {n : Nat} (hn : n < 2147483648) : ¬ Int32.ofNat n < 0 := by
  rw [Int32.lt_iff_toInt_lt, own_ofNat hn, show (0 : Int32).toInt = 0 from rfl]
  omega
theorem own_pred {n : Nat} (hp : 0 < n) (hn : n < 2147483648) : (Int32.ofNat n - (1 : Int32)).toInt = ((n - 1 : Nat) : Int) := by
  have h2 := c_isub (Int32.ofNat n) (1 : Int32)
  have r2 := rng32 (Int32.ofNat n - (1 : Int32))
  rw [own_ofNat hn, show (1 : Int32).toInt = 1 from rfl] at h2
  omega
theorem own_succ (i : Nat) : Int32.ofNat i + (1 : Int32) = Int32.ofNat (i + 1) := (Int32.ofNat_add i 1).symm
end Jvm.OwnW

namespace Jvm.OwnS
open Jvm Jvm.ClassFile Sem Op Lib Jvm.Free Jvm.Stand Jvm.LawKit Jvm.RoadKit Bundle Jvm.OwnW
/-- s is s0 with later tables: at most string constants have been resolved and interned since -/
def Base (Z s0 s : State) (own : String) (h : Heap) (Ts : List String × Option (Nat × Addr)) : Prop := ∃ (vm0 : Vm) (k0 : Nat), s = s0.setVm vm0 ∧ s0.Since vm0 k0 ∧ k0 ≤ h.size ∧ IB Z vm0 Ts.1 ∧ ∀ i a, Ts.2 = some (i, a) → Lit s own i a
theorem Base.mono {Z s0 s : State} {own : String} {h h' : Heap} {Ts : List String × Option (Nat × Addr)} (B : Base Z s0 s own h Ts) (q : h.size ≤ h'.size) : Base Z s0 s own h' Ts := by
  obtain ⟨vm0, k0, e, S, hk, I, J⟩ := B
  exact ⟨vm0, k0, e, S, Nat.le_trans hk q, I, J⟩
theorem Base.fin {Z s0 s : State} {own : String} {h : Heap} {Ts : List String × Option (Nat × Addr)} {U : State} {L : List Loc} {k n : Nat} (B : Base Z s0 s own h Ts) (eh : U.heap = h) (hW : s.WarmedH U.vm) (hs : s.sameButNew ({ U with vm := s.vm } : State) L k n) : s0.Warmed39 U.vm ∧ s0.Booked U.vm U.heap.size ∧ s0.sameButNew ({ U with vm := s0.vm } : State) L k n := by
  obtain ⟨vm0, k0, rfl, S, hk, I, J⟩ := B
  exact S.ended hW (by rw [eh]; exact hk) hs
def At1 (p : Program) (l : Launch) (e : Env) (R : Room) (Z s0 : State) (m : MethodId) (args : Array Value) (below : List Frame) (meth : Method) (c : Code) (y : MethodName) (n0 : Nat) (S0 : State) (Ts : List String × Option (Nat × Addr)) (h : Heap) (k n pc : Nat) (Ls : Array Slot) (st : List Value) : Prop :=
  ∃ (s T : State) (locs : List Loc), Stand p l e R s m args below meth c T locs k n ∧ T.heap = h ∧ Fr n0 locs ∧ s.vm.findClass y.cls = some m.cls ∧ Z.Warmed39 s.vm ∧ Base Z s0 s y.cls h Ts ∧ ∀ t, Steps p.tables e below (T.setTop (mkF m pc Ls st)) t → Steps p.tables e below S0 t
def End1 (p : Program) (e : Env) (R : Room) (s0 : State) (below : List Frame) (n0 : Nat) (S0 : State) (v : Option Value) (h : Heap) : Prop :=
  ∃ (s₂ : State) (L : List Loc), Steps p.tables e below S0 s₂ ∧ s₂.status = .running ∧ Ended s₂ below (.returned v) ∧ s₂.heap = h ∧ Fr n0 L ∧ (∃ w : Option Value, Outcome.returned v = .returned w) ∧ s0.Warmed39 s₂.vm ∧ s0.Booked s₂.vm s₂.heap.size ∧ s0.sameButNew ({ s₂ with vm := s0.vm } : State) L R.cells R.slots
abbrev WTS := (List String × Option (Nat × Addr)) → Heap → Nat → Nat → Nat → Array Slot → List Value → Prop
/-- W and V are of one walk of the body of y; the start Z is the walk's own -/
def WkS (l : Launch) (Z : State) (y : MethodName) (code : ByteArray) (mx : Nat) (ret : Option FieldType) (R : Room) (n0 : Nat) (W : WTS) (V : VT) : Prop :=
  ∃ (p : Program) (e : Env) (s0 : State) (m : MethodId) (args : Array Value) (below : List Frame) (meth : Method) (c : Code) (S0 : State),
    p.tables.exec = Jvm.exec ∧ c.code = code ∧ c.maxLocals = mx ∧ meth.name = y.name ∧ meth.sig.returnType = ret ∧ meth.locks = false ∧ (s0.heap = Z.heap ∧ n0 = s0.heap.size) ∧
    W = At1 p l e R Z s0 m args below meth c y n0 S0 ∧ V = End1 p e R s0 below n0 S0
/-- a contract with the wide end -/
def CtW (l : Launch) (Z : State) (y : MethodName) (bytes : ByteArray) (mx : Nat) (ret : Option FieldType) (rm : Room) (as : Array Value) (Q : Option Value → Heap → Prop) : Prop :=
  ∀ ws : List Jvm.Cond, MetFree l y (head1 (Jvm.Cond.code y bytes mx ret :: ws) rm) (fun a U => a = as ∧ Z.Warmed39 U.vm ∧ U.heap = Z.heap ∧ IB Z U.vm []) (fun _ _ _ _ _ => True) (fun _ U o U' => ∃ v L, o = .returned v ∧ (Q v U'.heap ∧ Fr Z.heap.size L) ∧ (∃ w, o = .returned w) ∧ U.Warmed39 U'.vm ∧ U.Booked U'.vm U'.heap.size ∧ U.sameButNew ({ U' with vm := U.vm } : State) L rm.cells rm.slots)
theorem CtW.of {l : Launch} {Z : State} {y : MethodName} {bytes : ByteArray} {mx : Nat} {ret : Option FieldType} {rm : Room} {as : Array Value} {Q : Option Value → Heap → Prop} {Ls : Array Slot} (hpn : plainFor y = true) (hef : ∀ m, entryFrame m as mx = mkF m 0 Ls [])
    (body : ∀ W V, WkS l Z y bytes mx ret rm Z.heap.size W V → W ([], none) Z.heap 0 0 0 Ls [] → ∃ v h', V v h' ∧ Q v h') : CtW l Z y bytes mx ret rm as Q := by
  intro ws
  refine MetFree.of_bodySF hpn hisR ?_
  intro p e s m args below meth c s₁ Bd hml0 hP hK
  obtain ⟨rfl, hZ, hh, hI⟩ := hP
  have X0 : Stand p l e rm s m args below meth c s₁ [] 0 0 := Stand.of_body Bd
  have e0 : s₁.heap = Z.heap := by rw [← hh, Bd.state]; rfl
  obtain ⟨v, h', ⟨s₂, L, g1, g2, g3, g4, g5, g6⟩, hQ⟩ := body _ _ ⟨p, e, s, m, args, below, meth, c, s₁.setTop (entryFrame m args mx), Bd.exec, Bd.bytes, hml0, (name_of_methodNamed Bd.named Bd.method).1, Bd.returns, Bd.notSynchronized, ⟨hh, by rw [hh]⟩, rfl, rfl⟩
    ⟨s, s₁, [], X0, e0, Fr.nil _, findClass_of_methodNamed Bd.named, hZ, ⟨s.vm, 0, rfl, (State.WarmedH.refl s).since 0, Nat.zero_le _, hI, fun _ _ q => by first | cases q | simp at q⟩, fun t k => castTop (hef m) k⟩
  exact ⟨s₂, _, g1, g2, g3, v, L, rfl, ⟨by rw [g4]; exact hQ, g5⟩, g6⟩
section Steps
variable {l : Launch} {Z : State} {y : MethodName} {code : ByteArray} {mx : Nat} {ret : Option FieldType} {R : Room} {n0 : Nat} {W : WTS} {Ts : List String × Option (Nat × Addr)} {V : VT} {h : Heap} {k n pc pc' : Nat} {Ls Ls' : Array Slot} {st st' : List Value} {a0 : Array Value}
/-- a plain step, by the library's law for it -/
theorem WkS.step (H : WkS l Z y code mx ret R n0 W V) (r : W Ts h k n pc Ls st)
    (f : ∀ {tb : Tables} [Ours tb] {e : Env} {below : List Frame} {T t : State} {m : MethodId} {c : Code}, At T m c below → tb.exec = Jvm.exec → c.code = code → Steps tb e below (T.setTop (mkF m pc' Ls' st')) t → Steps tb e below (T.setTop (mkF m pc Ls st)) t) : W Ts h k n pc' Ls' st' := by
  obtain ⟨p, e, s0, m, args, below, meth, c, S0, hx, hby, hml, hnm, hret, hlk, hZs, rfl, rfl⟩ := H
  obtain ⟨s, T, locs, X, eh, N, hown, hZ, hB, sp⟩ := r
  exact ⟨s, T, locs, X, eh, N, hown, hZ, hB, fun t q => sp t (f X.here hx hby q)⟩
/-- the account of cells and slots may be widened -/
theorem WkS.more (H : WkS l Z y code mx ret R n0 W V) {k' n' : Nat} (hk : k ≤ k') (hn : n ≤ n') (r : W Ts h k n pc Ls st) : W Ts h k' n' pc Ls st := by
  obtain ⟨p, e, s0, m, args, below, meth, c, S0, hx, hby, hml, hnm, hret, hlk, hZs, rfl, rfl⟩ := H
  obtain ⟨s, T, locs, X, eh, N, hown, hZ, hB, sp⟩ := r
  exact ⟨s, T, locs, X.mono hk hn, eh, N, hown, hZ, hB, sp⟩
/-- a step that reads the tables or the heap -/
theorem WkS.stepX (H : WkS l Z y code mx ret R n0 W V) (r : W Ts h k n pc Ls st)
    (f : ∀ {p : Program} {e : Env} {s : State} {m : MethodId} {args : Array Value} {below : List Frame} {meth : Method} {c : Code} {T : State} {locs : List Loc}, Stand p l e R s m args below meth c T locs k n → p.tables.exec = Jvm.exec → c.code = code → c.maxLocals = mx → s.vm.findClass y.cls = some m.cls → Z.Warmed39 s.vm → T.heap = h → ∃ T', Stand p l e R s m args below meth c T' locs k n ∧ T'.heap = h ∧ ∀ t, Steps p.tables e below (T'.setTop (mkF m pc' Ls' st')) t → Steps p.tables e below (T.setTop (mkF m pc Ls st)) t) : W Ts h k n pc' Ls' st' := by
  obtain ⟨p, e, s0, m, args, below, meth, c, S0, hx, hby, hml, hnm, hret, hlk, hZs, rfl, rfl⟩ := H
  obtain ⟨s, T, locs, X, eh, N, hown, hZ, hB, sp⟩ := r
  obtain ⟨T', X', e', q⟩ := f X hx hby hml hown hZ eh
  exact ⟨s, T', locs, X', e', N, hown, hZ, hB, fun t u => sp t (q t u)⟩
theorem WkS.aloadN (H : WkS l Z y code mx ret R n0 W V) {i : Fin 4} {v : Value} (hd : decode code pc = .ok (.aload_n i, 1)) (r : W Ts h k n pc Ls (st)) (hl : Ls[i.val]? = some (.val v)) (hv : v.isRef = true) : W Ts h k n (pc + 1) Ls (v :: st) :=
  H.step r fun A hx hby q => XS.aloadN A hx rfl (hb hby hd) hl hv q
theorem WkS.aload (H : WkS l Z y code mx ret R n0 W V) {i : Nat} {v : Value} (hd : decode code pc = .ok (.aload i, 2)) (r : W Ts h k n pc Ls (st)) (hl : Ls[i]? = some (.val v)) (hv : v.isRef = true) : W Ts h k n (pc + 2) Ls (v :: st) :=
  H.step r fun A hx hby q => XS.aload A hx rfl (hb hby hd) hl hv q
theorem WkS.iloadN (H : WkS l Z y code mx ret R n0 W V) {i : Fin 4} {v : Int32} (hd : decode code pc = .ok (.iload_n i, 1)) (r : W Ts h k n pc Ls (st)) (hl : Ls[i.val]? = some (.val (.int v))) : W Ts h k n (pc + 1) Ls (.int v :: st) :=
  H.step r fun A hx hby q => XS.iloadN A hx rfl (hb hby hd) hl q
theorem WkS.iload (H : WkS l Z y code mx ret R n0 W V) {i : Nat} {v : Int32} (hd : decode code pc = .ok (.iload i, 2)) (r : W Ts h k n pc Ls (st)) (hl : Ls[i]? = some (.val (.int v))) : W Ts h k n (pc + 2) Ls (.int v :: st) :=
  H.step r fun A hx hby q => XS.iload A hx rfl (hb hby hd) hl q
theorem WkS.lloadN (H : WkS l Z y code mx ret R n0 W V) {i : Fin 4} {v : Int64} (hd : decode code pc = .ok (.lload_n i, 1)) (r : W Ts h k n pc Ls (st)) (hl : Ls[i.val]? = some (.val (.long v))) : W Ts h k n (pc + 1) Ls (.long v :: st) :=
  H.step r fun A hx hby q => XS.lloadN A hx rfl (hb hby hd) hl q
theorem WkS.lload (H : WkS l Z y code mx ret R n0 W V) {i : Nat} {v : Int64} (hd : decode code pc = .ok (.lload i, 2)) (r : W Ts h k n pc Ls (st)) (hl : Ls[i]? = some (.val (.long v))) : W Ts h k n (pc + 2) Ls (.long v :: st) :=
  H.step r fun A hx hby q => XS.lload A hx rfl (hb hby hd) hl q
theorem WkS.floadN (H : WkS l Z y code mx ret R n0 W V) {i : Fin 4} {v : UInt32} (hd : decode code pc = .ok (.fload_n i, 1)) (r : W Ts h k n pc Ls (st)) (hl : Ls[i.val]? = some (.val (.float v))) : W Ts h k n (pc + 1) Ls (.float v :: st) :=
  H.step r fun A hx hby q => XS.floadN A hx rfl (hb hby hd) hl q
theorem WkS.iconst (H : WkS l Z y code mx ret R n0 W V) {i : Int} {z : Int32} (hd : decode code pc = .ok (.iconst i, 1)) (r : W Ts h k n pc Ls st) (hz : Int32.ofInt i = z) : W Ts h k n (pc + 1) Ls (.int z :: st) := by
  subst hz
  exact H.step r fun A hx hby q => XS.iconst A hx rfl (hb hby hd) q
theorem WkS.bipush (H : WkS l Z y code mx ret R n0 W V) {i : Int} {z : Int32} (hd : decode code pc = .ok (.bipush i, 2)) (r : W Ts h k n pc Ls st) (hz : (Int8.ofInt i).toInt32 = z) : W Ts h k n (pc + 2) Ls (.int z :: st) := by
  subst hz
  exact H.step r fun A hx hby q => XS.bipush A hx rfl (hb hby hd) q
theorem WkS.sipush (H : WkS l Z y code mx ret R n0 W V) {i : Int} {z : Int32} (hd : decode code pc = .ok (.sipush i, 3)) (r : W Ts h k n pc Ls st) (hz : (Int16.ofInt i).toInt32 = z) : W Ts h k n (pc + 3) Ls (.int z :: st) := by
  subst hz
  exact H.step r fun A hx hby q => XS.sipush A hx rfl (hb hby hd) q
theorem WkS.lconst (H : WkS l Z y code mx ret R n0 W V) {i : Fin 2} {z : Int64} (hd : decode code pc = .ok (.lconst i, 1)) (r : W Ts h k n pc Ls st) (hz : Int64.ofNat i = z) : W Ts h k n (pc + 1) Ls (.long z :: st) := by
  subst hz
  exact H.step r fun A hx hby q => XS.lconst A hx rfl (hb hby hd) q
theorem WkS.fconst0 (H : WkS l Z y code mx ret R n0 W V) {v : UInt32} (hd : decode code pc = .ok (.fconst 0, 1)) (r : W Ts h k n pc Ls st) (hv : FP.fconst0 = v) : W Ts h k n (pc + 1) Ls (.float v :: st) :=
  H.step r fun A hx hby q => XS.fconst0 A hx rfl (hb hby hd) hv q
theorem WkS.fcmp (H : WkS l Z y code mx ret R n0 W V) {o : CmpOp} {x z : UInt32} {v : Int32} (hd : decode code pc = .ok (.fcmp o, 1)) (r : W Ts h k n pc Ls (.float z :: .float x :: st)) (hv : cmpValue (FP.fcmp x z) o = v) : W Ts h k n (pc + 1) Ls (.int v :: st) :=
  H.step r fun A hx hby q => XS.fcmpS A hx rfl (hb hby hd) rfl hv q
theorem WkS.aconstNull (H : WkS l Z y code mx ret R n0 W V) (hd : decode code pc = .ok (.aconst_null, 1)) (r : W Ts h k n pc Ls (st)) : W Ts h k n (pc + 1) Ls (.null :: st) :=
  H.step r fun A hx hby q => XS.aconstNull A hx rfl (hb hby hd)  q
theorem WkS.iadd (H : WkS l Z y code mx ret R n0 W V) {a b : Int32} (hd : decode code pc = .ok (.iadd, 1)) (r : W Ts h k n pc Ls (.int b :: .int a :: st)) : W Ts h k n (pc + 1) Ls (.int (a + b) :: st) :=
  H.step r fun A hx hby q => XS.iadd A hx rfl (hb hby hd) rfl q
theorem WkS.isub (H : WkS l Z y code mx ret R n0 W V) {a b : Int32} (hd : decode code pc = .ok (.isub, 1)) (r : W Ts h k n pc Ls (.int b :: .int a :: st)) : W Ts h k n (pc + 1) Ls (.int (a - b) :: st) :=
  H.step r fun A hx hby q => XS.isub A hx rfl (hb hby hd) rfl q
theorem WkS.iand (H : WkS l Z y code mx ret R n0 W V) {a b : Int32} (hd : decode code pc = .ok (.iand, 1)) (r : W Ts h k n pc Ls (.int b :: .int a :: st)) : W Ts h k n (pc + 1) Ls (.int (a &&& b) :: st) :=
  H.step r fun A hx hby q => XS.iand A hx rfl (hb hby hd) rfl q
theorem WkS.imul (H : WkS l Z y code mx ret R n0 W V) {a b : Int32} (hd : decode code pc = .ok (.imul, 1)) (r : W Ts h k n pc Ls (.int b :: .int a :: st)) : W Ts h k n (pc + 1) Ls (.int (a * b) :: st) :=
  H.step r fun A hx hby q => XS.imul A hx rfl (hb hby hd) rfl q
theorem WkS.ior (H : WkS l Z y code mx ret R n0 W V) {a b : Int32} (hd : decode code pc = .ok (.ior, 1)) (r : W Ts h k n pc Ls (.int b :: .int a :: st)) : W Ts h k n (pc + 1) Ls (.int (a ||| b) :: st) :=
  H.step r fun A hx hby q => XS.ior A hx rfl (hb hby hd) rfl q
theorem WkS.ixor (H : WkS l Z y code mx ret R n0 W V) {a b : Int32} (hd : decode code pc = .ok (.ixor, 1)) (r : W Ts h k n pc Ls (.int b :: .int a :: st)) : W Ts h k n (pc + 1) Ls (.int (a ^^^ b) :: st) :=
  H.step r fun A hx hby q => XS.ixor A hx rfl (hb hby hd) rfl q
theorem WkS.ishl (H : WkS l Z y code mx ret R n0 W V) {a b : Int32} (hd : decode code pc = .ok (.ishl, 1)) (r : W Ts h k n pc Ls (.int b :: .int a :: st)) : W Ts h k n (pc + 1) Ls (.int (a <<< (b &&& 31)) :: st) :=
  H.step r fun A hx hby q => XS.ishl A hx rfl (hb hby hd) rfl q
theorem WkS.ishr (H : WkS l Z y code mx ret R n0 W V) {a b : Int32} (hd : decode code pc = .ok (.ishr, 1)) (r : W Ts h k n pc Ls (.int b :: .int a :: st)) : W Ts h k n (pc + 1) Ls (.int (a >>> (b &&& 31)) :: st) :=
  H.step r fun A hx hby q => XS.ishr A hx rfl (hb hby hd) rfl q
theorem WkS.iushr (H : WkS l Z y code mx ret R n0 W V) {a b : Int32} (hd : decode code pc = .ok (.iushr, 1)) (r : W Ts h k n pc Ls (.int b :: .int a :: st)) : W Ts h k n (pc + 1) Ls (.int ((a.toUInt32 >>> (b &&& 31).toUInt32).toInt32) :: st) :=
  H.step r fun A hx hby q => XS.iushr A hx rfl (hb hby hd) rfl q
theorem WkS.ladd (H : WkS l Z y code mx ret R n0 W V) {a b : Int64} (hd : decode code pc = .ok (.ladd, 1)) (r : W Ts h k n pc Ls (.long b :: .long a :: st)) : W Ts h k n (pc + 1) Ls (.long (a + b) :: st) :=
  H.step r fun A hx hby q => XS.ladd A hx rfl (hb hby hd) rfl q
theorem WkS.lsub (H : WkS l Z y code mx ret R n0 W V) {a b : Int64} (hd : decode code pc = .ok (.lsub, 1)) (r : W Ts h k n pc Ls (.long b :: .long a :: st)) : W Ts h k n (pc + 1) Ls (.long (a - b) :: st) :=
  H.step r fun A hx hby q => XS.lsub A hx rfl (hb hby hd) rfl q
theorem WkS.lmul (H : WkS l Z y code mx ret R n0 W V) {a b : Int64} (hd : decode code pc = .ok (.lmul, 1)) (r : W Ts h k n pc Ls (.long b :: .long a :: st)) : W Ts h k n (pc + 1) Ls (.long (a * b) :: st) :=
  H.step r fun A hx hby q => XS.lmul A hx rfl (hb hby hd) rfl q
theorem WkS.land (H : WkS l Z y code mx ret R n0 W V) {a b : Int64} (hd : decode code pc = .ok (.land, 1)) (r : W Ts h k n pc Ls (.long b :: .long a :: st)) : W Ts h k n (pc + 1) Ls (.long (a &&& b) :: st) :=
  H.step r fun A hx hby q => XS.land A hx rfl (hb hby hd) rfl q
theorem WkS.lor (H : WkS l Z y code mx ret R n0 W V) {a b : Int64} (hd : decode code pc = .ok (.lor, 1)) (r : W Ts h k n pc Ls (.long b :: .long a :: st)) : W Ts h k n (pc + 1) Ls (.long (a ||| b) :: st) :=
  H.step r fun A hx hby q => XS.lor A hx rfl (hb hby hd) rfl q
theorem WkS.lxor (H : WkS l Z y code mx ret R n0 W V) {a b : Int64} (hd : decode code pc = .ok (.lxor, 1)) (r : W Ts h k n pc Ls (.long b :: .long a :: st)) : W Ts h k n (pc + 1) Ls (.long (a ^^^ b) :: st) :=
  H.step r fun A hx hby q => XS.lxor A hx rfl (hb hby hd) rfl q
theorem WkS.lshl (H : WkS l Z y code mx ret R n0 W V) {a : Int64} {b : Int32} (hd : decode code pc = .ok (.lshl, 1)) (r : W Ts h k n pc Ls (.int b :: .long a :: st)) : W Ts h k n (pc + 1) Ls (.long (a <<< (b &&& 0x3f).toInt64) :: st) :=
  H.step r fun A hx hby q => XS.lshl A hx rfl (hb hby hd) rfl q
theorem WkS.lshr (H : WkS l Z y code mx ret R n0 W V) {a : Int64} {b : Int32} (hd : decode code pc = .ok (.lshr, 1)) (r : W Ts h k n pc Ls (.int b :: .long a :: st)) : W Ts h k n (pc + 1) Ls (.long (a >>> (b &&& 0x3f).toInt64) :: st) :=
  H.step r fun A hx hby q => XS.lshr A hx rfl (hb hby hd) rfl q
theorem WkS.lushr (H : WkS l Z y code mx ret R n0 W V) {a : Int64} {b : Int32} (hd : decode code pc = .ok (.lushr, 1)) (r : W Ts h k n pc Ls (.int b :: .long a :: st)) : W Ts h k n (pc + 1) Ls (.long ((a.toUInt64 >>> (b &&& 0x3f).toInt64.toUInt64).toInt64) :: st) :=
  H.step r fun A hx hby q => XS.lushr A hx rfl (hb hby hd) rfl q
theorem WkS.ldiv (H : WkS l Z y code mx ret R n0 W V) {a b : Int64} (hd : decode code pc = .ok (.ldiv, 1)) (r : W Ts h k n pc Ls (.long b :: .long a :: st)) (hy : b ≠ 0) : W Ts h k n (pc + 1) Ls (.long (a / b) :: st) :=
  H.step r fun A hx hby q => XS.ldiv A hx rfl (hb hby hd) rfl hy q
theorem WkS.idiv (H : WkS l Z y code mx ret R n0 W V) {a b : Int32} (hd : decode code pc = .ok (.idiv, 1)) (r : W Ts h k n pc Ls (.int b :: .int a :: st)) (hy : b ≠ 0) : W Ts h k n (pc + 1) Ls (.int (a / b) :: st) :=
  H.step r fun A hx hby q => XS.idiv A hx rfl (hb hby hd) rfl hy q
theorem WkS.lrem (H : WkS l Z y code mx ret R n0 W V) {a b : Int64} (hd : decode code pc = .ok (.lrem, 1)) (r : W Ts h k n pc Ls (.long b :: .long a :: st)) (hy : b ≠ 0) : W Ts h k n (pc + 1) Ls (.long (a % b) :: st) := by
  rw [← lrem_mod a b]
  exact H.step r fun A hx hby q => XS.lrem A hx rfl (hb hby hd) rfl hy q
theorem WkS.irem (H : WkS l Z y code mx ret R n0 W V) {a b : Int32} (hd : decode code pc = .ok (.irem, 1)) (r : W Ts h k n pc Ls (.int b :: .int a :: st)) (hy : b ≠ 0) : W Ts h k n (pc + 1) Ls (.int (a % b) :: st) :=
  H.stepX r fun X hx hby hml hown hZ eT => ⟨_, X, eT, fun t q => iremM X hx rfl (hb hby hd) rfl hy q⟩
theorem WkS.i2b (H : WkS l Z y code mx ret R n0 W V) {a : Int32} (hd : decode code pc = .ok (.i2b, 1)) (r : W Ts h k n pc Ls (.int a :: st)) : W Ts h k n (pc + 1) Ls (.int (a.toInt8.toInt32) :: st) :=
  H.step r fun A hx hby q => XS.i2b A hx rfl (hb hby hd) rfl q
theorem WkS.i2c (H : WkS l Z y code mx ret R n0 W V) {a : Int32} (hd : decode code pc = .ok (.i2c, 1)) (r : W Ts h k n pc Ls (.int a :: st)) : W Ts h k n (pc + 1) Ls (.int (a.toUInt32.toUInt16.toUInt32.toInt32) :: st) :=
  H.step r fun A hx hby q => XS.i2c A hx rfl (hb hby hd) rfl q
theorem WkS.i2s (H : WkS l Z y code mx ret R n0 W V) {a : Int32} (hd : decode code pc = .ok (.i2s, 1)) (r : W Ts h k n pc Ls (.int a :: st)) : W Ts h k n (pc + 1) Ls (.int (a.toInt16.toInt32) :: st) :=
  H.step r fun A hx hby q => XS.i2s A hx rfl (hb hby hd) rfl q
theorem WkS.i2l (H : WkS l Z y code mx ret R n0 W V) {a : Int32} (hd : decode code pc = .ok (.i2l, 1)) (r : W Ts h k n pc Ls (.int a :: st)) : W Ts h k n (pc + 1) Ls (.long (a.toInt64) :: st) :=
  H.step r fun A hx hby q => XS.i2l A hx rfl (hb hby hd) rfl q
theorem WkS.l2i (H : WkS l Z y code mx ret R n0 W V) {a : Int64} (hd : decode code pc = .ok (.l2i, 1)) (r : W Ts h k n pc Ls (.long a :: st)) : W Ts h k n (pc + 1) Ls (.int (a.toInt32) :: st) :=
  H.step r fun A hx hby q => XS.l2i A hx rfl (hb hby hd) rfl q
theorem WkS.ineg (H : WkS l Z y code mx ret R n0 W V) {a : Int32} (hd : decode code pc = .ok (.ineg, 1)) (r : W Ts h k n pc Ls (.int a :: st)) : W Ts h k n (pc + 1) Ls (.int (-a) :: st) :=
  H.step r fun A hx hby q => XS.ineg A hx rfl (hb hby hd) rfl q
theorem WkS.lcmp (H : WkS l Z y code mx ret R n0 W V) {a b : Int64} (hd : decode code pc = .ok (.lcmp, 1)) (r : W Ts h k n pc Ls (.long b :: .long a :: st)) : W Ts h k n (pc + 1) Ls (.int (lcmpW a b) :: st) :=
  H.step r fun A hx hby q => XS.lcmp A hx rfl (hb hby hd) rfl q
theorem WkS.dup (H : WkS l Z y code mx ret R n0 W V) {v : Value} (hd : decode code pc = .ok (.dup, 1)) (r : W Ts h k n pc Ls (v :: st)) (hc : v.category = 1) : W Ts h k n (pc + 1) Ls (v :: v :: st) :=
  H.step r fun A hx hby q => XS.dup A hx rfl (hb hby hd) rfl hc q
theorem WkS.pop (H : WkS l Z y code mx ret R n0 W V) {v : Value} (hd : decode code pc = .ok (.pop, 1)) (r : W Ts h k n pc Ls (v :: st)) (hc : v.category = 1) : W Ts h k n (pc + 1) Ls (st) :=
  H.step r fun A hx hby q => XS.pop A hx rfl (hb hby hd) rfl hc q
theorem WkS.dupX1 (H : WkS l Z y code mx ret R n0 W V) {v w : Value} (hd : decode code pc = .ok (.dup_x1, 1)) (r : W Ts h k n pc Ls (v :: w :: st)) (hc : v.category = 1) (hc2 : w.category = 1) : W Ts h k n (pc + 1) Ls (v :: w :: v :: st) :=
  H.step r fun A hx hby q => XS.dupX1 A hx rfl (hb hby hd) rfl hc hc2 q
theorem WkS.istoreN (H : WkS l Z y code mx ret R n0 W V) {i : Fin 4} {v : Int32} (hd : decode code pc = .ok (.istore_n i, 1)) (r : W Ts h k n pc Ls (.int v :: st)) (hl : storeLocals Ls i.val (.int v) = some Ls') : W Ts h k n (pc + 1) Ls' (st) :=
  H.step r fun A hx hby q => XS.istoreN A hx rfl (hb hby hd) rfl hl q
theorem WkS.istore (H : WkS l Z y code mx ret R n0 W V) {i : Nat} {v : Int32} (hd : decode code pc = .ok (.istore i, 2)) (r : W Ts h k n pc Ls (.int v :: st)) (hl : storeLocals Ls i (.int v) = some Ls') : W Ts h k n (pc + 2) Ls' (st) :=
  H.step r fun A hx hby q => XS.istore A hx rfl (hb hby hd) rfl hl q
theorem WkS.lstoreN (H : WkS l Z y code mx ret R n0 W V) {i : Fin 4} {v : Int64} (hd : decode code pc = .ok (.lstore_n i, 1)) (r : W Ts h k n pc Ls (.long v :: st)) (hl : storeLocals Ls i.val (.long v) = some Ls') : W Ts h k n (pc + 1) Ls' (st) :=
  H.step r fun A hx hby q => XS.lstoreN A hx rfl (hb hby hd) rfl hl q
theorem WkS.lstore (H : WkS l Z y code mx ret R n0 W V) {i : Nat} {v : Int64} (hd : decode code pc = .ok (.lstore i, 2)) (r : W Ts h k n pc Ls (.long v :: st)) (hl : storeLocals Ls i (.long v) = some Ls') : W Ts h k n (pc + 2) Ls' (st) :=
  H.step r fun A hx hby q => XS.lstore A hx rfl (hb hby hd) rfl hl q
theorem WkS.astoreN (H : WkS l Z y code mx ret R n0 W V) {i : Fin 4} {v : Value} (hd : decode code pc = .ok (.astore_n i, 1)) (r : W Ts h k n pc Ls (v :: st)) (hv : v.isRef = true) (hl : storeLocals Ls i.val v = some Ls') : W Ts h k n (pc + 1) Ls' (st) :=
  H.step r fun A hx hby q => XS.astoreN A hx rfl (hb hby hd) rfl hv hl q
theorem WkS.astore (H : WkS l Z y code mx ret R n0 W V) {i : Nat} {v : Value} (hd : decode code pc = .ok (.astore i, 2)) (r : W Ts h k n pc Ls (v :: st)) (hv : v.isRef = true) (hl : storeLocals Ls i v = some Ls') : W Ts h k n (pc + 2) Ls' (st) :=
  H.step r fun A hx hby q => XS.astore A hx rfl (hb hby hd) rfl hv hl q
theorem WkS.istoreNS (H : WkS l Z y code mx ret R n0 W V) {i : Fin 4} {v : Int32} {o : Slot} (hd : decode code pc = .ok (.istore_n i, 1)) (r : W Ts h k n pc Ls (.int v :: st)) (hold : Ls[i.val]? = some o) (ho : One o) : W Ts h k n (pc + 1) (Ls.setIfInBounds i.val (.val (.int v))) st :=
  H.step r fun A hx hby q => XS.istoreNS A hx rfl (hb hby hd) rfl hold ho q
theorem WkS.istoreS (H : WkS l Z y code mx ret R n0 W V) {i : Nat} {v : Int32} {o : Slot} (hd : decode code pc = .ok (.istore i, 2)) (r : W Ts h k n pc Ls (.int v :: st)) (hold : Ls[i]? = some o) (ho : One o) : W Ts h k n (pc + 2) (Ls.setIfInBounds i (.val (.int v))) st :=
  H.step r fun A hx hby q => XS.istoreS A hx rfl (hb hby hd) rfl hold ho q
theorem WkS.iinc (H : WkS l Z y code mx ret R n0 W V) {i : Nat} {cst : Int} {v z : Int32} (hd : decode code pc = .ok (.iinc i cst, 3)) (r : W Ts h k n pc Ls (st)) (hz : v + Int32.ofInt cst = z) (hl : Ls[i]? = some (.val (.int v))) (hl' : storeLocals Ls i (.int z) = some Ls') : W Ts h k n (pc + 3) Ls' (st) :=
  H.step r fun A hx hby q => XS.iinc A hx rfl (hb hby hd) hl (hz ▸ hl') q
theorem WkS.goto (H : WkS l Z y code mx ret R n0 W V) {o : Int} (hd : decode code pc = .ok (.goto o, 3)) (r : W Ts h k n pc Ls st) (ho : 0 ≤ (pc : Int) + o) (hp : ((pc : Int) + o).toNat = pc') : W Ts h k n pc' Ls st :=
  H.step r fun A hx hby q => XS.goto A hx rfl rfl (hb hby hd) ho hp q
theorem WkS.ifYes (H : WkS l Z y code mx ret R n0 W V) {cd : ClassFile.Cond} {a : Int32} {o : Int} (hd : decode code pc = .ok (.ifCond cd o, 3)) (r : W Ts h k n pc Ls (.int a :: st)) (ho : 0 ≤ (pc : Int) + o) (hp : ((pc : Int) + o).toNat = pc') (hc : if_icmp.holds cd a 0 = true) : W Ts h k n pc' Ls st :=
  H.step r fun A hx hby q => XS.ifYes A hx rfl rfl (hb hby hd) rfl ((if0 cd a).trans hc) ho hp q
theorem WkS.ifNo (H : WkS l Z y code mx ret R n0 W V) {cd : ClassFile.Cond} {a : Int32} {o : Int} (hd : decode code pc = .ok (.ifCond cd o, 3)) (r : W Ts h k n pc Ls (.int a :: st)) (hc : if_icmp.holds cd a 0 = false) : W Ts h k n (pc + 3) Ls st :=
  H.step r fun A hx hby q => XS.ifNo A hx rfl (hb hby hd) rfl ((if0 cd a).trans hc) q
theorem WkS.icmpYes (H : WkS l Z y code mx ret R n0 W V) {cd : ClassFile.Cond} {a b : Int32} {o : Int} (hd : decode code pc = .ok (.if_icmp cd o, 3)) (r : W Ts h k n pc Ls (.int b :: .int a :: st)) (ho : 0 ≤ (pc : Int) + o) (hp : ((pc : Int) + o).toNat = pc') (hc : if_icmp.holds cd a b = true) : W Ts h k n pc' Ls st :=
  H.step r fun A hx hby q => XS.icmpYes A hx rfl rfl (hb hby hd) rfl hc ho hp q
theorem WkS.icmpNo (H : WkS l Z y code mx ret R n0 W V) {cd : ClassFile.Cond} {a b : Int32} {o : Int} (hd : decode code pc = .ok (.if_icmp cd o, 3)) (r : W Ts h k n pc Ls (.int b :: .int a :: st)) (hc : if_icmp.holds cd a b = false) : W Ts h k n (pc + 3) Ls st :=
  H.step r fun A hx hby q => XS.icmpNo A hx rfl (hb hby hd) rfl hc q
theorem WkS.ifnullYes (H : WkS l Z y code mx ret R n0 W V) {o : Int} (hd : decode code pc = .ok (.ifnull o, 3)) (r : W Ts h k n pc Ls (.null :: st)) (ho : 0 ≤ (pc : Int) + o) (hp : ((pc : Int) + o).toNat = pc') : W Ts h k n pc' Ls st :=
  H.step r fun A hx hby q => XS.ifnullYes A hx rfl rfl (hb hby hd) rfl ho hp q
theorem WkS.ifnullNo (H : WkS l Z y code mx ret R n0 W V) {a : Addr} {o : Int} (hd : decode code pc = .ok (.ifnull o, 3)) (r : W Ts h k n pc Ls (.ref a :: st)) : W Ts h k n (pc + 3) Ls st :=
  H.step r fun A hx hby q => XS.ifnullNo A hx rfl (hb hby hd) rfl q
theorem WkS.ifnonnullYes (H : WkS l Z y code mx ret R n0 W V) {a : Addr} {o : Int} (hd : decode code pc = .ok (.ifnonnull o, 3)) (r : W Ts h k n pc Ls (.ref a :: st)) (ho : 0 ≤ (pc : Int) + o) (hp : ((pc : Int) + o).toNat = pc') : W Ts h k n pc' Ls st :=
  H.step r fun A hx hby q => XS.ifnonnullYes A hx rfl rfl (hb hby hd) rfl ho hp q
theorem WkS.ifnonnullNo (H : WkS l Z y code mx ret R n0 W V) {o : Int} (hd : decode code pc = .ok (.ifnonnull o, 3)) (r : W Ts h k n pc Ls (.null :: st)) : W Ts h k n (pc + 3) Ls st :=
  H.step r fun A hx hby q => XS.ifnonnullNo A hx rfl (hb hby hd) rfl q
theorem WkS.acmpYes (H : WkS l Z y code mx ret R n0 W V) {cd : ClassFile.ACond} {a b : Value} {o : Int} (hd : decode code pc = .ok (.if_acmp cd o, 3)) (r : W Ts h k n pc Ls (b :: a :: st)) (ho : 0 ≤ (pc : Int) + o) (hp : ((pc : Int) + o).toNat = pc') (ha : a.isRef = true) (hb' : b.isRef = true) (hc : XT.acmp cd a b = true) : W Ts h k n pc' Ls st :=
  H.step r fun A hx hby q => XT.acmpYes A hx rfl rfl (hb hby hd) rfl ha hb' hc ho hp q
theorem WkS.acmpNo (H : WkS l Z y code mx ret R n0 W V) {cd : ClassFile.ACond} {a b : Value} {o : Int} (hd : decode code pc = .ok (.if_acmp cd o, 3)) (r : W Ts h k n pc Ls (b :: a :: st)) (ha : a.isRef = true) (hb' : b.isRef = true) (hc : XT.acmp cd a b = false) : W Ts h k n (pc + 3) Ls st :=
  H.step r fun A hx hby q => XT.acmpNo A hx rfl (hb hby hd) rfl ha hb' hc q
theorem WkS.lookHit (H : WkS l Z y code mx ret R n0 W V) {z : Int32} {dflt : Int} {pairs : Array (Int × Int)} {len : Nat} {a off : Int} (hsorted : (pairs.toList.zip (pairs.toList.drop 1)).all (fun (a, next) => a.1 < next.1) = true) (hfind : pairs.find? (·.1 == z.toInt) = some (a, off)) (ho : 0 ≤ (pc : Int) + off) (hp : ((pc : Int) + off).toNat = pc') (hd : decode code pc = .ok (.lookupswitch dflt pairs, len)) (r : W Ts h k n pc Ls (.int z :: st)) : W Ts h k n pc' Ls st := by
  subst hp
  exact H.stepX r fun X hx hby hml hown hZ eT => ⟨_, X, eT, fun t q => X.lookupswitchHit hx (g := mkF _ pc Ls (.int z :: st)) rfl rfl (hb hby hd) hsorted hfind ho t q⟩
theorem WkS.lookMiss (H : WkS l Z y code mx ret R n0 W V) {z : Int32} {dflt : Int} {pairs : Array (Int × Int)} {len : Nat} (hsorted : (pairs.toList.zip (pairs.toList.drop 1)).all (fun (a, next) => a.1 < next.1) = true) (hfind : pairs.find? (·.1 == z.toInt) = none) (ho : 0 ≤ (pc : Int) + dflt) (hp : ((pc : Int) + dflt).toNat = pc') (hd : decode code pc = .ok (.lookupswitch dflt pairs, len)) (r : W Ts h k n pc Ls (.int z :: st)) : W Ts h k n pc' Ls st := by
  subst hp
  exact H.stepX r fun X hx hby hml hown hZ eT => ⟨_, X, eT, fun t q => X.lookupswitchMiss hx (g := mkF _ pc Ls (.int z :: st)) rfl rfl (hb hby hd) hsorted hfind ho t q⟩
theorem WkS.getS (H : WkS l Z y code mx ret R n0 W V) {i : Nat} {O nm d : String} {v : Value} (w : (Jvm.Cond.fieldLink y.cls i O nm d).before a0 Z = true) (F : Sta Z h O nm d v) (hd : decode code pc = .ok (.getstatic i, 3)) (r : W Ts h k n pc Ls st) : W Ts h k n (pc + 3) Ls (v :: st) :=
  H.stepX r fun X hx hby hml hown hZ eT => RoadKit.getS X hx hZ (host := "") hown w Via.refl eT F (g := mkF _ pc Ls st) rfl (hb hby hd)
theorem WkS.instY (H : WkS l Z y code mx ret R n0 W V) {i : Nat} {K : String} {a : Addr} (w : (Jvm.Cond.classLink y.cls i K).before a0 Z = true) (F : Ins Z h a K true) (hd : decode code pc = .ok (.instanceof i, 3)) (r : W Ts h k n pc Ls (.ref a :: st)) : W Ts h k n (pc + 3) Ls (.int 1 :: st) :=
  H.stepX r fun X hx hby hml hown hZ eT => RoadKit.instY X hx hZ hown w eT F (g := mkF _ pc Ls (.ref a :: st)) rfl rfl (hb hby hd)
theorem WkS.instNo (H : WkS l Z y code mx ret R n0 W V) {i : Nat} {K C : String} {a : Addr} (w : (Jvm.Cond.classLink y.cls i K).before a0 Z = true) (E : Exa Z h a C) (F : ∃ c t, Z.vm.findClass C = some c ∧ Z.vm.findClass K = some t ∧ Z.vm.assignable c t = false) (hd : decode code pc = .ok (.instanceof i, 3)) (r : W Ts h k n pc Ls (.ref a :: st)) : W Ts h k n (pc + 3) Ls (.int 0 :: st) :=
  H.stepX r fun X hx hby hml hown hZ eT => RoadKit.instNo X hx hZ hown w eT E F (g := mkF _ pc Ls (.ref a :: st)) rfl rfl (hb hby hd)
theorem WkS.instNull (H : WkS l Z y code mx ret R n0 W V) {i : Nat} (hd : decode code pc = .ok (.instanceof i, 3)) (r : W Ts h k n pc Ls (.null :: st)) : W Ts h k n (pc + 3) Ls (.int 0 :: st) :=
  H.stepX r fun X hx hby hml hown hZ eT => ⟨_, X, eT, X.instanceofNull hx (g := mkF _ pc Ls (.null :: st)) rfl rfl (hb hby hd)⟩
theorem WkS.castY (H : WkS l Z y code mx ret R n0 W V) {i : Nat} {K : String} {a : Addr} (w : (Jvm.Cond.classLink y.cls i K).before a0 Z = true) (F : Ins Z h a K true) (hd : decode code pc = .ok (.checkcast i, 3)) (r : W Ts h k n pc Ls (.ref a :: st)) : W Ts h k n (pc + 3) Ls (.ref a :: st) :=
  H.stepX r fun X hx hby hml hown hZ eT => RoadKit.castY X hx hZ hown w eT F (g := mkF _ pc Ls (.ref a :: st)) rfl rfl (hb hby hd)
theorem WkS.castNull (H : WkS l Z y code mx ret R n0 W V) {i : Nat} (hd : decode code pc = .ok (.checkcast i, 3)) (r : W Ts h k n pc Ls (.null :: st)) : W Ts h k n (pc + 3) Ls (.null :: st) :=
  H.stepX r fun X hx hby hml hown hZ eT => ⟨_, X, eT, X.checkcastNull hx (g := mkF _ pc Ls (.null :: st)) rfl rfl (hb hby hd)⟩
theorem WkS.ldcInt (H : WkS l Z y code mx ret R n0 W V) {i : Nat} {v : Int32} (hd : decode code pc = .ok (.ldc i, 2)) (r : W Ts h k n pc Ls st) (w : (Jvm.Cond.constant y.cls i v).before a0 Z = true) : W Ts h k n (pc + 2) Ls (.int v :: st) :=
  H.stepX r fun X hx hby hml hown hZ eT => ⟨_, X, eT, X.ldcInt hx hown (mvT hZ w) (g := mkF _ pc Ls st) rfl (hb hby hd)⟩
theorem WkS.ldcWInt (H : WkS l Z y code mx ret R n0 W V) {i : Nat} {v : Int32} (hd : decode code pc = .ok (.ldc_w i, 3)) (r : W Ts h k n pc Ls st) (w : (Jvm.Cond.constant y.cls i v).before a0 Z = true) : W Ts h k n (pc + 3) Ls (.int v :: st) :=
  H.stepX r fun {p e s m args below meth c T locs} X hx hby hml hown hZ eT => ⟨T, X, eT, fun t q => by
    obtain ⟨kc, cf, bytes, hk, hcf, hcp, hb'⟩ := Cond.constant_spec hown (mvT (args := args) hZ w)
    obtain ⟨k', hk', he⟩ := X.warmed.alike.2.2 _ _ hk
    have hdg := hb hby hd
    show Steps p.tables e below (T.setTop (mkF m pc Ls st)) t
    jvm_step X.here [hx, hdg, ldc_w.wp_int (s := T) (f := mkF m pc Ls st) X.here.top hk' (by rw [he]; exact hcf) hcp, hb']
    exact q⟩
theorem WkS.ldcFloat (H : WkS l Z y code mx ret R n0 W V) {i : Nat} {v : UInt32} (w : (Jvm.Cond.constantFloat y.cls i v).before a0 Z = true) (hd : decode code pc = .ok (.ldc i, 2)) (r : W Ts h k n pc Ls st) : W Ts h k n (pc + 2) Ls (.float v :: st) :=
  H.stepX r fun X hx hby hml hown hZ eT => ⟨_, X, eT, X.ldcFloatC hx hown (mvT hZ w) (g := mkF _ pc Ls st) rfl (hb hby hd)⟩
theorem WkS.ldcLong (H : WkS l Z y code mx ret R n0 W V) {i : Nat} {v : Int64} (hd : decode code pc = .ok (.ldc2_w i, 3)) (r : W Ts h k n pc Ls st) (w : (Jvm.Cond.constantLong y.cls i v).before a0 Z = true) : W Ts h k n (pc + 3) Ls (.long v :: st) :=
  H.stepX r fun X hx hby hml hown hZ eT => ⟨_, X, eT, X.ldc2Long hx hown (mvT hZ w) (g := mkF _ pc Ls st) rfl (hb hby hd)⟩
theorem WkS.getF (H : WkS l Z y code mx ret R n0 W V) {i : Nat} {R0 O nm d host : String} {a : Addr} {v : Value} (w : (Jvm.Cond.fieldLink y.cls i R0 nm d).before a0 Z = true ∨ (Jvm.Cond.fieldLinkNest y.cls i R0 nm d host).before a0 Z = true) (via : Via Z R0 O nm d) (F : Fld Z h a O nm d v) (hd : decode code pc = .ok (.getfield i, 3)) (r : W Ts h k n pc Ls (.ref a :: st)) : W Ts h k n (pc + 3) Ls (v :: st) :=
  H.stepX r fun X hx hby hml hown hZ eT => RoadKit.getF X hx hZ hown w via eT F (g := mkF _ pc Ls (.ref a :: st)) rfl rfl (hb hby hd)
theorem WkS.getF' (H : WkS l Z y code mx ret R n0 W V) {i : Nat} {O nm d : String} {a : Addr} {v : Value} (w : (Jvm.Cond.fieldLink y.cls i O nm d).before a0 Z = true) (F : Fld Z h a O nm d v) (hd : decode code pc = .ok (.getfield i, 3)) (r : W Ts h k n pc Ls (.ref a :: st)) : W Ts h k n (pc + 3) Ls (v :: st) :=
  H.getF (host := "") (Or.inl w) Via.refl F hd r
theorem WkS.putF (H : WkS l Z y code mx ret R n0 W V) {i kk : Nat} {R0 O nm d host C : String} {ty : FieldType} {a : Addr} {v old : Value} (w : (Jvm.Cond.fieldLink y.cls i R0 nm d).before a0 Z = true ∨ (Jvm.Cond.fieldLinkNest y.cls i R0 nm d host).before a0 Z = true) (via : Via Z R0 O nm d) (F : Fld Z h a O nm d old) (E : Exa Z h a C) (L : (Jvm.Cond.lays C O nm d).before a0 Z = true ∨ ((Jvm.Cond.laysFinal C O nm d).before a0 Z = true ∧ y.cls = O ∧ y.name = "<init>")) (wi : (Jvm.Cond.instantiable C kk).before a0 Z = true)
    (hty : parseFieldDescriptor d = some ty) (hn : narrow ty v = v) (hf : fits ty v = true) (hn0 : n0 ≤ a) (hd : decode code pc = .ok (.putfield i, 3)) (r : W Ts h k n pc Ls (v :: .ref a :: st)) : ∃ h', Wr h h' a (Jvm.RoadKit.slotOf Z O nm d) v ∧ W Ts h' k n (pc + 3) Ls st := by
  obtain ⟨p, e, s0, m, args, below, meth, c, S0, hx, hby, hml, hnm, hret, hlk, hZs, rfl, rfl⟩ := H
  obtain ⟨s, T, locs, X, eh, N, hown, hZ, hB, sp⟩ := r
  obtain ⟨T', h', X', e', W', q⟩ := RoadKit.putF X hx hZ hown w via eh F E (L.imp id fun u => ⟨u.1, u.2.1, by rw [hnm]; exact u.2.2⟩) wi hty hn hf (g := mkF m pc Ls (v :: .ref a :: st)) rfl rfl (hb hby hd)
  exact ⟨h', W', s, T', _, X', e', Fr.snoc X' N hn0, hown, hZ, hB.mono (Nat.le_of_eq W'.size.symm), fun t u => sp t (q t u)⟩
theorem WkS.newO (H : WkS l Z y code mx ret R n0 W V) {i q : Nat} {C : String} (w : (Jvm.Cond.classLink y.cls i C).before a0 Z = true) (wi : (Jvm.Cond.instantiable C q).before a0 Z = true) (wz : (Jvm.Cond.initialized C).before a0 Z = true) (hc : k + 1 ≤ R.cells) (hl : n + q ≤ R.slots) (hd : decode code pc = .ok (.new i, 3)) (r : W Ts h k n pc Ls st) :
    ∃ h' a, a = h.size ∧ Ext h h' ∧ Exa Z h' a C ∧ (∀ {O nm d : String} {ty : FieldType}, Laid Z a0 C O nm d → parseFieldDescriptor d = some ty → Fld Z h' a O nm d (defaultValue ty)) ∧ (∃ cell : Cell, h'[a]? = some cell ∧ cell.vm = .none ∧ cell.monitor = {}) ∧ W Ts h' (k + 1) (n + q) (pc + 3) Ls (.ref a :: st) := by
  obtain ⟨p, e, s0, m, args, below, meth, c, S0, hx, hby, hml, hnm, hret, hlk, hZs, rfl, rfl⟩ := H
  obtain ⟨s, T, locs, X, eh, N, hown, hZ, hB, sp⟩ := r
  obtain ⟨T', h', X', e', E', A', D', U', q'⟩ := RoadKit.newO X hx hZ hown w wi wz eh (g := mkF m pc Ls st) rfl (hb hby hd) hc hl
  exact ⟨h', _, rfl, E', A', D', U', s, T', _, X', e', N, hown, hZ, hB.mono E'.1, fun t u => sp t (q' t u)⟩
theorem WkS.newP (H : WkS l Z y code mx ret R n0 W V) {aty : ArrayType} {ty : FieldType} {z : Int32} {cap : Nat} (hty : newarray.typeOf aty = ty) (w : (Jvm.Cond.arrayClass ty).before a0 Z = true) (hn : ¬ z < 0) (hcap : z.toNatClampNeg ≤ cap) (hb8 : cap * 8 ≤ 536870912) (hc : k + 1 ≤ R.cells) (hl : n + cap ≤ R.slots) (hd : decode code pc = .ok (.newarray aty, 2)) (r : W Ts h k n pc Ls (.int z :: st)) :
    ∃ h' a cA, a = h.size ∧ Ext h h' ∧ Arr Z h' a (newA cA ty z) ty ∧ W Ts h' (k + 1) (n + cap) (pc + 2) Ls (.ref a :: st) := by
  subst hty
  obtain ⟨p, e, s0, m, args, below, meth, c, S0, hx, hby, hml, hnm, hret, hlk, hZs, rfl, rfl⟩ := H
  obtain ⟨s, T, locs, X, eh, N, hown, hZ, hB, sp⟩ := r
  obtain ⟨T', h', cA, X', e', E', A', q'⟩ := RoadKit.newP X hx hZ w eh (g := mkF m pc Ls (.int z :: st)) rfl (hb hby hd) rfl hn hcap hb8 hc hl
  exact ⟨h', _, cA, rfl, E', A', s, T', _, X', e', N, hown, hZ, hB.mono E'.1, fun t u => sp t (q' t u)⟩
theorem WkS.arrLen (H : WkS l Z y code mx ret R n0 W V) {a : Addr} {cl : Cell} {ty : FieldType} {z : Int32} (A : Arr Z h a cl ty) (hz : cl.slots.size.toInt32 = z) (hd : decode code pc = .ok (.arraylength, 1)) (r : W Ts h k n pc Ls (.ref a :: st)) : W Ts h k n (pc + 1) Ls (.int z :: st) := by
  subst hz
  exact H.stepX r fun X hx hby hml hown hZ eT => ⟨_, X, eT, X.arraylength hx (by rw [eT]; exact A.1) (State.isArrayOf_alike hZ.alike A.2.1) (g := mkF _ pc Ls (.ref a :: st)) rfl rfl (hb hby hd)⟩
theorem WkS.iaload (H : WkS l Z y code mx ret R n0 W V) {a : Addr} {cl : Cell} {j : Int32} {v : Value} (A : Arr Z h a cl .int) (hin : ¬ (j < 0 ∨ cl.slots.size ≤ j.toNatClampNeg)) (hv : cl.slots[j.toNatClampNeg]? = some v) (hd : decode code pc = .ok (.iaload, 1)) (r : W Ts h k n pc Ls (.int j :: .ref a :: st)) : W Ts h k n (pc + 1) Ls (v :: st) :=
  H.stepX r fun X hx hby hml hown hZ eT => ⟨_, X, eT, X.iaload hx (by rw [eT]; exact A.1) (State.isArrayOf_alike hZ.alike A.2.1) A.2.2 hin hv (g := mkF _ pc Ls (.int j :: .ref a :: st)) rfl rfl (hb hby hd)⟩
theorem WkS.laload (H : WkS l Z y code mx ret R n0 W V) {a : Addr} {cl : Cell} {j : Int32} {v : Value} (A : Arr Z h a cl .long) (hin : ¬ (j < 0 ∨ cl.slots.size ≤ j.toNatClampNeg)) (hv : cl.slots[j.toNatClampNeg]? = some v) (hd : decode code pc = .ok (.laload, 1)) (r : W Ts h k n pc Ls (.int j :: .ref a :: st)) : W Ts h k n (pc + 1) Ls (v :: st) :=
  H.stepX r fun X hx hby hml hown hZ eT => ⟨_, X, eT, X.laload hx (by rw [eT]; exact A.1) (State.isArrayOf_alike hZ.alike A.2.1) A.2.2 hin hv (g := mkF _ pc Ls (.int j :: .ref a :: st)) rfl rfl (hb hby hd)⟩
theorem WkS.caload (H : WkS l Z y code mx ret R n0 W V) {a : Addr} {cl : Cell} {j : Int32} {v : Value} (A : Arr Z h a cl .char) (hin : ¬ (j < 0 ∨ cl.slots.size ≤ j.toNatClampNeg)) (hv : cl.slots[j.toNatClampNeg]? = some v) (hd : decode code pc = .ok (.caload, 1)) (r : W Ts h k n pc Ls (.int j :: .ref a :: st)) : W Ts h k n (pc + 1) Ls (v :: st) :=
  H.stepX r fun X hx hby hml hown hZ eT => ⟨_, X, eT, X.caload hx (by rw [eT]; exact A.1) (State.isArrayOf_alike hZ.alike A.2.1) A.2.2 hin hv (g := mkF _ pc Ls (.int j :: .ref a :: st)) rfl rfl (hb hby hd)⟩
theorem WkS.baload (H : WkS l Z y code mx ret R n0 W V) {a : Addr} {cl : Cell} {j : Int32} {v : Value} (A : Arr Z h a cl .byte) (hin : ¬ (j < 0 ∨ cl.slots.size ≤ j.toNatClampNeg)) (hv : cl.slots[j.toNatClampNeg]? = some v) (hd : decode code pc = .ok (.baload, 1)) (r : W Ts h k n pc Ls (.int j :: .ref a :: st)) : W Ts h k n (pc + 1) Ls (v :: st) :=
  H.stepX r fun X hx hby hml hown hZ eT => ⟨_, X, eT, X.baloadBytes hx (by rw [eT]; exact A.1) (State.isArrayOf_alike hZ.alike A.2.1) A.2.2 hin hv (g := mkF _ pc Ls (.int j :: .ref a :: st)) rfl rfl (hb hby hd)⟩
theorem WkS.aaload (H : WkS l Z y code mx ret R n0 W V) {a : Addr} {cl : Cell} {ty : FieldType} {j : Int32} {v : Value} (A : Arr Z h a cl ty) (hty : ty.isReference = true) (hin : ¬ (j < 0 ∨ cl.slots.size ≤ j.toNatClampNeg)) (hv : cl.slots[j.toNatClampNeg]? = some v) (hd : decode code pc = .ok (.aaload, 1)) (r : W Ts h k n pc Ls (.int j :: .ref a :: st)) : W Ts h k n (pc + 1) Ls (v :: st) :=
  H.stepX r fun X hx hby hml hown hZ eT => ⟨_, X, eT, X.aaload hx (by rw [eT]; exact A.1) (State.isArrayOf_alike hZ.alike A.2.1) hty A.2.2 hin hv (g := mkF _ pc Ls (.int j :: .ref a :: st)) rfl rfl (hb hby hd)⟩
theorem WkS.stI (H : WkS l Z y code mx ret R n0 W V) {a : Addr} {cl : Cell} {j : Int32} {x : Int32} (A : Arr Z h a cl .int) (hin : ¬ (j < 0 ∨ cl.slots.size ≤ j.toNatClampNeg)) (hn0 : n0 ≤ a) (hd : decode code pc = .ok (.iastore, 1)) (r : W Ts h k n pc Ls (.int x :: .int j :: .ref a :: st)) : ∃ h', Wr h h' a j.toNatClampNeg (.int x) ∧ W Ts h' k n (pc + 1) Ls st := by
  obtain ⟨p, e, s0, m, args, below, meth, c, S0, hx, hby, hml, hnm, hret, hlk, hZs, rfl, rfl⟩ := H
  obtain ⟨s, T, locs, X, eh, N, hown, hZ, hB, sp⟩ := r
  obtain ⟨T', h', X', e', W', q⟩ := RoadKit.stI X hx hZ eh A hin (g := mkF m pc Ls (.int x :: .int j :: .ref a :: st)) rfl rfl (hb hby hd)
  exact ⟨h', W', s, T', _, X', e', Fr.snoc X' N hn0, hown, hZ, hB.mono (Nat.le_of_eq W'.size.symm), fun t u => sp t (q t u)⟩
theorem WkS.stJ (H : WkS l Z y code mx ret R n0 W V) {a : Addr} {cl : Cell} {j : Int32} {x : Int64} (A : Arr Z h a cl .long) (hin : ¬ (j < 0 ∨ cl.slots.size ≤ j.toNatClampNeg)) (hn0 : n0 ≤ a) (hd : decode code pc = .ok (.lastore, 1)) (r : W Ts h k n pc Ls (.long x :: .int j :: .ref a :: st)) : ∃ h', Wr h h' a j.toNatClampNeg (.long x) ∧ W Ts h' k n (pc + 1) Ls st := by
  obtain ⟨p, e, s0, m, args, below, meth, c, S0, hx, hby, hml, hnm, hret, hlk, hZs, rfl, rfl⟩ := H
  obtain ⟨s, T, locs, X, eh, N, hown, hZ, hB, sp⟩ := r
  obtain ⟨T', h', X', e', W', q⟩ := RoadKit.stJ X hx hZ eh A hin (g := mkF m pc Ls (.long x :: .int j :: .ref a :: st)) rfl rfl (hb hby hd)
  exact ⟨h', W', s, T', _, X', e', Fr.snoc X' N hn0, hown, hZ, hB.mono (Nat.le_of_eq W'.size.symm), fun t u => sp t (q t u)⟩
theorem WkS.stC (H : WkS l Z y code mx ret R n0 W V) {a : Addr} {cl : Cell} {j : Int32} {x : Int32} (A : Arr Z h a cl .char) (hin : ¬ (j < 0 ∨ cl.slots.size ≤ j.toNatClampNeg)) (hn0 : n0 ≤ a) (hd : decode code pc = .ok (.castore, 1)) (r : W Ts h k n pc Ls (.int x :: .int j :: .ref a :: st)) : ∃ h', Wr h h' a j.toNatClampNeg (.int (nar .char x)) ∧ W Ts h' k n (pc + 1) Ls st := by
  obtain ⟨p, e, s0, m, args, below, meth, c, S0, hx, hby, hml, hnm, hret, hlk, hZs, rfl, rfl⟩ := H
  obtain ⟨s, T, locs, X, eh, N, hown, hZ, hB, sp⟩ := r
  obtain ⟨T', h', X', e', W', q⟩ := RoadKit.stC X hx hZ eh A hin (g := mkF m pc Ls (.int x :: .int j :: .ref a :: st)) rfl rfl (hb hby hd)
  exact ⟨h', W', s, T', _, X', e', Fr.snoc X' N hn0, hown, hZ, hB.mono (Nat.le_of_eq W'.size.symm), fun t u => sp t (q t u)⟩
theorem WkS.stB (H : WkS l Z y code mx ret R n0 W V) {a : Addr} {cl : Cell} {j : Int32} {x : Int32} (A : Arr Z h a cl .byte) (hin : ¬ (j < 0 ∨ cl.slots.size ≤ j.toNatClampNeg)) (hn0 : n0 ≤ a) (hd : decode code pc = .ok (.bastore, 1)) (r : W Ts h k n pc Ls (.int x :: .int j :: .ref a :: st)) : ∃ h', Wr h h' a j.toNatClampNeg (.int (nar .byte x)) ∧ W Ts h' k n (pc + 1) Ls st := by
  obtain ⟨p, e, s0, m, args, below, meth, c, S0, hx, hby, hml, hnm, hret, hlk, hZs, rfl, rfl⟩ := H
  obtain ⟨s, T, locs, X, eh, N, hown, hZ, hB, sp⟩ := r
  obtain ⟨T', h', X', e', W', q⟩ := RoadKit.stB X hx hZ eh A hin (g := mkF m pc Ls (.int x :: .int j :: .ref a :: st)) rfl rfl (hb hby hd)
  exact ⟨h', W', s, T', _, X', e', Fr.snoc X' N hn0, hown, hZ, hB.mono (Nat.le_of_eq W'.size.symm), fun t u => sp t (q t u)⟩
theorem WkS.initO (H : WkS l Z y code mx ret R n0 W V) {i w : Nat} {a : Addr} (w1 : (Jvm.Cond.methodLink y.cls i Lib.objectInit).before a0 Z = true) (w2 : (Jvm.Cond.instanceMethod Lib.objectInit).before a0 Z = true) (w3 : (Jvm.Cond.code Lib.objectInit ⟨#[0xb1]⟩ 1 none).before a0 Z = true) (hsz : Ls.size = mx) (hf : 1 ≤ R.frames) (hw : (st.map fun v => v.category).sum ≤ w) (hl : w + 12 ≤ R.locals) (hd : decode code pc = .ok (.invokespecial i, 3)) (r : W Ts h k n pc Ls (.ref a :: st)) : W Ts h k n (pc + 3) Ls st :=
  H.stepX r fun X hx hby hml hown hZ eT => RoadKit.initO X hx hZ hown w1 w2 w3 eT (g := mkF _ pc Ls (.ref a :: st)) rfl (by rw [hml]; exact hsz) rfl (hb hby hd) hf (by show 2 * 0 + _ ≤ _; omega) hl
variable {y' : MethodName} {bytes' : ByteArray} {mx' : Nat} {ret' : Option FieldType} {rm' : Room} {as' : Array Value} {Q : Option Value → Heap → Prop} {i w : Nat} {ps : List FieldType} {rt : Option FieldType} {argsL rest : List Value}
theorem WkS.callS (H : WkS l Z y code mx ret R n0 W V) (w1 : (Jvm.Cond.methodLink y.cls i y').before a0 Z = true) (w2 : (Jvm.Cond.static y').before a0 Z = true) (w3 : (Jvm.Cond.initialized y'.cls).before a0 Z = true) (w4 : (Jvm.Cond.code y' bytes' mx' ret').before a0 Z = true) (hy : y'.cls ≠ "java/lang/invoke/MethodHandle" ∧ y'.cls ≠ "java/lang/invoke/VarHandle")
    (hpd : parseMethodDescriptor y'.desc = some ⟨ps, rt⟩) (hf : rm'.frames + 1 ≤ R.frames) (hl : w + (mx' + 11) + rm'.locals ≤ R.locals) (hc : k + rm'.cells ≤ R.cells) (hn : n + rm'.slots ≤ R.slots) (hM : Ct l Z y' bytes' mx' ret' rm' n0 argsL.toArray h Q) (hmo : ∀ v h', Q v h' → h.size ≤ h'.size) (hlen : argsL.length = ps.length) (hsz : Ls.size = mx) (hw : (rest.map fun v => v.category).sum ≤ w) (hst : st = argsL.reverse ++ rest) (hd : decode code pc = .ok (.invokestatic i, 3)) (r : W Ts h k n pc Ls st) :
    ∃ v h', Q v h' ∧ W Ts h' (k + rm'.cells) (n + rm'.slots) (pc + 3) Ls (v.toList ++ rest) := by
  subst hst
  obtain ⟨p, e, s0, m, args, below, meth, c, S0, hx, hby, hml, hnm, hret, hlk, hZs, rfl, rfl⟩ := H
  obtain ⟨s, T, locs, X, eh, N, hown, hZ, hB, sp⟩ := r
  obtain ⟨v, _, ⟨T1, L1, k1, n1⟩, -, X1, ⟨Lc, hQ, g1, g2, g3⟩, st1⟩ := Jvm.LawKit.callS X hx (y := y') hown (mvT hZ w1) (mvT hZ w2) (mvT hZ w3) (mvT hZ w4) hy (backOf (W := w) (Q := fun v hh L => Q v hh ∧ Fr n0 L) (hM []) hZ w4 w3 hf hl) (g := mkF m pc Ls (argsL.reverse ++ rest)) rfl (by rw [hml]; exact hsz) (argsL := argsL) (rest := rest) (lenOf hpd hlen) rfl (by show 2 * 0 + _ ≤ _; omega) (hb hby hd) (fun _ _ => ⟨rfl, eh, hc, hn⟩)
  dsimp only [Pt.U, Pt.locs, Pt.cells, Pt.slots] at X1 g1 g2 g3 st1 hQ
  subst g1 g2 g3
  exact ⟨v, T1.heap, hQ.1, s, T1, _, X1, rfl, Fr.app N hQ.2, hown, hZ, hB.mono (hmo _ _ hQ.1), fun t u => sp t (st1 t u)⟩
theorem WkS.callI (H : WkS l Z y code mx ret R n0 W V) {a : Addr} (hi : y'.name = "<init>") (w1 : (Jvm.Cond.methodLink y.cls i y').before a0 Z = true) (w2 : (Jvm.Cond.instanceMethod y').before a0 Z = true) (w3 : (Jvm.Cond.initialized y'.cls).before a0 Z = true) (w4 : (Jvm.Cond.code y' bytes' mx' none).before a0 Z = true) (hy : y'.cls ≠ "java/lang/invoke/MethodHandle" ∧ y'.cls ≠ "java/lang/invoke/VarHandle")
    (hpd : parseMethodDescriptor y'.desc = some ⟨ps, rt⟩) (hf : rm'.frames + 1 ≤ R.frames) (hl : w + (mx' + 11) + rm'.locals ≤ R.locals) (hc : k + rm'.cells ≤ R.cells) (hn : n + rm'.slots ≤ R.slots) (hM : Ct l Z y' bytes' mx' none rm' n0 (.ref a :: argsL).toArray h Q) (hmo : ∀ v h', Q v h' → h.size ≤ h'.size) (hlen : argsL.length = ps.length) (hsz : Ls.size = mx) (hw : (rest.map fun v => v.category).sum ≤ w) (hst : st = argsL.reverse ++ .ref a :: rest) (hd : decode code pc = .ok (.invokespecial i, 3)) (r : W Ts h k n pc Ls st) :
    ∃ v h', Q v h' ∧ W Ts h' (k + rm'.cells) (n + rm'.slots) (pc + 3) Ls (v.toList ++ rest) := by
  subst hst
  obtain ⟨p, e, s0, m, args, below, meth, c, S0, hx, hby, hml, hnm, hret, hlk, hZs, rfl, rfl⟩ := H
  obtain ⟨s, T, locs, X, eh, N, hown, hZ, hB, sp⟩ := r
  obtain ⟨v, _, ⟨T1, L1, k1, n1⟩, -, X1, ⟨Lc, hQ, g1, g2, g3⟩, st1⟩ := X.specialBack hx (y := y') hi hown (mvT hZ w1) (mvT hZ w2) (mvT hZ w4) hy (backOf (W := w) (Q := fun v hh L => Q v hh ∧ Fr n0 L) (hM []) hZ w4 w3 hf hl) (g := mkF m pc Ls (argsL.reverse ++ .ref a :: rest)) rfl (by rw [hml]; exact hsz) (Steps.refl _) (a := a) (argsL := argsL) (rest := rest) (lenOf hpd hlen) rfl (by show 2 * 0 + _ ≤ _; omega) (hb hby hd) (fun _ _ => ⟨rfl, eh, hc, hn⟩)
  dsimp only [Pt.U, Pt.locs, Pt.cells, Pt.slots] at X1 g1 g2 g3 st1 hQ
  subst g1 g2 g3
  exact ⟨v, T1.heap, hQ.1, s, T1, _, X1, rfl, Fr.app N hQ.2, hown, hZ, hB.mono (hmo _ _ hQ.1), fun t u => sp t (st1.trans u)⟩
theorem WkS.callV (H : WkS l Z y code mx ret R n0 W V) {a : Addr} {C : String} {z' : MethodName} (w1 : (Jvm.Cond.methodLink y.cls i z').before a0 Z = true) (w2 : (Jvm.Cond.declares z').before a0 Z = true) (nf : NF Z a0 z') (w5 : (Jvm.Cond.selects C z' y').before a0 Z = true) (w6 : (Jvm.Cond.instanceMethod y').before a0 Z = true) (w3 : (Jvm.Cond.initialized y'.cls).before a0 Z = true) (w4 : (Jvm.Cond.code y' bytes' mx' ret').before a0 Z = true) (hy : z'.cls ≠ "java/lang/invoke/MethodHandle" ∧ z'.cls ≠ "java/lang/invoke/VarHandle")
    (hpd : parseMethodDescriptor z'.desc = some ⟨ps, rt⟩) (hf : rm'.frames + 1 ≤ R.frames) (hl : w + (mx' + 11) + rm'.locals ≤ R.locals) (hc : k + rm'.cells ≤ R.cells) (hn : n + rm'.slots ≤ R.slots) (E : Exa Z h a C) (hM : Ct l Z y' bytes' mx' ret' rm' n0 (.ref a :: argsL).toArray h Q) (hmo : ∀ v h', Q v h' → h.size ≤ h'.size) (hlen : argsL.length = ps.length) (hsz : Ls.size = mx) (hw : (rest.map fun v => v.category).sum ≤ w) (hst : st = argsL.reverse ++ .ref a :: rest) (hd : decode code pc = .ok (.invokevirtual i, 3)) (r : W Ts h k n pc Ls st) :
    ∃ v h', Q v h' ∧ W Ts h' (k + rm'.cells) (n + rm'.slots) (pc + 3) Ls (v.toList ++ rest) := by
  subst hst
  obtain ⟨p, e, s0, m, args, below, meth, c, S0, hx, hby, hml, hnm, hret, hlk, hZs, rfl, rfl⟩ := H
  obtain ⟨s, T, locs, X, eh, N, hown, hZ, hB, sp⟩ := r
  obtain ⟨cq, kq, qa, qb, qc⟩ := isOf (s := s) (T := T) hZ eh E
  obtain ⟨v, _, ⟨T1, L1, k1, n1⟩, -, X1, ⟨Lc, hQ, g1, g2, g3⟩, st1⟩ := X.virtualBack hx (y := z') (z := y') hown (mvT hZ w1) (mvT hZ w2) (nf.at hZ) (mvT hZ w5) (mvT hZ w6) hy (backOf (W := w) (Q := fun v hh L => Q v hh ∧ Fr n0 L) (hM []) hZ w4 w3 hf hl) qa qc (g := mkF m pc Ls (argsL.reverse ++ .ref a :: rest)) rfl (by rw [hml]; exact hsz) (Steps.refl _) (argsL := argsL) (rest := rest) (lenOf hpd hlen) rfl (by show 2 * 0 + _ ≤ _; omega) (hb hby hd) (fun _ _ => ⟨rfl, eh, hc, hn⟩)
  dsimp only [Pt.U, Pt.locs, Pt.cells, Pt.slots] at X1 g1 g2 g3 st1 hQ
  subst g1 g2 g3
  exact ⟨v, T1.heap, hQ.1, s, T1, _, X1, rfl, Fr.app N hQ.2, hown, hZ, hB.mono (hmo _ _ hQ.1), fun t u => sp t (st1.trans u)⟩
theorem WkS.callSP (H : WkS l Z y code mx ret R n0 W V) {v0 : Option Value} (w1 : (Jvm.Cond.methodLink y.cls i y').before a0 Z = true) (w2 : (Jvm.Cond.static y').before a0 Z = true) (w3 : (Jvm.Cond.initialized y'.cls).before a0 Z = true) (w4 : (Jvm.Cond.code y' bytes' mx' ret').before a0 Z = true) (hy : y'.cls ≠ "java/lang/invoke/MethodHandle" ∧ y'.cls ≠ "java/lang/invoke/VarHandle")
    (hpd : parseMethodDescriptor y'.desc = some ⟨ps, rt⟩) (hf : rm'.frames + 1 ≤ R.frames) (hl : w + (mx' + 11) + rm'.locals ≤ R.locals) (hc : k + rm'.cells ≤ R.cells) (hn : n + rm'.slots ≤ R.slots) (hM : Ct l Z y' bytes' mx' ret' rm' n0 argsL.toArray h (fun v h' => v = v0 ∧ h' = h)) (hlen : argsL.length = ps.length) (hsz : Ls.size = mx) (hw : (rest.map fun v => v.category).sum ≤ w) (hst : st = argsL.reverse ++ rest) (hd : decode code pc = .ok (.invokestatic i, 3)) (r : W Ts h k n pc Ls st) :
    W Ts h (k + rm'.cells) (n + rm'.slots) (pc + 3) Ls (v0.toList ++ rest) := by
  obtain ⟨v, h', ⟨e1, e2⟩, r'⟩ := H.callS w1 w2 w3 w4 hy hpd hf hl hc hn hM (fun _ _ q => Nat.le_of_eq (by rw [q.2])) hlen hsz hw hst hd r
  rw [← e1, ← e2]
  rw [e2] at r' ⊢
  exact r'
theorem WkS.callVP (H : WkS l Z y code mx ret R n0 W V) {v0 : Option Value} {a : Addr} {C : String} {z' : MethodName} (w1 : (Jvm.Cond.methodLink y.cls i z').before a0 Z = true) (w2 : (Jvm.Cond.declares z').before a0 Z = true) (nf : NF Z a0 z') (w5 : (Jvm.Cond.selects C z' y').before a0 Z = true) (w6 : (Jvm.Cond.instanceMethod y').before a0 Z = true) (w3 : (Jvm.Cond.initialized y'.cls).before a0 Z = true) (w4 : (Jvm.Cond.code y' bytes' mx' ret').before a0 Z = true) (hy : z'.cls ≠ "java/lang/invoke/MethodHandle" ∧ z'.cls ≠ "java/lang/invoke/VarHandle")
    (hpd : parseMethodDescriptor z'.desc = some ⟨ps, rt⟩) (hf : rm'.frames + 1 ≤ R.frames) (hl : w + (mx' + 11) + rm'.locals ≤ R.locals) (hc : k + rm'.cells ≤ R.cells) (hn : n + rm'.slots ≤ R.slots) (E : Exa Z h a C) (hM : Ct l Z y' bytes' mx' ret' rm' n0 (.ref a :: argsL).toArray h (fun v h' => v = v0 ∧ h' = h)) (hlen : argsL.length = ps.length) (hsz : Ls.size = mx) (hw : (rest.map fun v => v.category).sum ≤ w) (hst : st = argsL.reverse ++ .ref a :: rest) (hd : decode code pc = .ok (.invokevirtual i, 3)) (r : W Ts h k n pc Ls st) :
    W Ts h (k + rm'.cells) (n + rm'.slots) (pc + 3) Ls (v0.toList ++ rest) := by
  obtain ⟨v, h', ⟨e1, e2⟩, r'⟩ := H.callV w1 w2 nf w5 w6 w3 w4 hy hpd hf hl hc hn E hM (fun _ _ q => Nat.le_of_eq (by rw [q.2])) hlen hsz hw hst hd r
  rw [← e1, ← e2]
  rw [e2] at r' ⊢
  exact r'
theorem WkS.retV (H : WkS l Z y code mx ret R n0 W V) {v : Value} {t : FieldType} {ins : Instr} (ht : ret = some t) (hn' : narrow t v = v) (hi : (ins = .ireturn ∧ (t = .int ∨ t = .boolean ∨ t = .byte ∨ t = .char ∨ t = .short) ∧ ∃ z, v = .int z) ∨ (ins = .lreturn ∧ t = .long ∧ ∃ z, v = .long z) ∨ (ins = .dreturn ∧ t = .double ∧ ∃ z, v = .double z) ∨ (ins = .freturn ∧ t = .float ∧ ∃ z, v = .float z) ∨ (ins = .areturn ∧ t.isReference = true ∧ v.isRef = true))
    (hk : k ≤ R.cells) (hn : n ≤ R.slots) (hd : decode code pc = .ok (ins, 1)) (r : W Ts h k n pc Ls (v :: st)) : V (some v) h := by
  obtain ⟨p, e, s0, m, args, below, meth, c, S0, hx, hby, hml, hnm, hret, hlk, hZs, rfl, rfl⟩ := H
  obtain ⟨s, T, locs, X, eh, N, hown, hZ, hB, sp⟩ := r
  have hrt : meth.sig.returnType = some t := hret.trans ht
  obtain ⟨fs, hr, hrun, hended, hW, hsame⟩ := X.leave (v := some v) (fun q => by rw [hrt] at q; cases q) hlk
  exact ⟨_, locs, sp _ (retOut X hx hrt hn' hi (hb hby hd) hr), hrun, hended, eh, N, ⟨_, rfl⟩, Base.fin (U := T.setFrames fs) hB eh hW (hsame.mono hk hn)⟩
theorem WkS.retI (H : WkS l Z y code mx ret R n0 W V) {z : Int32} (ht : ret = some .int) (hk : k ≤ R.cells) (hn : n ≤ R.slots) (hd : decode code pc = .ok (.ireturn, 1)) (r : W Ts h k n pc Ls (.int z :: st)) : V (some (.int z)) h :=
  H.retV ht rfl (Or.inl ⟨rfl, Or.inl rfl, z, rfl⟩) hk hn hd r
theorem WkS.retJ (H : WkS l Z y code mx ret R n0 W V) {z : Int64} (ht : ret = some .long) (hk : k ≤ R.cells) (hn : n ≤ R.slots) (hd : decode code pc = .ok (.lreturn, 1)) (r : W Ts h k n pc Ls (.long z :: st)) : V (some (.long z)) h :=
  H.retV ht rfl (Or.inr (Or.inl ⟨rfl, rfl, z, rfl⟩)) hk hn hd r
theorem WkS.retZ (H : WkS l Z y code mx ret R n0 W V) {z z' : Int32} (hz : z &&& 1 = z') (ht : ret = some .boolean) (hk : k ≤ R.cells) (hn : n ≤ R.slots) (hd : decode code pc = .ok (.ireturn, 1)) (r : W Ts h k n pc Ls (.int z :: st)) : V (some (.int z')) h := by
  subst hz
  obtain ⟨p, e, s0, m, args, below, meth, c, S0, hx, hby, hml, hnm, hret, hlk, hZs, rfl, rfl⟩ := H
  obtain ⟨s, T, locs, X, eh, N, hown, hZ, hB, sp⟩ := r
  have hrt : meth.sig.returnType = some .boolean := hret.trans ht
  obtain ⟨fs, hr, hrun, hended, hW, hsame⟩ := X.leave (v := some (.int (nar .boolean z))) (fun q => by rw [hrt] at q; cases q) hlk
  exact ⟨_, locs, sp _ (retN X hx hrt (by simp) (hb hby hd) hr), hrun, hended, eh, N, ⟨_, rfl⟩, Base.fin (U := T.setFrames fs) hB eh hW (hsame.mono hk hn)⟩
theorem WkS.retB (H : WkS l Z y code mx ret R n0 W V) {z z' : Int32} (hz : z.toInt8.toInt32 = z') (ht : ret = some .byte) (hk : k ≤ R.cells) (hn : n ≤ R.slots) (hd : decode code pc = .ok (.ireturn, 1)) (r : W Ts h k n pc Ls (.int z :: st)) : V (some (.int z')) h := by
  subst hz
  obtain ⟨p, e, s0, m, args, below, meth, c, S0, hx, hby, hml, hnm, hret, hlk, hZs, rfl, rfl⟩ := H
  obtain ⟨s, T, locs, X, eh, N, hown, hZ, hB, sp⟩ := r
  have hrt : meth.sig.returnType = some .byte := hret.trans ht
  obtain ⟨fs, hr, hrun, hended, hW, hsame⟩ := X.leave (v := some (.int (nar .byte z))) (fun q => by rw [hrt] at q; cases q) hlk
  exact ⟨_, locs, sp _ (retN X hx hrt (by simp) (hb hby hd) hr), hrun, hended, eh, N, ⟨_, rfl⟩, Base.fin (U := T.setFrames fs) hB eh hW (hsame.mono hk hn)⟩
theorem WkS.retC (H : WkS l Z y code mx ret R n0 W V) {z z' : Int32} (hz : z.toUInt32.toUInt16.toUInt32.toInt32 = z') (ht : ret = some .char) (hk : k ≤ R.cells) (hn : n ≤ R.slots) (hd : decode code pc = .ok (.ireturn, 1)) (r : W Ts h k n pc Ls (.int z :: st)) : V (some (.int z')) h := by
  subst hz
  obtain ⟨p, e, s0, m, args, below, meth, c, S0, hx, hby, hml, hnm, hret, hlk, hZs, rfl, rfl⟩ := H
  obtain ⟨s, T, locs, X, eh, N, hown, hZ, hB, sp⟩ := r
  have hrt : meth.sig.returnType = some .char := hret.trans ht
  obtain ⟨fs, hr, hrun, hended, hW, hsame⟩ := X.leave (v := some (.int (nar .char z))) (fun q => by rw [hrt] at q; cases q) hlk
  exact ⟨_, locs, sp _ (retN X hx hrt (by simp) (hb hby hd) hr), hrun, hended, eh, N, ⟨_, rfl⟩, Base.fin (U := T.setFrames fs) hB eh hW (hsame.mono hk hn)⟩
theorem WkS.retR (H : WkS l Z y code mx ret R n0 W V) {v : Value} {t : FieldType} (ht : ret = some t) (htr : t.isReference = true) (hv : v.isRef = true) (hk : k ≤ R.cells) (hn : n ≤ R.slots) (hd : decode code pc = .ok (.areturn, 1)) (r : W Ts h k n pc Ls (v :: st)) : V (some v) h :=
  H.retV ht (by cases v <;> simp [Value.isRef] at hv <;> cases t <;> simp [FieldType.isReference] at htr <;> rfl) (Or.inr (Or.inr (Or.inr (Or.inr ⟨rfl, htr, hv⟩)))) hk hn hd r
theorem WkS.retN (H : WkS l Z y code mx ret R n0 W V) (ht : ret = none) (hk : k ≤ R.cells) (hn : n ≤ R.slots) (hd : decode code pc = .ok (.return_, 1)) (r : W Ts h k n pc Ls []) : V none h := by
  obtain ⟨p, e, s0, m, args, below, meth, c, S0, hx, hby, hml, hnm, hret, hlk, hZs, rfl, rfl⟩ := H
  obtain ⟨s, T, locs, X, eh, N, hown, hZ, hB, sp⟩ := r
  have hrt : meth.sig.returnType = none := hret.trans ht
  obtain ⟨fs, hr, hrun, hended, hW, hsame⟩ := X.leave (v := none) (fun _ => rfl) hlk
  exact ⟨_, locs, sp _ (X.returnOut hx hrt (hb hby hd) hr), hrun, hended, eh, N, ⟨_, rfl⟩, Base.fin (U := T.setFrames fs) hB eh hW (hsame.mono hk hn)⟩
end Steps
section Arrays
variable {l : Launch} {Z : State} {y : MethodName} {code : ByteArray} {mx : Nat} {ret : Option FieldType} {R : Room} {n0 : Nat} {W : WTS} {Ts : List String × Option (Nat × Addr)} {V : VT} {h h' : Heap} {k n pc : Nat} {Ls : Array Slot} {st : List Value} {a0 : Array Value} {a b : Addr} {ty : FieldType} {vs : List Value} {ws : List Addr} {sl : Nat} {v : Value}
theorem WkS.newA (H : WkS l Z y code mx ret R n0 W V) {aty : ArrayType} {z : Int32} {cap i : Nat} {d : Value} (hty : newarray.typeOf aty = ty) (hdv : defaultValue ty = d) (w : (Jvm.Cond.arrayClass ty).before a0 Z = true) (hz : z.toInt = i) (hcap : i ≤ cap) (hb8 : cap * 8 ≤ 536870912) (hc : k + 1 ≤ R.cells) (hl : n + cap ≤ R.slots) (hd : decode code pc = .ok (.newarray aty, 2)) (r : W Ts h k n pc Ls (.int z :: st)) :
    ∃ h' a, a = h.size ∧ Ext h h' ∧ Ary Z h' a ty (List.replicate i d) ∧ W Ts h' (k + 1) (n + cap) (pc + 2) Ls (.ref a :: st) := by
  obtain ⟨h1, h2⟩ := idx_ok hz
  obtain ⟨h', a, cA, e, E, A, r'⟩ := H.newP hty w h2 (by rw [h1]; exact hcap) hb8 hc hl hd r
  refine ⟨h', a, e, E, ⟨_, A, ?_⟩, r'⟩
  show Array.replicate z.toNatClampNeg (defaultValue ty) = _
  rw [h1, hdv, List.toArray_replicate]
theorem WkS.newAE (H : WkS l Z y code mx ret R n0 W V) {aty : ArrayType} {z : Int32} {cap i : Nat} {d : Value} {ad : String} (hty : newarray.typeOf aty = ty) (hdv : defaultValue ty = d) (had : "[" ++ ty.toString = ad) (w : (Jvm.Cond.arrayClass ty).before a0 Z = true) (hz : z.toInt = i) (hcap : i ≤ cap) (hb8 : cap * 8 ≤ 536870912) (hc : k + 1 ≤ R.cells) (hl : n + cap ≤ R.slots) (hd : decode code pc = .ok (.newarray aty, 2)) (r : W Ts h k n pc Ls (.int z :: st)) :
    ∃ h' a, a = h.size ∧ Ext h h' ∧ Ary Z h' a ty (List.replicate i d) ∧ Exa Z h' a ad ∧ W Ts h' (k + 1) (n + cap) (pc + 2) Ls (.ref a :: st) := by
  obtain ⟨h1, h2⟩ := idx_ok hz
  subst hty
  obtain ⟨p, e, s0, m, args, below, meth, c, S0, hx, hby, hml, hnm, hret, hlk, hZs, rfl, rfl⟩ := H
  obtain ⟨s, T, locs, X, eh, N, hown, hZ, hB, sp⟩ := r
  obtain ⟨T', h', cA, X', e', E', A', EX, q'⟩ := RoadKit.newPE X hx hZ w eh (g := mkF m pc Ls (.int z :: st)) rfl (hb hby hd) rfl h2 (by rw [h1]; exact hcap) hb8 hc hl had
  refine ⟨h', _, rfl, E', ⟨_, A', ?_⟩, EX, s, T', _, X', e', N, hown, hZ, hB.mono E'.1, fun t u => sp t (q' t u)⟩
  show Array.replicate z.toNatClampNeg (defaultValue (newarray.typeOf aty)) = _
  rw [h1, hdv, List.toArray_replicate]
theorem WkS.cloneA (H : WkS l Z y code mx ret R n0 W V) {i w cap : Nat} {ad : String} (w1 : (Jvm.Cond.methodLink y.cls i ⟨ad, "clone", "()Ljava/lang/Object;"⟩).before a0 Z = true) (w2 : (Jvm.Cond.sameMethod ad "java/lang/Object" "clone" "()Ljava/lang/Object;").before a0 Z = true) (w3 : (Jvm.Cond.native ⟨"java/lang/Object", "clone", "()Ljava/lang/Object;"⟩).before a0 Z = true)
    (w4 : (Jvm.Cond.instanceMethod ⟨"java/lang/Object", "clone", "()Ljava/lang/Object;"⟩).before a0 Z = true) (w5 : (Jvm.Cond.selects ad ⟨ad, "clone", "()Ljava/lang/Object;"⟩ ⟨"java/lang/Object", "clone", "()Ljava/lang/Object;"⟩).before a0 Z = true) (w6 : (Jvm.Cond.castable ad "java/lang/Cloneable").before a0 Z = true)
    (A : Ary Z h a ty vs) (E : Exa Z h a ad) (hfit : ∀ v ∈ vs, fits ty v = true) (hsz : Ls.size = mx) (hf : 1 ≤ R.frames) (hw : (st.map fun v => v.category).sum ≤ w) (hl : w + 14 ≤ R.locals) (hcap : vs.length ≤ cap) (hc : k + 1 ≤ R.cells) (hsl : n + cap ≤ R.slots) (hd : decode code pc = .ok (.invokevirtual i, 3)) (r : W Ts h k n pc Ls (.ref a :: st)) :
    ∃ h' b, b = h.size ∧ Ext h h' ∧ Ary Z h' b ty vs ∧ Exa Z h' b ad ∧ W Ts h' (k + 1) (n + cap) (pc + 3) Ls (.ref b :: st) := by
  obtain ⟨p, e, s0, m, args, below, meth, c, S0, hx, hby, hml, hnm, hret, hlk, hZs, rfl, rfl⟩ := H
  obtain ⟨s, T, locs, X, eh, N, hown, hZ, hB, sp⟩ := r
  obtain ⟨cl, Ar, q⟩ := A
  have hF : FitC Z cl := fitC_of Ar (fun j hj v hv => hfit v (by rw [q, List.getElem?_toArray] at hv; exact List.mem_of_getElem? hv))
  obtain ⟨T', h', X', e', E', A', EX, q'⟩ := RoadKit.cloneA X hx hZ hown w1 w2 w3 w4 w5 w6 eh Ar E hF (g := mkF m pc Ls (.ref a :: st)) rfl (by rw [hml]; exact hsz) rfl (hb hby hd) hf (by show 2 * 0 + _ ≤ _; omega) hl (by rw [q, List.size_toArray]; exact hcap) hc hsl
  exact ⟨h', _, rfl, E', ⟨_, A', q⟩, EX, s, T', _, X', e', N, hown, hZ, hB.mono E'.1, fun t u => sp t (q' t u)⟩
theorem WkS.lenA (H : WkS l Z y code mx ret R n0 W V) {z : Int32} (A : Ary Z h a ty vs) (hz : vs.length.toInt32 = z) (hd : decode code pc = .ok (.arraylength, 1)) (r : W Ts h k n pc Ls (.ref a :: st)) : W Ts h k n (pc + 1) Ls (.int z :: st) := by
  obtain ⟨c, A, q⟩ := A
  exact H.arrLen A (by rw [q, List.size_toArray]; exact hz) hd r
theorem WkS.ldI (H : WkS l Z y code mx ret R n0 W V) {j : Int32} {i : Nat} (A : Ary Z h a .int vs) (hj : j.toInt = i) (hv : vs[i]? = some v) (hd : decode code pc = .ok (.iaload, 1)) (r : W Ts h k n pc Ls (.int j :: .ref a :: st)) : W Ts h k n (pc + 1) Ls (v :: st) := by
  obtain ⟨c, A, q⟩ := A
  obtain ⟨h1, h2⟩ := idx_ok hj
  exact H.iaload A (idx_in' hj q (List.getElem?_eq_some_iff.mp hv).1) (by rw [h1, q, List.getElem?_toArray]; exact hv) hd r
theorem WkS.ldJ (H : WkS l Z y code mx ret R n0 W V) {j : Int32} {i : Nat} (A : Ary Z h a .long vs) (hj : j.toInt = i) (hv : vs[i]? = some v) (hd : decode code pc = .ok (.laload, 1)) (r : W Ts h k n pc Ls (.int j :: .ref a :: st)) : W Ts h k n (pc + 1) Ls (v :: st) := by
  obtain ⟨c, A, q⟩ := A
  obtain ⟨h1, h2⟩ := idx_ok hj
  exact H.laload A (idx_in' hj q (List.getElem?_eq_some_iff.mp hv).1) (by rw [h1, q, List.getElem?_toArray]; exact hv) hd r
theorem WkS.ldC (H : WkS l Z y code mx ret R n0 W V) {j : Int32} {i : Nat} (A : Ary Z h a .char vs) (hj : j.toInt = i) (hv : vs[i]? = some v) (hd : decode code pc = .ok (.caload, 1)) (r : W Ts h k n pc Ls (.int j :: .ref a :: st)) : W Ts h k n (pc + 1) Ls (v :: st) := by
  obtain ⟨c, A, q⟩ := A
  obtain ⟨h1, h2⟩ := idx_ok hj
  exact H.caload A (idx_in' hj q (List.getElem?_eq_some_iff.mp hv).1) (by rw [h1, q, List.getElem?_toArray]; exact hv) hd r
theorem WkS.ldB (H : WkS l Z y code mx ret R n0 W V) {j : Int32} {i : Nat} (A : Ary Z h a .byte vs) (hj : j.toInt = i) (hv : vs[i]? = some v) (hd : decode code pc = .ok (.baload, 1)) (r : W Ts h k n pc Ls (.int j :: .ref a :: st)) : W Ts h k n (pc + 1) Ls (v :: st) := by
  obtain ⟨c, A, q⟩ := A
  obtain ⟨h1, h2⟩ := idx_ok hj
  exact H.baload A (idx_in' hj q (List.getElem?_eq_some_iff.mp hv).1) (by rw [h1, q, List.getElem?_toArray]; exact hv) hd r
theorem WkS.putI (H : WkS l Z y code mx ret R n0 W V) {j : Int32} {i : Nat} {x : Int32} (A : Ary Z h a .int vs) (hj : j.toInt = i) (hi : i < vs.length) (hn0 : n0 ≤ a) (hd : decode code pc = .ok (.iastore, 1)) (r : W Ts h k n pc Ls (.int x :: .int j :: .ref a :: st)) : ∃ h', Wr h h' a i (.int x) ∧ Ary Z h' a .int (vs.set i (.int x)) ∧ W Ts h' k n (pc + 1) Ls st := by
  obtain ⟨h1, h2⟩ := idx_ok hj
  obtain ⟨c, A', q⟩ := id A
  obtain ⟨h', w, r'⟩ := H.stI A' (idx_in' hj q hi) hn0 hd r
  rw [h1] at w
  exact ⟨h', w, A.same w, r'⟩
theorem WkS.putJ (H : WkS l Z y code mx ret R n0 W V) {j : Int32} {i : Nat} {x : Int64} (A : Ary Z h a .long vs) (hj : j.toInt = i) (hi : i < vs.length) (hn0 : n0 ≤ a) (hd : decode code pc = .ok (.lastore, 1)) (r : W Ts h k n pc Ls (.long x :: .int j :: .ref a :: st)) : ∃ h', Wr h h' a i (.long x) ∧ Ary Z h' a .long (vs.set i (.long x)) ∧ W Ts h' k n (pc + 1) Ls st := by
  obtain ⟨h1, h2⟩ := idx_ok hj
  obtain ⟨c, A', q⟩ := id A
  obtain ⟨h', w, r'⟩ := H.stJ A' (idx_in' hj q hi) hn0 hd r
  rw [h1] at w
  exact ⟨h', w, A.same w, r'⟩
theorem WkS.putC (H : WkS l Z y code mx ret R n0 W V) {j : Int32} {i : Nat} {x : Int32} {z : Int32} (hz : x.toUInt32.toUInt16.toUInt32.toInt32 = z) (A : Ary Z h a .char vs) (hj : j.toInt = i) (hi : i < vs.length) (hn0 : n0 ≤ a) (hd : decode code pc = .ok (.castore, 1)) (r : W Ts h k n pc Ls (.int x :: .int j :: .ref a :: st)) : ∃ h', Wr h h' a i (.int z) ∧ Ary Z h' a .char (vs.set i (.int z)) ∧ W Ts h' k n (pc + 1) Ls st := by
  subst hz
  obtain ⟨h1, h2⟩ := idx_ok hj
  obtain ⟨c, A', q⟩ := id A
  obtain ⟨h', w, r'⟩ := H.stC A' (idx_in' hj q hi) hn0 hd r
  rw [h1] at w
  exact ⟨h', w, A.same w, r'⟩
theorem WkS.putB (H : WkS l Z y code mx ret R n0 W V) {j : Int32} {i : Nat} {x : Int32} {z : Int32} (hz : x.toInt8.toInt32 = z) (A : Ary Z h a .byte vs) (hj : j.toInt = i) (hi : i < vs.length) (hn0 : n0 ≤ a) (hd : decode code pc = .ok (.bastore, 1)) (r : W Ts h k n pc Ls (.int x :: .int j :: .ref a :: st)) : ∃ h', Wr h h' a i (.int z) ∧ Ary Z h' a .byte (vs.set i (.int z)) ∧ W Ts h' k n (pc + 1) Ls st := by
  subst hz
  obtain ⟨h1, h2⟩ := idx_ok hj
  obtain ⟨c, A', q⟩ := id A
  obtain ⟨h', w, r'⟩ := H.stB A' (idx_in' hj q hi) hn0 hd r
  rw [h1] at w
  exact ⟨h', w, A.same w, r'⟩
end Arrays
section Lits
variable {l : Launch} {Z : State} {y : MethodName} {code : ByteArray} {mx : Nat} {ret : Option FieldType} {R : Room} {n0 : Nat} {W : WTS} {Ts : List String × Option (Nat × Addr)} {V : VT} {h : Heap} {k n pc : Nat} {Ls : Array Slot} {st : List Value} {a0 : Array Value}
/-- ldc of a String constant below 256, loaded for the first time in this walk -/
theorem WkS.ldcS (H : WkS l Z y code mx ret R n0 W V) {i q : Nat} {text : String} {vs : List Value} {z : Int32} (w : (Jvm.Cond.stringLink y.cls i text).before a0 Z = true) (wS : ∀ a ∈ Bundle.stringAtoms, a.before a0 Z = true) (hnot : text ∉ Ts.1) (hh : Jvm.Lit.constHeld Z y.cls i) (hcw : Jvm.Lit.compactW.before a0 Z = true)
    (ht : (∀ c ∈ text.toList, c.toNat < 256) ∧ text.toList.map (fun c => Value.int (Jvm.Lit.byteI c.toNat.toUInt16)) = vs) (hz : ¬ z < 0) (hl : z.toNatClampNeg = vs.length) (hq : 4 * text.toList.length ≤ q) (hbig : q ≤ 536870912) (hc : k + 2 ≤ R.cells) (hn : n + (q + 4) ≤ R.slots) (hd : decode code pc = .ok (.ldc i, 2)) (r : W Ts h k n pc Ls st) :
    ∃ (h' : Heap) (a b : Addr), Ext h h' ∧ Exa Z h' a "java/lang/String" ∧ Fld Z h' a "java/lang/String" "coder" "B" (.int 0) ∧ Fld Z h' a "java/lang/String" "value" "[B" (.ref b) ∧ Ary Z h' b .byte vs ∧ W (text :: Ts.1, some (i, a)) h' (k + 2) (n + (q + 4)) (pc + 2) Ls (.ref a :: st) := by
  obtain ⟨p, e, s0, m, args, below, meth, c, S0, hx, hby, hml, hnm, hret, hlk, hZs, rfl, rfl⟩ := H
  obtain ⟨s, T, locs, X, eh, N, hown, hZ, ⟨vm0, k0, rfl, S, hk, I, -⟩, sp⟩ := r
  obtain ⟨a, T', h', k1, b, kc, X', e', E', S', hk', hZ', hown', A1, F1, F2, V1, -, -, I', L', st'⟩ := RoadKit.ldcSVL X hx hZ hown w wS eh S hk (by rw [← hZs.2]; exact N) (fun b cl u => by rw [hZs.1]; exact u) I hnot hh hcw ht hz hl (g := mkF m pc Ls st) rfl (hb hby hd) hq hbig hc hn
  refine ⟨h', a, b, E', A1, F1, F2, ?_, s0.setVm T'.vm, T', locs, X', e', N, hown', hZ', ⟨T'.vm, k1, rfl, S', hk', I', fun i' a' q => by first | (cases q; exact L') | (simp only [Option.some.injEq, Prod.mk.injEq] at q; obtain ⟨rfl, rfl⟩ := q; exact L')⟩, fun t u => sp t (st' t u)⟩
  obtain ⟨cc, A, -, Sz, -, Hs, -⟩ := V1
  refine ⟨cc, A, ?_⟩
  have hlen : cc.slots.size = vs.length := Sz.trans hl
  apply Array.ext_getElem?
  intro j
  by_cases hj : j < cc.slots.size
  · rw [Hs j hj, List.getElem?_toArray, List.getD_eq_getElem?_getD, List.getElem?_eq_getElem (by omega)] <;> rfl
  · rw [Array.getElem?_eq_none (by omega), List.getElem?_toArray, List.getElem?_eq_none (by omega)]
/-- .. and loaded again: the same String -/
theorem WkS.ldcAgain (H : WkS l Z y code mx ret R n0 W V) {i : Nat} {text : String} {a : Addr} (w : (Jvm.Cond.stringLink y.cls i text).before a0 Z = true) (hL : Ts.2 = some (i, a)) (hd : decode code pc = .ok (.ldc i, 2)) (r : W Ts h k n pc Ls st) : W Ts h k n (pc + 2) Ls (.ref a :: st) := by
  obtain ⟨p, e, s0, m, args, below, meth, c, S0, hx, hby, hml, hnm, hret, hlk, hZs, rfl, rfl⟩ := H
  obtain ⟨s, T, locs, X, eh, N, hown, hZ, ⟨vm0, k0, rfl, S, hk, I, J⟩, sp⟩ := r
  exact ⟨s0.setVm vm0, T, locs, X, eh, N, hown, hZ, ⟨vm0, k0, rfl, S, hk, I, J⟩, fun t u => sp t (RoadKit.ldcAgain X hx hZ hown w (J i a hL) (g := mkF m pc Ls st) rfl (hb hby hd) t u)⟩
end Lits
end Jvm.OwnS

namespace Jvm.Pilot.@@N@@
open Jvm Jvm.ClassFile Sem Op Lib Jvm.Free Jvm.Stand Jvm.LawKit Jvm.RoadKit Bundle Jvm.OwnW Jvm.OwnS Jvm.Pilot.@@N@@.Jvm.D
theorem own_256 : ∀ n : Fin 256, (Int32.ofNat n.val).toUInt32.toUInt16.toUInt32.toInt32 = Int32.ofNat n.val ∧ ((Int32.ofNat n.val).toInt8.toInt32 &&& (255 : Int32)).toUInt32.toUInt16.toUInt32.toInt32 = Int32.ofNat n.val ∧ ¬ (255 : Int32) < Int32.ofNat n.val := by decide +kernel
theorem own_m255 (x : Int32) : ∃ n : Nat, n < 256 ∧ (x &&& (255 : Int32)) = Int32.ofNat n := by
  have h1 : (x &&& (255 : Int32)).toInt = x.toInt % (2 ^ 8 : Nat) := c_mask x _ 8 (by decide) (by decide)
  refine ⟨(x &&& (255 : Int32)).toInt.toNat, by omega, ?_⟩
  apply Int32.toInt_inj.mp
  rw [own_ofNat (by omega)]
  omega
/-- a sign of one byte -/
def own_sg (c : Int32) : Prop := c.toUInt32.toUInt16.toUInt32.toInt32 = c ∧ (c.toInt8.toInt32 &&& (255 : Int32)).toUInt32.toUInt16.toUInt32.toInt32 = c ∧ ¬ (255 : Int32) < c
theorem own_ch3 (x : Int32) : ∃ c : Int32, (x &&& (255 : Int32)).toUInt32.toUInt16.toUInt32.toInt32 = c ∧ own_sg c := by
  obtain ⟨n, hn, e⟩ := own_m255 x
  exact ⟨Int32.ofNat n, by rw [e]; exact (own_256 ⟨n, hn⟩).1, own_256 ⟨n, hn⟩⟩
theorem own_bb (c : Int32) : c.toInt8.toInt32.toInt8.toInt32 = c.toInt8.toInt32 := by rw [Int8.toInt8_toInt32]
theorem own_bit (P : Prop) [Decidable P] : ∃ z : Int32, (if P then (0 : Int32) else (1 : Int32)) = z ∧ (z = 0 ∨ z = 1) := by
  by_cases h : P
  · exact ⟨0, if_pos h, Or.inl rfl⟩
  · exact ⟨1, if_neg h, Or.inr rfl⟩
theorem d1_0 : decode jdk_42_method_3_code 0 = .ok (.aload_n 0, 1) := by decide +kernel
theorem d1_1 : decode jdk_42_method_3_code 1 = .ok (.aload_n 1, 1) := by decide +kernel
theorem d1_2 : decode jdk_42_method_3_code 2 = .ok (.iconst 0, 1) := by decide +kernel
theorem d1_3 : decode jdk_42_method_3_code 3 = .ok (.aload_n 1, 1) := by decide +kernel
theorem d1_4 : decode jdk_42_method_3_code 4 = .ok (.arraylength, 1) := by decide +kernel
theorem d1_5 : decode jdk_42_method_3_code 5 = .ok (.aconst_null, 1) := by decide +kernel
theorem d1_6 : decode jdk_42_method_3_code 6 = .ok (.invokespecial 27, 3) := by decide +kernel
theorem d1_9 : decode jdk_42_method_3_code 9 = .ok (.return_, 1) := by decide +kernel
theorem d2_0 : decode jdk_42_method_149_code 0 = .ok (.aload_n 0, 1) := by decide +kernel
theorem d2_1 : decode jdk_42_method_149_code 1 = .ok (.invokespecial 1, 3) := by decide +kernel
theorem d2_4 : decode jdk_42_method_149_code 4 = .ok (.iload_n 3, 1) := by decide +kernel
theorem d2_5 : decode jdk_42_method_149_code 5 = .ok (.ifCond .ne 22, 3) := by decide +kernel
theorem d2_27 : decode jdk_42_method_149_code 27 = .ok (.getstatic 38, 3) := by decide +kernel
theorem d2_30 : decode jdk_42_method_149_code 30 = .ok (.ifCond .eq 28, 3) := by decide +kernel
theorem d2_33 : decode jdk_42_method_149_code 33 = .ok (.aload_n 1, 1) := by decide +kernel
theorem d2_34 : decode jdk_42_method_149_code 34 = .ok (.iload_n 2, 1) := by decide +kernel
theorem d2_35 : decode jdk_42_method_149_code 35 = .ok (.iload_n 3, 1) := by decide +kernel
theorem d2_36 : decode jdk_42_method_149_code 36 = .ok (.invokestatic 177, 3) := by decide +kernel
theorem d2_39 : decode jdk_42_method_149_code 39 = .ok (.astore 5, 2) := by decide +kernel
theorem d2_41 : decode jdk_42_method_149_code 41 = .ok (.aload_n 0, 1) := by decide +kernel
theorem d2_42 : decode jdk_42_method_149_code 42 = .ok (.aload 5, 2) := by decide +kernel
theorem d2_44 : decode jdk_42_method_149_code 44 = .ok (.iload_n 3, 1) := by decide +kernel
theorem d2_45 : decode jdk_42_method_149_code 45 = .ok (.invokestatic 47, 3) := by decide +kernel
theorem d2_48 : decode jdk_42_method_149_code 48 = .ok (.putfield 15, 3) := by decide +kernel
theorem d2_51 : decode jdk_42_method_149_code 51 = .ok (.aload_n 0, 1) := by decide +kernel
theorem d2_52 : decode jdk_42_method_149_code 52 = .ok (.aload 5, 2) := by decide +kernel
theorem d2_54 : decode jdk_42_method_149_code 54 = .ok (.putfield 9, 3) := by decide +kernel
theorem d2_57 : decode jdk_42_method_149_code 57 = .ok (.return_, 1) := by decide +kernel
theorem d4_0 : decode jdk_52_method_16_code 0 = .ok (.iload_n 2, 1) := by decide +kernel
theorem d4_1 : decode jdk_52_method_16_code 1 = .ok (.newarray .byte, 2) := by decide +kernel
theorem d4_3 : decode jdk_52_method_16_code 3 = .ok (.astore_n 3, 1) := by decide +kernel
theorem d4_4 : decode jdk_52_method_16_code 4 = .ok (.aload_n 0, 1) := by decide +kernel
theorem d4_5 : decode jdk_52_method_16_code 5 = .ok (.iload_n 1, 1) := by decide +kernel
theorem d4_6 : decode jdk_52_method_16_code 6 = .ok (.aload_n 3, 1) := by decide +kernel
theorem d4_7 : decode jdk_52_method_16_code 7 = .ok (.iconst 0, 1) := by decide +kernel
theorem d4_8 : decode jdk_52_method_16_code 8 = .ok (.iload_n 2, 1) := by decide +kernel
theorem d4_9 : decode jdk_52_method_16_code 9 = .ok (.invokestatic 115, 3) := by decide +kernel
theorem d4_12 : decode jdk_52_method_16_code 12 = .ok (.istore 4, 2) := by decide +kernel
theorem d4_14 : decode jdk_52_method_16_code 14 = .ok (.iload 4, 2) := by decide +kernel
theorem d4_16 : decode jdk_52_method_16_code 16 = .ok (.iload_n 2, 1) := by decide +kernel
theorem d4_17 : decode jdk_52_method_16_code 17 = .ok (.if_icmp .eq 40, 3) := by decide +kernel
theorem d4_57 : decode jdk_52_method_16_code 57 = .ok (.aload_n 3, 1) := by decide +kernel
theorem d4_58 : decode jdk_52_method_16_code 58 = .ok (.areturn, 1) := by decide +kernel
theorem d5_0 : decode jdk_52_method_21_code 0 = .ok (.iconst 0, 1) := by decide +kernel
theorem d5_1 : decode jdk_52_method_21_code 1 = .ok (.istore 5, 2) := by decide +kernel
theorem d5_3 : decode jdk_52_method_21_code 3 = .ok (.iload 5, 2) := by decide +kernel
theorem d5_5 : decode jdk_52_method_21_code 5 = .ok (.iload 4, 2) := by decide +kernel
theorem d5_7 : decode jdk_52_method_21_code 7 = .ok (.if_icmp .ge 37, 3) := by decide +kernel
theorem d5_10 : decode jdk_52_method_21_code 10 = .ok (.aload_n 0, 1) := by decide +kernel
theorem d5_11 : decode jdk_52_method_21_code 11 = .ok (.iload_n 1, 1) := by decide +kernel
theorem d5_12 : decode jdk_52_method_21_code 12 = .ok (.caload, 1) := by decide +kernel
theorem d5_13 : decode jdk_52_method_21_code 13 = .ok (.istore 6, 2) := by decide +kernel
theorem d5_15 : decode jdk_52_method_21_code 15 = .ok (.iload 6, 2) := by decide +kernel
theorem d5_17 : decode jdk_52_method_21_code 17 = .ok (.sipush 255, 3) := by decide +kernel
theorem d5_20 : decode jdk_52_method_21_code 20 = .ok (.if_icmp .le 6, 3) := by decide +kernel
theorem d5_26 : decode jdk_52_method_21_code 26 = .ok (.aload_n 2, 1) := by decide +kernel
theorem d5_27 : decode jdk_52_method_21_code 27 = .ok (.iload_n 3, 1) := by decide +kernel
theorem d5_28 : decode jdk_52_method_21_code 28 = .ok (.iload 6, 2) := by decide +kernel
theorem d5_30 : decode jdk_52_method_21_code 30 = .ok (.i2b, 1) := by decide +kernel
theorem d5_31 : decode jdk_52_method_21_code 31 = .ok (.bastore, 1) := by decide +kernel
theorem d5_32 : decode jdk_52_method_21_code 32 = .ok (.iinc 1 1, 3) := by decide +kernel
theorem d5_35 : decode jdk_52_method_21_code 35 = .ok (.iinc 3 1, 3) := by decide +kernel
theorem d5_38 : decode jdk_52_method_21_code 38 = .ok (.iinc 5 1, 3) := by decide +kernel
theorem d5_41 : decode jdk_52_method_21_code 41 = .ok (.goto (-38), 3) := by decide +kernel
theorem d5_44 : decode jdk_52_method_21_code 44 = .ok (.iload 4, 2) := by decide +kernel
theorem d5_46 : decode jdk_52_method_21_code 46 = .ok (.ireturn, 1) := by decide +kernel
theorem d6_0 : decode jdk_52_method_15_code 0 = .ok (.iload_n 1, 1) := by decide +kernel
theorem d6_1 : decode jdk_52_method_15_code 1 = .ok (.aload_n 0, 1) := by decide +kernel
theorem d6_2 : decode jdk_52_method_15_code 2 = .ok (.arraylength, 1) := by decide +kernel
theorem d6_3 : decode jdk_52_method_15_code 3 = .ok (.isub, 1) := by decide +kernel
theorem d6_4 : decode jdk_52_method_15_code 4 = .ok (.bipush 31, 2) := by decide +kernel
theorem d6_6 : decode jdk_52_method_15_code 6 = .ok (.iushr, 1) := by decide +kernel
theorem d6_7 : decode jdk_52_method_15_code 7 = .ok (.i2b, 1) := by decide +kernel
theorem d6_8 : decode jdk_52_method_15_code 8 = .ok (.ireturn, 1) := by decide +kernel
theorem d7_0 : decode prog_107_method_1_code 0 = .ok (.aload_n 0, 1) := by decide +kernel
theorem d7_1 : decode prog_107_method_1_code 1 = .ok (.invokespecial 1, 3) := by decide +kernel
theorem d7_4 : decode prog_107_method_1_code 4 = .ok (.aload_n 0, 1) := by decide +kernel
theorem d7_5 : decode prog_107_method_1_code 5 = .ok (.iload_n 1, 1) := by decide +kernel
theorem d7_6 : decode prog_107_method_1_code 6 = .ok (.putfield 7, 3) := by decide +kernel
theorem d7_9 : decode prog_107_method_1_code 9 = .ok (.aload_n 0, 1) := by decide +kernel
theorem d7_10 : decode prog_107_method_1_code 10 = .ok (.iload_n 2, 1) := by decide +kernel
theorem d7_11 : decode prog_107_method_1_code 11 = .ok (.putfield 13, 3) := by decide +kernel
theorem d7_14 : decode prog_107_method_1_code 14 = .ok (.return_, 1) := by decide +kernel
theorem d8_0 : decode jdk_30_method_1_code 0 = .ok (.aload_n 0, 1) := by decide +kernel
theorem d8_1 : decode jdk_30_method_1_code 1 = .ok (.invokespecial 1, 3) := by decide +kernel
theorem d8_4 : decode jdk_30_method_1_code 4 = .ok (.return_, 1) := by decide +kernel
theorem d9_0 : decode jdk_38_method_2_code 0 = .ok (.aload_n 0, 1) := by decide +kernel
theorem d9_1 : decode jdk_38_method_2_code 1 = .ok (.invokespecial 1, 3) := by decide +kernel
theorem d9_4 : decode jdk_38_method_2_code 4 = .ok (.aload_n 0, 1) := by decide +kernel
theorem d9_5 : decode jdk_38_method_2_code 5 = .ok (.getstatic 39, 3) := by decide +kernel
theorem d9_8 : decode jdk_38_method_2_code 8 = .ok (.putfield 9, 3) := by decide +kernel
theorem d9_11 : decode jdk_38_method_2_code 11 = .ok (.return_, 1) := by decide +kernel
theorem d10_0 : decode jdk_39_method_1_code 0 = .ok (.aload_n 0, 1) := by decide +kernel
theorem d10_1 : decode jdk_39_method_1_code 1 = .ok (.invokespecial 1, 3) := by decide +kernel
theorem d10_4 : decode jdk_39_method_1_code 4 = .ok (.aload_n 0, 1) := by decide +kernel
theorem d10_5 : decode jdk_39_method_1_code 5 = .ok (.iconst 0, 1) := by decide +kernel
theorem d10_6 : decode jdk_39_method_1_code 6 = .ok (.putfield 7, 3) := by decide +kernel
theorem d10_9 : decode jdk_39_method_1_code 9 = .ok (.return_, 1) := by decide +kernel
theorem d11_0 : decode jdk_22_method_1_code 0 = .ok (.aload_n 0, 1) := by decide +kernel
theorem d11_1 : decode jdk_22_method_1_code 1 = .ok (.invokespecial 1, 3) := by decide +kernel
theorem d11_4 : decode jdk_22_method_1_code 4 = .ok (.return_, 1) := by decide +kernel
theorem d12_0 : decode prog_14_method_1_code 0 = .ok (.aload_n 0, 1) := by decide +kernel
theorem d12_1 : decode prog_14_method_1_code 1 = .ok (.invokespecial 1, 3) := by decide +kernel
theorem d12_4 : decode prog_14_method_1_code 4 = .ok (.aload_n 0, 1) := by decide +kernel
theorem d12_5 : decode prog_14_method_1_code 5 = .ok (.aload_n 1, 1) := by decide +kernel
theorem d12_6 : decode prog_14_method_1_code 6 = .ok (.putfield 7, 3) := by decide +kernel
theorem d12_9 : decode prog_14_method_1_code 9 = .ok (.aload_n 0, 1) := by decide +kernel
theorem d12_10 : decode prog_14_method_1_code 10 = .ok (.aload_n 2, 1) := by decide +kernel
theorem d12_11 : decode prog_14_method_1_code 11 = .ok (.putfield 13, 3) := by decide +kernel
theorem d12_14 : decode prog_14_method_1_code 14 = .ok (.aload_n 0, 1) := by decide +kernel
theorem d12_15 : decode prog_14_method_1_code 15 = .ok (.aload_n 3, 1) := by decide +kernel
theorem d12_16 : decode prog_14_method_1_code 16 = .ok (.putfield 17, 3) := by decide +kernel
theorem d12_19 : decode prog_14_method_1_code 19 = .ok (.aload_n 0, 1) := by decide +kernel
theorem d12_20 : decode prog_14_method_1_code 20 = .ok (.aload 4, 2) := by decide +kernel
theorem d12_22 : decode prog_14_method_1_code 22 = .ok (.putfield 20, 3) := by decide +kernel
theorem d12_25 : decode prog_14_method_1_code 25 = .ok (.aload_n 0, 1) := by decide +kernel
theorem d12_26 : decode prog_14_method_1_code 26 = .ok (.aload 5, 2) := by decide +kernel
theorem d12_28 : decode prog_14_method_1_code 28 = .ok (.putfield 24, 3) := by decide +kernel
theorem d12_31 : decode prog_14_method_1_code 31 = .ok (.aload_n 0, 1) := by decide +kernel
theorem d12_32 : decode prog_14_method_1_code 32 = .ok (.aload 6, 2) := by decide +kernel
theorem d12_34 : decode prog_14_method_1_code 34 = .ok (.putfield 27, 3) := by decide +kernel
theorem d12_37 : decode prog_14_method_1_code 37 = .ok (.return_, 1) := by decide +kernel
theorem d13_0 : decode prog_14_method_2_code 0 = .ok (.aload_n 0, 1) := by decide +kernel
theorem d13_1 : decode prog_14_method_2_code 1 = .ok (.getfield 13, 3) := by decide +kernel
theorem d13_4 : decode prog_14_method_2_code 4 = .ok (.ifnull 10, 3) := by decide +kernel
theorem d13_7 : decode prog_14_method_2_code 7 = .ok (.aload_n 0, 1) := by decide +kernel
theorem d13_8 : decode prog_14_method_2_code 8 = .ok (.getfield 13, 3) := by decide +kernel
theorem d13_11 : decode prog_14_method_2_code 11 = .ok (.goto 7, 3) := by decide +kernel
theorem d13_14 : decode prog_14_method_2_code 14 = .ok (.aload_n 0, 1) := by decide +kernel
theorem d13_15 : decode prog_14_method_2_code 15 = .ok (.getfield 17, 3) := by decide +kernel
theorem d13_18 : decode prog_14_method_2_code 18 = .ok (.areturn, 1) := by decide +kernel
theorem d14_0 : decode method_2_code 0 = .ok (.iload_n 1, 1) := by decide +kernel
theorem d14_1 : decode method_2_code 1 = .ok (.ifCond .eq 8, 3) := by decide +kernel
theorem d14_4 : decode method_2_code 4 = .ok (.aload_n 0, 1) := by decide +kernel
theorem d14_5 : decode method_2_code 5 = .ok (.invokevirtual 7, 3) := by decide +kernel
theorem d14_8 : decode method_2_code 8 = .ok (.ireturn, 1) := by decide +kernel
theorem d14_9 : decode method_2_code 9 = .ok (.aload_n 0, 1) := by decide +kernel
theorem d14_10 : decode method_2_code 10 = .ok (.invokevirtual 13, 3) := by decide +kernel
theorem d14_13 : decode method_2_code 13 = .ok (.iconst 2, 1) := by decide +kernel
theorem d14_14 : decode method_2_code 14 = .ok (.if_icmp .ne 25, 3) := by decide +kernel
theorem d14_17 : decode method_2_code 17 = .ok (.aload_n 0, 1) := by decide +kernel
theorem d14_18 : decode method_2_code 18 = .ok (.iconst 0, 1) := by decide +kernel
theorem d14_19 : decode method_2_code 19 = .ok (.invokevirtual 17, 3) := by decide +kernel
theorem d14_22 : decode method_2_code 22 = .ok (.iload_n 2, 1) := by decide +kernel
theorem d14_23 : decode method_2_code 23 = .ok (.if_icmp .ne 16, 3) := by decide +kernel
theorem d14_26 : decode method_2_code 26 = .ok (.aload_n 0, 1) := by decide +kernel
theorem d14_27 : decode method_2_code 27 = .ok (.iconst 1, 1) := by decide +kernel
theorem d14_28 : decode method_2_code 28 = .ok (.invokevirtual 17, 3) := by decide +kernel
theorem d14_31 : decode method_2_code 31 = .ok (.iload_n 3, 1) := by decide +kernel
theorem d14_32 : decode method_2_code 32 = .ok (.if_icmp .ne 7, 3) := by decide +kernel
theorem d14_35 : decode method_2_code 35 = .ok (.iconst 1, 1) := by decide +kernel
theorem d14_36 : decode method_2_code 36 = .ok (.goto 4, 3) := by decide +kernel
theorem d14_40 : decode method_2_code 40 = .ok (.ireturn, 1) := by decide +kernel
theorem d15_0 : decode jdk_42_method_54_code 0 = .ok (.aload_n 0, 1) := by decide +kernel
theorem d15_1 : decode jdk_42_method_54_code 1 = .ok (.getfield 9, 3) := by decide +kernel
theorem d15_4 : decode jdk_42_method_54_code 4 = .ok (.arraylength, 1) := by decide +kernel
theorem d15_5 : decode jdk_42_method_54_code 5 = .ok (.aload_n 0, 1) := by decide +kernel
theorem d15_6 : decode jdk_42_method_54_code 6 = .ok (.invokevirtual 335, 3) := by decide +kernel
theorem d15_9 : decode jdk_42_method_54_code 9 = .ok (.ishr, 1) := by decide +kernel
theorem d15_10 : decode jdk_42_method_54_code 10 = .ok (.ireturn, 1) := by decide +kernel
theorem d16_0 : decode jdk_42_method_152_code 0 = .ok (.getstatic 38, 3) := by decide +kernel
theorem d16_3 : decode jdk_42_method_152_code 3 = .ok (.ifCond .eq 10, 3) := by decide +kernel
theorem d16_6 : decode jdk_42_method_152_code 6 = .ok (.aload_n 0, 1) := by decide +kernel
theorem d16_7 : decode jdk_42_method_152_code 7 = .ok (.getfield 15, 3) := by decide +kernel
theorem d16_10 : decode jdk_42_method_152_code 10 = .ok (.goto 4, 3) := by decide +kernel
theorem d16_14 : decode jdk_42_method_152_code 14 = .ok (.ireturn, 1) := by decide +kernel
theorem d17_0 : decode jdk_42_method_56_code 0 = .ok (.aload_n 0, 1) := by decide +kernel
theorem d17_1 : decode jdk_42_method_56_code 1 = .ok (.invokevirtual 492, 3) := by decide +kernel
theorem d17_4 : decode jdk_42_method_56_code 4 = .ok (.ifCond .eq 12, 3) := by decide +kernel
theorem d17_7 : decode jdk_42_method_56_code 7 = .ok (.aload_n 0, 1) := by decide +kernel
theorem d17_8 : decode jdk_42_method_56_code 8 = .ok (.getfield 9, 3) := by decide +kernel
theorem d17_11 : decode jdk_42_method_56_code 11 = .ok (.iload_n 1, 1) := by decide +kernel
theorem d17_12 : decode jdk_42_method_56_code 12 = .ok (.invokestatic 495, 3) := by decide +kernel
theorem d17_15 : decode jdk_42_method_56_code 15 = .ok (.ireturn, 1) := by decide +kernel
theorem d18_0 : decode jdk_42_method_154_code 0 = .ok (.getstatic 38, 3) := by decide +kernel
theorem d18_3 : decode jdk_42_method_154_code 3 = .ok (.ifCond .eq 14, 3) := by decide +kernel
theorem d18_6 : decode jdk_42_method_154_code 6 = .ok (.aload_n 0, 1) := by decide +kernel
theorem d18_7 : decode jdk_42_method_154_code 7 = .ok (.getfield 15, 3) := by decide +kernel
theorem d18_10 : decode jdk_42_method_154_code 10 = .ok (.ifCond .ne 7, 3) := by decide +kernel
theorem d18_13 : decode jdk_42_method_154_code 13 = .ok (.iconst 1, 1) := by decide +kernel
theorem d18_14 : decode jdk_42_method_154_code 14 = .ok (.goto 4, 3) := by decide +kernel
theorem d18_18 : decode jdk_42_method_154_code 18 = .ok (.ireturn, 1) := by decide +kernel
theorem d19_0 : decode jdk_43_method_2_code 0 = .ok (.iload_n 1, 1) := by decide +kernel
theorem d19_1 : decode jdk_43_method_2_code 1 = .ok (.aload_n 0, 1) := by decide +kernel
theorem d19_2 : decode jdk_43_method_2_code 2 = .ok (.arraylength, 1) := by decide +kernel
theorem d19_3 : decode jdk_43_method_2_code 3 = .ok (.invokestatic 9, 3) := by decide +kernel
theorem d19_6 : decode jdk_43_method_2_code 6 = .ok (.aload_n 0, 1) := by decide +kernel
theorem d19_7 : decode jdk_43_method_2_code 7 = .ok (.iload_n 1, 1) := by decide +kernel
theorem d19_8 : decode jdk_43_method_2_code 8 = .ok (.baload, 1) := by decide +kernel
theorem d19_9 : decode jdk_43_method_2_code 9 = .ok (.sipush 255, 3) := by decide +kernel
theorem d19_12 : decode jdk_43_method_2_code 12 = .ok (.iand, 1) := by decide +kernel
theorem d19_13 : decode jdk_43_method_2_code 13 = .ok (.i2c, 1) := by decide +kernel
theorem d19_14 : decode jdk_43_method_2_code 14 = .ok (.ireturn, 1) := by decide +kernel
theorem d20_0 : decode jdk_42_method_155_code 0 = .ok (.iload_n 0, 1) := by decide +kernel
theorem d20_1 : decode jdk_42_method_155_code 1 = .ok (.iload_n 1, 1) := by decide +kernel
theorem d20_2 : decode jdk_42_method_155_code 2 = .ok (.getstatic 1053, 3) := by decide +kernel
theorem d20_5 : decode jdk_42_method_155_code 5 = .ok (.invokestatic 1059, 3) := by decide +kernel
theorem d20_8 : decode jdk_42_method_155_code 8 = .ok (.pop, 1) := by decide +kernel
theorem d20_9 : decode jdk_42_method_155_code 9 = .ok (.return_, 1) := by decide +kernel
theorem d21_0 : decode jdk_41_method_11_code 0 = .ok (.iload_n 0, 1) := by decide +kernel
theorem d21_1 : decode jdk_41_method_11_code 1 = .ok (.ifCond .lt 8, 3) := by decide +kernel
theorem d21_4 : decode jdk_41_method_11_code 4 = .ok (.iload_n 0, 1) := by decide +kernel
theorem d21_5 : decode jdk_41_method_11_code 5 = .ok (.iload_n 1, 1) := by decide +kernel
theorem d21_6 : decode jdk_41_method_11_code 6 = .ok (.if_icmp .lt 10, 3) := by decide +kernel
theorem d21_16 : decode jdk_41_method_11_code 16 = .ok (.iload_n 0, 1) := by decide +kernel
theorem d21_17 : decode jdk_41_method_11_code 17 = .ok (.ireturn, 1) := by decide +kernel
theorem d22_0 : decode jdk_42_method_55_code 0 = .ok (.aload_n 0, 1) := by decide +kernel
theorem d22_1 : decode jdk_42_method_55_code 1 = .ok (.getfield 9, 3) := by decide +kernel
theorem d22_4 : decode jdk_42_method_55_code 4 = .ok (.arraylength, 1) := by decide +kernel
theorem d22_5 : decode jdk_42_method_55_code 5 = .ok (.ifCond .ne 7, 3) := by decide +kernel
theorem d22_8 : decode jdk_42_method_55_code 8 = .ok (.iconst 1, 1) := by decide +kernel
theorem d22_9 : decode jdk_42_method_55_code 9 = .ok (.goto 4, 3) := by decide +kernel
theorem d22_13 : decode jdk_42_method_55_code 13 = .ok (.ireturn, 1) := by decide +kernel
theorem pd_0 : parseMethodDescriptor "(IILjava/util/function/BiFunction;)I" = some ⟨[.int, .int, (.object "java/util/function/BiFunction")], some .int⟩ := by decide +kernel
theorem pd_1 : parseMethodDescriptor "(II)V" = some ⟨[.int, .int], none⟩ := by decide +kernel
theorem pd_2 : parseMethodDescriptor "()Z" = some ⟨[], some .boolean⟩ := by decide +kernel
theorem pd_3 : parseMethodDescriptor "([BI)C" = some ⟨[(.array .byte), .int], some .char⟩ := by decide +kernel
theorem pd_4 : parseMethodDescriptor "([CI[BII)I" = some ⟨[(.array .char), .int, (.array .byte), .int, .int], some .int⟩ := by decide +kernel
theorem pd_5 : parseMethodDescriptor "([CII)[B" = some ⟨[(.array .char), .int, .int], some (.array .byte)⟩ := by decide +kernel
theorem pd_6 : parseMethodDescriptor "([BI)B" = some ⟨[(.array .byte), .int], some .byte⟩ := by decide +kernel
theorem pd_7 : parseMethodDescriptor "([CIILjava/lang/Void;)V" = some ⟨[(.array .char), .int, .int, (.object "java/lang/Void")], none⟩ := by decide +kernel
theorem pd_8 : parseMethodDescriptor "()V" = some ⟨[], none⟩ := by decide +kernel
theorem pd_9 : parseMethodDescriptor "()B" = some ⟨[], some .byte⟩ := by decide +kernel
theorem pd_10 : parseMethodDescriptor "()I" = some ⟨[], some .int⟩ := by decide +kernel
theorem pd_11 : parseMethodDescriptor "(I)C" = some ⟨[.int], some .char⟩ := by decide +kernel
theorem pd_12 : parseMethodDescriptor "(Lcom/example/resolvent/resolvent/SourceLocation;Ljava/lang/String;Ljava/lang/String;Ljava/util/List;Ljava/util/List;Ljava/util/List;)V" = some ⟨[(.object "com/example/resolvent/resolvent/SourceLocation"), (.object "java/lang/String"), (.object "java/lang/String"), (.object "java/util/List"), (.object "java/util/List"), (.object "java/util/List")], none⟩ := by decide +kernel
theorem pd_13 : parseMethodDescriptor "()Ljava/lang/String;" = some ⟨[], some (.object "java/lang/String")⟩ := by decide +kernel
theorem pd_14 : parseMethodDescriptor "(Ljava/lang/String;ZCC)Z" = some ⟨[(.object "java/lang/String"), .boolean, .char, .char], some .boolean⟩ := by decide +kernel
theorem pd_15 : parseMethodDescriptor "([C)V" = some ⟨[(.array .char)], none⟩ := by decide +kernel
theorem pn_0 : plainName "java/lang/String" = true := by first | (simp [plainName, overriddenIn]; done) | decide +kernel
theorem pn_1 : plainName "jdk/internal/util/Preconditions" = true := by first | (simp [plainName, overriddenIn]; done) | decide +kernel
theorem pn_2 : plainName "java/lang/StringLatin1" = true := by first | (simp [plainName, overriddenIn]; done) | decide +kernel
theorem pn_3 : plainName "java/lang/StringUTF16" = true := by first | (simp [plainName, overriddenIn]; done) | decide +kernel
theorem pn_4 : plainName "java/lang/Record" = true := by first | (simp [plainName, overriddenIn]; done) | decide +kernel
theorem pn_5 : plainName "java/util/AbstractCollection" = true := by first | (simp [plainName, overriddenIn]; done) | decide +kernel
theorem pn_6 : plainName "com/example/resolvent/resolvent/SourceLocation" = true := by first | (simp [plainName, overriddenIn]; done) | decide +kernel
theorem pn_7 : plainName "java/util/AbstractList" = true := by first | (simp [plainName, overriddenIn]; done) | decide +kernel
theorem pn_8 : plainName "java/util/ArrayList" = true := by first | (simp [plainName, overriddenIn]; done) | decide +kernel
theorem pn_9 : plainName "com/example/resolvent/resolvent/Ast$Field" = true := by first | (simp [plainName, overriddenIn]; done) | decide +kernel
theorem pn_10 : plainName "com/example/resolvent/resolvent/FieldResponseKeyPinLaw" = true := by first | (simp [plainName, overriddenIn]; done) | decide +kernel
theorem ef_lat (x0 : Addr) (m : MethodId) : entryFrame m #[(.ref x0)] 1 = mkF m 0 #[.val (.ref x0)] [] := by first | (simp [entryFrame, mkF, argsToLocals, Value.category]; done) | rfl
theorem ef_pci (x0 x1 : Int32) (fm : Value) (hfm : fm.isRef = true) (m : MethodId) : entryFrame m #[(.int x0), (.int x1), fm] 3 = mkF m 0 #[.val (.int x0), .val (.int x1), .val fm] [] := by
  rcases ref_cases hfm with rfl | ⟨b, rfl⟩ <;> first | (simp [entryFrame, mkF, argsToLocals, Value.category]; done) | rfl
theorem ef_ci (x0 : Int32) (x1 : Int32) (m : MethodId) : entryFrame m #[(.int x0), (.int x1)] 2 = mkF m 0 #[.val (.int x0), .val (.int x1)] [] := by first | (simp [entryFrame, mkF, argsToLocals, Value.category]; done) | rfl
theorem ef_l1 (x0 : Addr) (x1 : Int32) (m : MethodId) : entryFrame m #[(.ref x0), (.int x1)] 2 = mkF m 0 #[.val (.ref x0), .val (.int x1)] [] := by first | (simp [entryFrame, mkF, argsToLocals, Value.category]; done) | rfl
theorem ef_ca (x0 : Addr) (x1 : Int32) (m : MethodId) : entryFrame m #[(.ref x0), (.int x1)] 2 = mkF m 0 #[.val (.ref x0), .val (.int x1)] [] := by first | (simp [entryFrame, mkF, argsToLocals, Value.category]; done) | rfl
theorem ef_cp (x0 : Addr) (x1 : Int32) (x2 : Addr) (x3 : Int32) (x4 : Int32) (m : MethodId) : entryFrame m #[(.ref x0), (.int x1), (.ref x2), (.int x3), (.int x4)] 7 = mkF m 0 #[.val (.ref x0), .val (.int x1), .val (.ref x2), .val (.int x3), .val (.int x4), .unset, .unset] [] := by first | (simp [entryFrame, mkF, argsToLocals, Value.category]; done) | rfl
theorem ef_cm (x0 : Addr) (x1 : Int32) (x2 : Int32) (m : MethodId) : entryFrame m #[(.ref x0), (.int x1), (.int x2)] 6 = mkF m 0 #[.val (.ref x0), .val (.int x1), .val (.int x2), .unset, .unset, .unset] [] := by first | (simp [entryFrame, mkF, argsToLocals, Value.category]; done) | rfl
theorem ef_cf (x0 : Addr) (x1 : Int32) (m : MethodId) : entryFrame m #[(.ref x0), (.int x1)] 2 = mkF m 0 #[.val (.ref x0), .val (.int x1)] [] := by first | (simp [entryFrame, mkF, argsToLocals, Value.category]; done) | rfl
theorem ef_s4 (x0 : Addr) (x1 : Addr) (x2 : Int32) (x3 : Int32) (m : MethodId) : entryFrame m #[(.ref x0), (.ref x1), (.int x2), (.int x3), .null] 6 = mkF m 0 #[.val (.ref x0), .val (.ref x1), .val (.int x2), .val (.int x3), .val .null, .unset] [] := by first | (simp [entryFrame, mkF, argsToLocals, Value.category]; done) | rfl
theorem ef_sc (x0 : Addr) (x1 : Addr) (m : MethodId) : entryFrame m #[(.ref x0), (.ref x1)] 2 = mkF m 0 #[.val (.ref x0), .val (.ref x1)] [] := by first | (simp [entryFrame, mkF, argsToLocals, Value.category]; done) | rfl
theorem ef_rec (x0 : Addr) (m : MethodId) : entryFrame m #[(.ref x0)] 1 = mkF m 0 #[.val (.ref x0)] [] := by first | (simp [entryFrame, mkF, argsToLocals, Value.category]; done) | rfl
theorem ef_abc (x0 : Addr) (m : MethodId) : entryFrame m #[(.ref x0)] 1 = mkF m 0 #[.val (.ref x0)] [] := by first | (simp [entryFrame, mkF, argsToLocals, Value.category]; done) | rfl
theorem ef_sl (x0 : Addr) (x1 : Int32) (x2 : Int32) (m : MethodId) : entryFrame m #[(.ref x0), (.int x1), (.int x2)] 3 = mkF m 0 #[.val (.ref x0), .val (.int x1), .val (.int x2)] [] := by first | (simp [entryFrame, mkF, argsToLocals, Value.category]; done) | rfl
theorem ef_abl (x0 : Addr) (m : MethodId) : entryFrame m #[(.ref x0)] 1 = mkF m 0 #[.val (.ref x0)] [] := by first | (simp [entryFrame, mkF, argsToLocals, Value.category]; done) | rfl
theorem ef_al (x0 : Addr) (m : MethodId) : entryFrame m #[(.ref x0)] 1 = mkF m 0 #[.val (.ref x0)] [] := by first | (simp [entryFrame, mkF, argsToLocals, Value.category]; done) | rfl
theorem ef_fiN (x0 : Addr) (x1 : Addr) (x3 : Addr) (x4 : Addr) (x5 : Addr) (x6 : Addr) (m : MethodId) : entryFrame m #[(.ref x0), (.ref x1), .null, (.ref x3), (.ref x4), (.ref x5), (.ref x6)] 7 = mkF m 0 #[.val (.ref x0), .val (.ref x1), .val .null, .val (.ref x3), .val (.ref x4), .val (.ref x5), .val (.ref x6)] [] := by first | (simp [entryFrame, mkF, argsToLocals, Value.category]; done) | rfl
theorem ef_fiA (x0 : Addr) (x1 : Addr) (x2 : Addr) (x3 : Addr) (x4 : Addr) (x5 : Addr) (x6 : Addr) (m : MethodId) : entryFrame m #[(.ref x0), (.ref x1), (.ref x2), (.ref x3), (.ref x4), (.ref x5), (.ref x6)] 7 = mkF m 0 #[.val (.ref x0), .val (.ref x1), .val (.ref x2), .val (.ref x3), .val (.ref x4), .val (.ref x5), .val (.ref x6)] [] := by first | (simp [entryFrame, mkF, argsToLocals, Value.category]; done) | rfl
theorem ef_rk (x0 : Addr) (m : MethodId) : entryFrame m #[(.ref x0)] 1 = mkF m 0 #[.val (.ref x0)] [] := by first | (simp [entryFrame, mkF, argsToLocals, Value.category]; done) | rfl
theorem ef_co (x0 : Addr) (m : MethodId) : entryFrame m #[(.ref x0)] 1 = mkF m 0 #[.val (.ref x0)] [] := by first | (simp [entryFrame, mkF, argsToLocals, Value.category]; done) | rfl
theorem ef_ln (x0 : Addr) (m : MethodId) : entryFrame m #[(.ref x0)] 1 = mkF m 0 #[.val (.ref x0)] [] := by first | (simp [entryFrame, mkF, argsToLocals, Value.category]; done) | rfl
theorem ef_ie (x0 : Addr) (m : MethodId) : entryFrame m #[(.ref x0)] 1 = mkF m 0 #[.val (.ref x0)] [] := by first | (simp [entryFrame, mkF, argsToLocals, Value.category]; done) | rfl
theorem ef_sam (x0 : Addr) (x1 : Int32) (x2 : Int32) (x3 : Int32) (m : MethodId) : entryFrame m #[(.ref x0), (.int x1), (.int x2), (.int x3)] 4 = mkF m 0 #[.val (.ref x0), .val (.int x1), .val (.int x2), .val (.int x3)] [] := by first | (simp [entryFrame, mkF, argsToLocals, Value.category]; done) | rfl
theorem ef_0 (x0 : Int32) (x1 : Int32) (x2 : Int32) (x3 : Int32) (x4 : Int32) (m : MethodId) : entryFrame m #[(.int x0), (.int x1), (.int x2), (.int x3), (.int x4)] maxLocals = mkF m 0 #[.val (.int x0), .val (.int x1), .val (.int x2), .val (.int x3), .val (.int x4), .unset, .unset, .unset, .unset, .unset, .unset, .unset, .unset, .unset, .unset, .unset, .unset, .unset] [] := by first | (simp [entryFrame, mkF, argsToLocals, Value.category, maxLocals]; done) | rfl
set_option maxRecDepth 65536 in
set_option maxHeartbeats 40000000 in
theorem lat_ct {l : Launch} {Z : State} {a0 : Array Value} (hw : ∀ d ∈ tables_1, d.before a0 Z = true) (a : Addr) (cs : Int32) (hcs : ¬ cs = 0) (S1 : Sta Z Z.heap "java/lang/String" "COMPACT_STRINGS" "Z" (.int cs)) (fm : Value) (hfm : fm.isRef = true) (S2 : Sta Z Z.heap "jdk/internal/util/Preconditions" "SIOOBE_FORMATTER" "Ljava/util/function/BiFunction;" fm) (h0 : Heap) (n0 : Nat) (O0 : Ext Z.heap h0) (C0 : Fld Z h0 a "java/lang/String" "coder" "B" (.int 0)) :
    Ct l Z (⟨"java/lang/String", "isLatin1", "()Z"⟩ : MethodName) jdk_42_method_154_code 1 (some .boolean) ({ frames := 0, cells := 0, slots := 0, locals := 0 } : Room) n0 #[(.ref a)] h0 (fun v h' => v = some (.int (1 : Int32)) ∧ h' = h0) := by
  refine Ct.of (plainFor_of_name pn_0) (fun m => ef_lat a m) ?_
  intro W V H r0
  have r1 : W h0 0 0 3 #[.val (.ref a)] [(.int cs)] := H.getS (hw _ (List.mem_of_getElem? (i := 14) rfl)) (Sta.ext O0 S1) d18_0 r0
  have r2 : W h0 0 0 6 #[.val (.ref a)] [] := (H.ifNo d18_3 r1 (feq hcs).1)
  have r3 : W h0 0 0 7 #[.val (.ref a)] [(.ref a)] := (H.aloadN d18_6 r2 rfl rfl)
  have r4 : W h0 0 0 10 #[.val (.ref a)] [(.int (0 : Int32))] := H.getF' (hw _ (List.mem_of_getElem? (i := 26) rfl)) C0 d18_7 r3
  have r5 : W h0 0 0 13 #[.val (.ref a)] [] := (H.ifNo d18_10 r4 (teq (rfl : (0 : Int32) = 0)).2)
  have r6 : W h0 0 0 18 #[.val (.ref a)] [(.int (1 : Int32))] := (H.goto (pc' := 18) d18_14 (H.iconst (z := (1 : Int32)) d18_13 r5 rfl) (by decide) (by decide))
  exact ⟨_, _, H.retZ rfl rfl (Nat.le_refl _) (Nat.le_refl _) d18_18 r6, rfl, rfl⟩
set_option maxRecDepth 65536 in
set_option maxHeartbeats 40000000 in
theorem pci_ct {l : Launch} {Z : State} {a0 : Array Value} (hw : ∀ d ∈ tables_1, d.before a0 Z = true) (i n : Nat) (hin : i < n) (hn : n < 2147483648) (fm : Value) (hfm : fm.isRef = true) (h0 : Heap) (n0 : Nat) :
    Ct l Z (⟨"jdk/internal/util/Preconditions", "checkIndex", "(IILjava/util/function/BiFunction;)I"⟩ : MethodName) jdk_41_method_11_code 3 (some .int) ({ frames := 0, cells := 0, slots := 0, locals := 0 } : Room) n0 #[(.int (Int32.ofNat i)), (.int (Int32.ofNat n)), fm] h0 (fun v h' => v = some (.int (Int32.ofNat i)) ∧ h' = h0) := by
  refine Ct.of (plainFor_of_name pn_1) (fun m => ef_pci (Int32.ofNat i) (Int32.ofNat n) fm hfm m) ?_
  intro W V H r0
  have r7 : W h0 0 0 4 #[.val (.int (Int32.ofNat i)), .val (.int (Int32.ofNat n)), .val fm] [] := (H.ifNo d21_1 (H.iloadN d21_0 r0 rfl) (flt (own_nn (by omega))).1)
  have r8 : W h0 0 0 16 #[.val (.int (Int32.ofNat i)), .val (.int (Int32.ofNat n)), .val fm] [] := (H.icmpYes (pc' := 16) d21_6 (H.iloadN d21_5 (H.iloadN d21_4 r7 rfl) rfl) (by decide) (by decide) (tlt ((own_ltN (by omega) (by omega)).mpr hin)).1)
  have r9 : W h0 0 0 17 #[.val (.int (Int32.ofNat i)), .val (.int (Int32.ofNat n)), .val fm] [(.int (Int32.ofNat i))] := (H.iloadN d21_16 r8 rfl)
  exact ⟨_, _, H.retI rfl (Nat.le_refl _) (Nat.le_refl _) d21_17 r9, rfl, rfl⟩
set_option maxRecDepth 65536 in
set_option maxHeartbeats 40000000 in
theorem ci_ct {l : Launch} {Z : State} {a0 : Array Value} (hw : ∀ d ∈ tables_1, d.before a0 Z = true) (i n : Nat) (hin : i < n) (hn : n < 2147483648) (cs : Int32) (hcs : ¬ cs = 0) (S1 : Sta Z Z.heap "java/lang/String" "COMPACT_STRINGS" "Z" (.int cs)) (fm : Value) (hfm : fm.isRef = true) (S2 : Sta Z Z.heap "jdk/internal/util/Preconditions" "SIOOBE_FORMATTER" "Ljava/util/function/BiFunction;" fm) (h0 : Heap) (n0 : Nat) (O0 : Ext Z.heap h0) :
    Ct l Z (⟨"java/lang/String", "checkIndex", "(II)V"⟩ : MethodName) jdk_42_method_155_code 2 none ({ frames := 1, cells := 0, slots := 0, locals := 14 } : Room) n0 #[(.int (Int32.ofNat i)), (.int (Int32.ofNat n))] h0 (fun v h' => v = none ∧ h' = h0) := by
  refine Ct.of (plainFor_of_name pn_0) (fun m => ef_ci (Int32.ofNat i) (Int32.ofNat n) m) ?_
  intro W V H r0
  have r10 : W h0 0 0 2 #[.val (.int (Int32.ofNat i)), .val (.int (Int32.ofNat n))] [(.int (Int32.ofNat n)), (.int (Int32.ofNat i))] := (H.iloadN d20_1 (H.iloadN d20_0 r0 rfl) rfl)
  have r11 : W h0 0 0 5 #[.val (.int (Int32.ofNat i)), .val (.int (Int32.ofNat n))] [fm, (.int (Int32.ofNat n)), (.int (Int32.ofNat i))] := H.getS (hw _ (List.mem_of_getElem? (i := 125) rfl)) (Sta.ext O0 S2) d20_2 r10
  have r12 : W h0 0 0 8 #[.val (.int (Int32.ofNat i)), .val (.int (Int32.ofNat n))] [(.int (Int32.ofNat i))] := H.callSP (w := 0) (argsL := [(.int (Int32.ofNat i)), (.int (Int32.ofNat n)), fm]) (rest := []) (hw _ (List.mem_of_getElem? (i := 127) rfl)) (hw _ (List.mem_of_getElem? (i := 128) rfl)) (hw _ (List.mem_of_getElem? (i := 126) rfl)) (hw _ (List.mem_of_getElem? (i := 129) rfl)) (by decide) pd_0 (by decide) (by decide) (by decide) (by decide) (pci_ct hw i n hin hn fm hfm h0 n0) rfl rfl (Nat.le_of_eq rfl) rfl d20_5 r11
  have r13 : W h0 0 0 9 #[.val (.int (Int32.ofNat i)), .val (.int (Int32.ofNat n))] [] := (H.pop d20_8 r12 rfl)
  exact ⟨_, _, H.retN rfl (Nat.le_refl _) (Nat.le_refl _) d20_9 r13, rfl, rfl⟩
set_option maxRecDepth 65536 in
set_option maxHeartbeats 40000000 in
theorem l1_ct {l : Launch} {Z : State} {a0 : Array Value} (hw : ∀ d ∈ tables_1, d.before a0 Z = true) {vs : List Value} (b : Addr) (i : Nat) (v z : Int32) (hn : vs.length < 2147483648) (hv : vs[i]? = some (.int v)) (hz : (v &&& (255 : Int32)).toUInt32.toUInt16.toUInt32.toInt32 = z) (cs : Int32) (hcs : ¬ cs = 0) (S1 : Sta Z Z.heap "java/lang/String" "COMPACT_STRINGS" "Z" (.int cs)) (fm : Value) (hfm : fm.isRef = true) (S2 : Sta Z Z.heap "jdk/internal/util/Preconditions" "SIOOBE_FORMATTER" "Ljava/util/function/BiFunction;" fm) (h0 : Heap) (n0 : Nat) (O0 : Ext Z.heap h0) (A0 : Ary Z h0 b .byte vs) :
    Ct l Z (⟨"java/lang/StringLatin1", "charAt", "([BI)C"⟩ : MethodName) jdk_43_method_2_code 2 (some .char) ({ frames := 2, cells := 0, slots := 0, locals := 27 } : Room) n0 #[(.ref b), (.int (Int32.ofNat i))] h0 (fun v' h' => v' = some (.int z) ∧ h' = h0) := by
  refine Ct.of (plainFor_of_name pn_2) (fun m => ef_l1 b (Int32.ofNat i) m) ?_
  have hin : i < vs.length := (List.getElem?_eq_some_iff.mp hv).1
  intro W V H r0
  have r14 : W h0 0 0 2 #[.val (.ref b), .val (.int (Int32.ofNat i))] [(.ref b), (.int (Int32.ofNat i))] := (H.aloadN d19_1 (H.iloadN d19_0 r0 rfl) rfl rfl)
  have r15 : W h0 0 0 3 #[.val (.ref b), .val (.int (Int32.ofNat i))] [(.int (Int32.ofNat vs.length)), (.int (Int32.ofNat i))] := H.lenA (z := (Int32.ofNat vs.length)) A0 rfl d19_2 r14
  have r16 : W h0 0 0 6 #[.val (.ref b), .val (.int (Int32.ofNat i))] [] := H.callSP (w := 0) (argsL := [(.int (Int32.ofNat i)), (.int (Int32.ofNat vs.length))]) (rest := []) (hw _ (List.mem_of_getElem? (i := 122) rfl)) (hw _ (List.mem_of_getElem? (i := 123) rfl)) (hw _ (List.mem_of_getElem? (i := 3) rfl)) (hw _ (List.mem_of_getElem? (i := 124) rfl)) (by decide) pd_1 (by decide) (by decide) (by decide) (by decide) (ci_ct hw i vs.length hin hn cs hcs S1 fm hfm S2 h0 n0 O0) rfl rfl (Nat.le_of_eq rfl) rfl d19_3 r15
  have r17 : W h0 0 0 8 #[.val (.ref b), .val (.int (Int32.ofNat i))] [(.int (Int32.ofNat i)), (.ref b)] := (H.iloadN d19_7 (H.aloadN d19_6 r16 rfl rfl) rfl)
  have r18 : W h0 0 0 9 #[.val (.ref b), .val (.int (Int32.ofNat i))] [(.int v)] := H.ldB (i := i) (v := (.int v)) A0 (own_ofNat (by omega)) hv d19_8 r17
  have r19 : W h0 0 0 14 #[.val (.ref b), .val (.int (Int32.ofNat i))] [(.int ((v &&& (255 : Int32)).toUInt32.toUInt16.toUInt32.toInt32))] := (H.i2c d19_13 (H.iand d19_12 (H.sipush (z := (255 : Int32)) d19_9 r18 rfl)))
  exact ⟨_, _, H.retC (z' := z) (by rw [i2c_mask]; exact hz) rfl (Nat.le_refl _) (Nat.le_refl _) d19_14 r19, rfl, rfl⟩
set_option maxRecDepth 65536 in
set_option maxHeartbeats 40000000 in
theorem ca_ct {l : Launch} {Z : State} {a0 : Array Value} (hw : ∀ d ∈ tables_1, d.before a0 Z = true) {vs : List Value} (a b : Addr) (i : Nat) (v z : Int32) (hn : vs.length < 2147483648) (hv : vs[i]? = some (.int v)) (hz : (v &&& (255 : Int32)).toUInt32.toUInt16.toUInt32.toInt32 = z) (cs : Int32) (hcs : ¬ cs = 0) (S1 : Sta Z Z.heap "java/lang/String" "COMPACT_STRINGS" "Z" (.int cs)) (fm : Value) (hfm : fm.isRef = true) (S2 : Sta Z Z.heap "jdk/internal/util/Preconditions" "SIOOBE_FORMATTER" "Ljava/util/function/BiFunction;" fm) (h0 : Heap) (n0 : Nat) (O0 : Ext Z.heap h0) (X0 : Exa Z h0 a "java/lang/String") (C0 : Fld Z h0 a "java/lang/String" "coder" "B" (.int 0)) (V0 : Fld Z h0 a "java/lang/String" "value" "[B" (.ref b)) (A0 : Ary Z h0 b .byte vs) :
    Ct l Z (⟨"java/lang/String", "charAt", "(I)C"⟩ : MethodName) jdk_42_method_56_code 2 (some .char) ({ frames := 3, cells := 0, slots := 0, locals := 40 } : Room) n0 #[(.ref a), (.int (Int32.ofNat i))] h0 (fun v' h' => v' = some (.int z) ∧ h' = h0) := by
  refine Ct.of (plainFor_of_name pn_0) (fun m => ef_ca a (Int32.ofNat i) m) ?_
  have hzz : z.toUInt32.toUInt16.toUInt32.toInt32 = z := by rw [← hz, i2c_mask]; exact i2c_mask v
  intro W V H r0
  have r20 : W h0 0 0 1 #[.val (.ref a), .val (.int (Int32.ofNat i))] [(.ref a)] := (H.aloadN d17_0 r0 rfl rfl)
  have r21 : W h0 0 0 4 #[.val (.ref a), .val (.int (Int32.ofNat i))] [(.int (1 : Int32))] := H.callVP (w := 0) (argsL := []) (rest := []) (hw _ (List.mem_of_getElem? (i := 113) rfl)) (hw _ (List.mem_of_getElem? (i := 114) rfl)) (Or.inl ⟨_, _, (hw _ (List.mem_of_getElem? (i := 116) rfl)), rfl⟩) (hw _ (List.mem_of_getElem? (i := 116) rfl)) (hw _ (List.mem_of_getElem? (i := 115) rfl)) (hw _ (List.mem_of_getElem? (i := 3) rfl)) (hw _ (List.mem_of_getElem? (i := 117) rfl)) (by decide) pd_2 (by decide) (by decide) (by decide) (by decide) X0 (lat_ct hw a cs hcs S1 fm hfm S2 h0 n0 O0 C0) rfl rfl (Nat.le_of_eq rfl) rfl d17_1 r20
  have r22 : W h0 0 0 7 #[.val (.ref a), .val (.int (Int32.ofNat i))] [] := (H.ifNo d17_4 r21 (feq (by decide)).1)
  have r23 : W h0 0 0 8 #[.val (.ref a), .val (.int (Int32.ofNat i))] [(.ref a)] := (H.aloadN d17_7 r22 rfl rfl)
  have r24 : W h0 0 0 11 #[.val (.ref a), .val (.int (Int32.ofNat i))] [(.ref b)] := H.getF' (hw _ (List.mem_of_getElem? (i := 28) rfl)) V0 d17_8 r23
  have r25 : W h0 0 0 12 #[.val (.ref a), .val (.int (Int32.ofNat i))] [(.int (Int32.ofNat i)), (.ref b)] := (H.iloadN d17_11 r24 rfl)
  have r26 : W h0 0 0 15 #[.val (.ref a), .val (.int (Int32.ofNat i))] [(.int z)] := H.callSP (w := 0) (argsL := [(.ref b), (.int (Int32.ofNat i))]) (rest := []) (hw _ (List.mem_of_getElem? (i := 118) rfl)) (hw _ (List.mem_of_getElem? (i := 119) rfl)) (hw _ (List.mem_of_getElem? (i := 120) rfl)) (hw _ (List.mem_of_getElem? (i := 121) rfl)) (by decide) pd_3 (by decide) (by decide) (by decide) (by decide) (l1_ct hw b i v z hn hv hz cs hcs S1 fm hfm S2 h0 n0 O0 A0) rfl rfl (Nat.le_of_eq rfl) rfl d17_12 r25
  exact ⟨_, _, H.retC (z' := z) hzz rfl (Nat.le_refl _) (Nat.le_refl _) d17_15 r26, rfl, rfl⟩
set_option maxRecDepth 65536 in
set_option maxHeartbeats 40000000 in
theorem cp_ct {l : Launch} {Z : State} {a0 : Array Value} (hw : ∀ d ∈ tables_1, d.before a0 Z = true) (ca ba : Addr) (c d : Int32) (gc : own_sg c) (gd : own_sg d) (hne : ca ≠ ba) (h0 : Heap) (n0 : Nat) (Z0 : n0 ≤ h0.size) (N0 : n0 ≤ ba) (C0 : Ary Z h0 ca .char [.int c, .int d]) (B0 : Ary Z h0 ba .byte [.int 0, .int 0]) :
    Ct l Z (⟨"java/lang/StringUTF16", "compress", "([CI[BII)I"⟩ : MethodName) jdk_52_method_21_code 7 (some .int) ({ frames := 0, cells := 0, slots := 0, locals := 0 } : Room) n0 #[(.ref ca), (.int (0 : Int32)), (.ref ba), (.int (0 : Int32)), (.int (2 : Int32))] h0 (fun v h' => v = some (.int (2 : Int32)) ∧ Keep h0 h' [ba] ∧ Ary Z h' ba .byte [.int (c.toInt8.toInt32), .int (d.toInt8.toInt32)]) := by
  refine Ct.of (plainFor_of_name pn_3) (fun m => ef_cp ca (0 : Int32) ba (0 : Int32) (2 : Int32) m) ?_
  intro W V H r0
  have r27 : W h0 0 0 3 #[.val (.ref ca), .val (.int (0 : Int32)), .val (.ref ba), .val (.int (0 : Int32)), .val (.int (2 : Int32)), .val (.int (0 : Int32)), .unset] [] := (H.istore d5_1 (H.iconst (z := (0 : Int32)) d5_0 r0 rfl) rfl)
  have r28 : W h0 0 0 10 #[.val (.ref ca), .val (.int (0 : Int32)), .val (.ref ba), .val (.int (0 : Int32)), .val (.int (2 : Int32)), .val (.int (0 : Int32)), .unset] [] := (H.icmpNo d5_7 (H.iload d5_5 (H.iload d5_3 r27 rfl) rfl) (tlt (by decide)).2.1)
  have r29 : W h0 0 0 12 #[.val (.ref ca), .val (.int (0 : Int32)), .val (.ref ba), .val (.int (0 : Int32)), .val (.int (2 : Int32)), .val (.int (0 : Int32)), .unset] [(.int (0 : Int32)), (.ref ca)] := (H.iloadN d5_11 (H.aloadN d5_10 r28 rfl rfl) rfl)
  have r30 : W h0 0 0 13 #[.val (.ref ca), .val (.int (0 : Int32)), .val (.ref ba), .val (.int (0 : Int32)), .val (.int (2 : Int32)), .val (.int (0 : Int32)), .unset] [(.int c)] := H.ldC (i := 0) (v := (.int c)) C0 (by decide) rfl d5_12 r29
  have r31 : W h0 0 0 15 #[.val (.ref ca), .val (.int (0 : Int32)), .val (.ref ba), .val (.int (0 : Int32)), .val (.int (2 : Int32)), .val (.int (0 : Int32)), .val (.int c)] [] := (H.istore d5_13 r30 rfl)
  have r32 : W h0 0 0 26 #[.val (.ref ca), .val (.int (0 : Int32)), .val (.ref ba), .val (.int (0 : Int32)), .val (.int (2 : Int32)), .val (.int (0 : Int32)), .val (.int c)] [] := (H.icmpYes (pc' := 26) d5_20 (H.sipush (z := (255 : Int32)) d5_17 (H.iload d5_15 r31 rfl) rfl) (by decide) (by decide) (flt gc.2.2).2.2.2)
  have r33 : W h0 0 0 31 #[.val (.ref ca), .val (.int (0 : Int32)), .val (.ref ba), .val (.int (0 : Int32)), .val (.int (2 : Int32)), .val (.int (0 : Int32)), .val (.int c)] [(.int (c.toInt8.toInt32)), (.int (0 : Int32)), (.ref ba)] := (H.i2b d5_30 (H.iload d5_28 (H.iloadN d5_27 (H.aloadN d5_26 r32 rfl rfl) rfl) rfl))
  obtain ⟨h34, w35, A36, r37⟩ := H.putB (i := 0) (z := (c.toInt8.toInt32)) (own_bb c) B0 (by decide) (by decide : 0 < 2) N0 d5_31 r33
  have Z38 : n0 ≤ h34.size := by rw [w35.size]; exact Z0
  replace A36 : Ary Z h34 ba .byte [.int (c.toInt8.toInt32), .int 0] := A36
  replace r37 : W h34 0 0 32 #[.val (.ref ca), .val (.int (0 : Int32)), .val (.ref ba), .val (.int (0 : Int32)), .val (.int (2 : Int32)), .val (.int (0 : Int32)), .val (.int c)] [] := r37
  have r39 : W h34 0 0 35 #[.val (.ref ca), .val (.int ((0 : Int32) + (1 : Int32))), .val (.ref ba), .val (.int (0 : Int32)), .val (.int (2 : Int32)), .val (.int (0 : Int32)), .val (.int c)] [] := (H.iinc (z := ((0 : Int32) + (1 : Int32))) d5_32 r37 rfl rfl rfl)
  have r40 : W h34 0 0 38 #[.val (.ref ca), .val (.int ((0 : Int32) + (1 : Int32))), .val (.ref ba), .val (.int ((0 : Int32) + (1 : Int32))), .val (.int (2 : Int32)), .val (.int (0 : Int32)), .val (.int c)] [] := (H.iinc (z := ((0 : Int32) + (1 : Int32))) d5_35 r39 rfl rfl rfl)
  have r41 : W h34 0 0 41 #[.val (.ref ca), .val (.int ((0 : Int32) + (1 : Int32))), .val (.ref ba), .val (.int ((0 : Int32) + (1 : Int32))), .val (.int (2 : Int32)), .val (.int ((0 : Int32) + (1 : Int32))), .val (.int c)] [] := (H.iinc (z := ((0 : Int32) + (1 : Int32))) d5_38 r40 rfl rfl rfl)
  replace r41 : W h34 0 0 41 #[.val (.ref ca), .val (.int (1 : Int32)), .val (.ref ba), .val (.int (1 : Int32)), .val (.int (2 : Int32)), .val (.int (1 : Int32)), .val (.int c)] [] := r41
  have r42 : W h34 0 0 10 #[.val (.ref ca), .val (.int (1 : Int32)), .val (.ref ba), .val (.int (1 : Int32)), .val (.int (2 : Int32)), .val (.int (1 : Int32)), .val (.int c)] [] := (H.icmpNo d5_7 (H.iload d5_5 (H.iload d5_3 (H.goto (pc' := 3) d5_41 r41 (by decide) (by decide)) rfl) rfl) (tlt (by decide)).2.1)
  have r43 : W h34 0 0 12 #[.val (.ref ca), .val (.int (1 : Int32)), .val (.ref ba), .val (.int (1 : Int32)), .val (.int (2 : Int32)), .val (.int (1 : Int32)), .val (.int c)] [(.int (1 : Int32)), (.ref ca)] := (H.iloadN d5_11 (H.aloadN d5_10 r42 rfl rfl) rfl)
  have F44 := C0.other w35 hne
  have r45 : W h34 0 0 13 #[.val (.ref ca), .val (.int (1 : Int32)), .val (.ref ba), .val (.int (1 : Int32)), .val (.int (2 : Int32)), .val (.int (1 : Int32)), .val (.int c)] [(.int d)] := H.ldC (i := 1) (v := (.int d)) F44 (by decide) rfl d5_12 r43
  have r46 : W h34 0 0 15 #[.val (.ref ca), .val (.int (1 : Int32)), .val (.ref ba), .val (.int (1 : Int32)), .val (.int (2 : Int32)), .val (.int (1 : Int32)), .val (.int d)] [] := (H.istore d5_13 r45 rfl)
  have r47 : W h34 0 0 26 #[.val (.ref ca), .val (.int (1 : Int32)), .val (.ref ba), .val (.int (1 : Int32)), .val (.int (2 : Int32)), .val (.int (1 : Int32)), .val (.int d)] [] := (H.icmpYes (pc' := 26) d5_20 (H.sipush (z := (255 : Int32)) d5_17 (H.iload d5_15 r46 rfl) rfl) (by decide) (by decide) (flt gd.2.2).2.2.2)
  have r48 : W h34 0 0 31 #[.val (.ref ca), .val (.int (1 : Int32)), .val (.ref ba), .val (.int (1 : Int32)), .val (.int (2 : Int32)), .val (.int (1 : Int32)), .val (.int d)] [(.int (d.toInt8.toInt32)), (.int (1 : Int32)), (.ref ba)] := (H.i2b d5_30 (H.iload d5_28 (H.iloadN d5_27 (H.aloadN d5_26 r47 rfl rfl) rfl) rfl))
  obtain ⟨h49, w50, A51, r52⟩ := H.putB (i := 1) (z := (d.toInt8.toInt32)) (own_bb d) A36 (by decide) (by decide : 1 < 2) N0 d5_31 r48
  have Z53 : n0 ≤ h49.size := by rw [w50.size]; exact Z38
  replace A51 : Ary Z h49 ba .byte [.int (c.toInt8.toInt32), .int (d.toInt8.toInt32)] := A51
  replace r52 : W h49 0 0 32 #[.val (.ref ca), .val (.int (1 : Int32)), .val (.ref ba), .val (.int (1 : Int32)), .val (.int (2 : Int32)), .val (.int (1 : Int32)), .val (.int d)] [] := r52
  have r54 : W h49 0 0 35 #[.val (.ref ca), .val (.int ((1 : Int32) + (1 : Int32))), .val (.ref ba), .val (.int (1 : Int32)), .val (.int (2 : Int32)), .val (.int (1 : Int32)), .val (.int d)] [] := (H.iinc (z := ((1 : Int32) + (1 : Int32))) d5_32 r52 rfl rfl rfl)
  have r55 : W h49 0 0 38 #[.val (.ref ca), .val (.int ((1 : Int32) + (1 : Int32))), .val (.ref ba), .val (.int ((1 : Int32) + (1 : Int32))), .val (.int (2 : Int32)), .val (.int (1 : Int32)), .val (.int d)] [] := (H.iinc (z := ((1 : Int32) + (1 : Int32))) d5_35 r54 rfl rfl rfl)
  have r56 : W h49 0 0 41 #[.val (.ref ca), .val (.int ((1 : Int32) + (1 : Int32))), .val (.ref ba), .val (.int ((1 : Int32) + (1 : Int32))), .val (.int (2 : Int32)), .val (.int ((1 : Int32) + (1 : Int32))), .val (.int d)] [] := (H.iinc (z := ((1 : Int32) + (1 : Int32))) d5_38 r55 rfl rfl rfl)
  replace r56 : W h49 0 0 41 #[.val (.ref ca), .val (.int (2 : Int32)), .val (.ref ba), .val (.int (2 : Int32)), .val (.int (2 : Int32)), .val (.int (2 : Int32)), .val (.int d)] [] := r56
  have r57 : W h49 0 0 44 #[.val (.ref ca), .val (.int (2 : Int32)), .val (.ref ba), .val (.int (2 : Int32)), .val (.int (2 : Int32)), .val (.int (2 : Int32)), .val (.int d)] [] := (H.icmpYes (pc' := 44) d5_7 (H.iload d5_5 (H.iload d5_3 (H.goto (pc' := 3) d5_41 r56 (by decide) (by decide)) rfl) rfl) (by decide) (by decide) (flt (by decide)).2.1)
  have r58 : W h49 0 0 46 #[.val (.ref ca), .val (.int (2 : Int32)), .val (.ref ba), .val (.int (2 : Int32)), .val (.int (2 : Int32)), .val (.int (2 : Int32)), .val (.int d)] [(.int (2 : Int32))] := (H.iload d5_44 r57 rfl)
  exact ⟨_, _, H.retI rfl (Nat.le_refl _) (Nat.le_refl _) d5_46 r58, rfl, (((Keep.refl _ _).wr w35 (Or.inl (List.mem_of_getElem? (i := 0) rfl))).wr w50 (Or.inl (List.mem_of_getElem? (i := 0) rfl))), A51⟩
set_option maxRecDepth 65536 in
set_option maxHeartbeats 40000000 in
theorem cm_ct {l : Launch} {Z : State} {a0 : Array Value} (hw : ∀ d ∈ tables_1, d.before a0 Z = true) (ca : Addr) (c d : Int32) (gc : own_sg c) (gd : own_sg d) (h0 : Heap) (n0 : Nat) (Z0 : n0 ≤ h0.size) (C0 : Ary Z h0 ca .char [.int c, .int d]) :
    Ct l Z (⟨"java/lang/StringUTF16", "compress", "([CII)[B"⟩ : MethodName) jdk_52_method_16_code 6 (some (.array .byte)) ({ frames := 1, cells := 1, slots := 2, locals := 18 } : Room) n0 #[(.ref ca), (.int (0 : Int32)), (.int (2 : Int32))] h0 (fun v h' => ∃ b : Addr, v = some (.ref b) ∧ n0 ≤ b ∧ h0.size ≤ b ∧ Keep h0 h' [] ∧ Ary Z h' b .byte [.int (c.toInt8.toInt32), .int (d.toInt8.toInt32)]) := by
  refine Ct.of (plainFor_of_name pn_3) (fun m => ef_cm ca (0 : Int32) (2 : Int32) m) ?_
  intro W V H r0
  have r59 : W h0 0 0 1 #[.val (.ref ca), .val (.int (0 : Int32)), .val (.int (2 : Int32)), .unset, .unset, .unset] [(.int (2 : Int32))] := (H.iloadN d4_0 r0 rfl)
  obtain ⟨h60, ba, ea61, E62, A63, r64⟩ := H.newA (i := 2) (cap := 2) (d := (.int 0)) rfl rfl (hw _ (List.mem_of_getElem? (i := 19) rfl)) (by decide) (by decide) (by decide) (by decide) (by decide) d4_1 r59
  have ne65 : ca ≠ ba := Nat.ne_of_lt (by rw [ea61]; exact C0.lt)
  have N66 : n0 ≤ ba := by rw [ea61]; exact Z0
  have Y67 : h0.size ≤ ba := by rw [ea61]; exact (Nat.le_refl _)
  have Z68 : n0 ≤ h60.size := Nat.le_trans Z0 E62.1
  have Y69 : h0.size ≤ h60.size := Nat.le_trans (Nat.le_refl _) E62.1
  have A63l : Ary Z h60 ba .byte [.int 0, .int 0] := A63
  replace r64 : W h60 1 2 3 #[.val (.ref ca), .val (.int (0 : Int32)), .val (.int (2 : Int32)), .unset, .unset, .unset] [(.ref ba)] := r64
  have r70 : W h60 1 2 4 #[.val (.ref ca), .val (.int (0 : Int32)), .val (.int (2 : Int32)), .val (.ref ba), .unset, .unset] [] := (H.astoreN d4_3 r64 rfl rfl)
  have F71 := C0.ext E62
  have r72 : W h60 1 2 9 #[.val (.ref ca), .val (.int (0 : Int32)), .val (.int (2 : Int32)), .val (.ref ba), .unset, .unset] [(.int (2 : Int32)), (.int (0 : Int32)), (.ref ba), (.int (0 : Int32)), (.ref ca)] := (H.iloadN d4_8 (H.iconst (z := (0 : Int32)) d4_7 (H.aloadN d4_6 (H.iloadN d4_5 (H.aloadN d4_4 r70 rfl rfl) rfl) rfl rfl) rfl) rfl)
  obtain ⟨_, hc1, ⟨rfl, K1, B1⟩, r73⟩ := H.callS (w := 0) (argsL := [(.ref ca), (.int (0 : Int32)), (.ref ba), (.int (0 : Int32)), (.int (2 : Int32))]) (rest := []) (hw _ (List.mem_of_getElem? (i := 20) rfl)) (hw _ (List.mem_of_getElem? (i := 21) rfl)) (hw _ (List.mem_of_getElem? (i := 17) rfl)) (hw _ (List.mem_of_getElem? (i := 22) rfl)) (by decide) pd_4 (by decide) (by decide) (by decide) (by decide) (cp_ct hw ca ba c d gc gd ne65 h60 n0 Z68 N66 F71 A63l) rfl rfl (Nat.le_of_eq rfl) rfl d4_9 r72
  have Z74 : n0 ≤ hc1.size := Nat.le_trans Z68 K1.1
  have Y75 : h0.size ≤ hc1.size := Nat.le_trans Y69 K1.1
  replace r73 : W hc1 1 2 12 #[.val (.ref ca), .val (.int (0 : Int32)), .val (.int (2 : Int32)), .val (.ref ba), .unset, .unset] [(.int (2 : Int32))] := r73
  have r76 : W hc1 1 2 14 #[.val (.ref ca), .val (.int (0 : Int32)), .val (.int (2 : Int32)), .val (.ref ba), .val (.int (2 : Int32)), .unset] [] := (H.istore d4_12 r73 rfl)
  have r77 : W hc1 1 2 57 #[.val (.ref ca), .val (.int (0 : Int32)), .val (.int (2 : Int32)), .val (.ref ba), .val (.int (2 : Int32)), .unset] [] := (H.icmpYes (pc' := 57) d4_17 (H.iloadN d4_16 (H.iload d4_14 r76 rfl) rfl) (by decide) (by decide) (teq (rfl : (2 : Int32) = 2)).1)
  have r78 : W hc1 1 2 58 #[.val (.ref ca), .val (.int (0 : Int32)), .val (.int (2 : Int32)), .val (.ref ba), .val (.int (2 : Int32)), .unset] [(.ref ba)] := (H.aloadN d4_57 r77 rfl rfl)
  exact ⟨_, _, H.retR rfl rfl rfl (by decide) (by decide) d4_58 r78, ba, rfl, N66, Y67, (((Keep.refl _ _).ext E62).trans K1 (allS (Or.inr Y67) all0)), B1⟩
set_option maxRecDepth 65536 in
set_option maxHeartbeats 40000000 in
theorem cf_ct {l : Launch} {Z : State} {a0 : Array Value} (hw : ∀ d ∈ tables_1, d.before a0 Z = true) (b : Addr) (x y : Value) (h0 : Heap) (n0 : Nat) (B0 : Ary Z h0 b .byte [x, y]) :
    Ct l Z (⟨"java/lang/StringUTF16", "coderFromArrayLen", "([BI)B"⟩ : MethodName) jdk_52_method_15_code 2 (some .byte) ({ frames := 0, cells := 0, slots := 0, locals := 0 } : Room) n0 #[(.ref b), (.int (2 : Int32))] h0 (fun v h' => v = some (.int (0 : Int32)) ∧ h' = h0) := by
  refine Ct.of (plainFor_of_name pn_3) (fun m => ef_cf b (2 : Int32) m) ?_
  intro W V H r0
  have r79 : W h0 0 0 2 #[.val (.ref b), .val (.int (2 : Int32))] [(.ref b), (.int (2 : Int32))] := (H.aloadN d6_1 (H.iloadN d6_0 r0 rfl) rfl rfl)
  have r80 : W h0 0 0 3 #[.val (.ref b), .val (.int (2 : Int32))] [(.int (2 : Int32)), (.int (2 : Int32))] := H.lenA (z := (2 : Int32)) B0 rfl d6_2 r79
  have r81 : W h0 0 0 8 #[.val (.ref b), .val (.int (2 : Int32))] [(.int (((((2 : Int32) - (2 : Int32)).toUInt32 >>> ((31 : Int32) &&& 31).toUInt32).toInt32).toInt8.toInt32))] := (H.i2b d6_7 (H.iushr d6_6 (H.bipush (z := (31 : Int32)) d6_4 (H.isub d6_3 r80) rfl)))
  exact ⟨_, _, H.retB (z' := (0 : Int32)) (by decide) rfl (Nat.le_refl _) (Nat.le_refl _) d6_8 r81, rfl, rfl⟩
set_option maxRecDepth 65536 in
set_option maxHeartbeats 40000000 in
theorem s4_ct {l : Launch} {Z : State} {a0 : Array Value} (hw : ∀ d ∈ tables_1, d.before a0 Z = true) (x ca : Addr) (c d : Int32) (gc : own_sg c) (gd : own_sg d) (cs : Int32) (hcs : ¬ cs = 0) (S1 : Sta Z Z.heap "java/lang/String" "COMPACT_STRINGS" "Z" (.int cs)) (h0 : Heap) (n0 : Nat) (Z0 : n0 ≤ h0.size) (N0 : n0 ≤ x) (O0 : Ext Z.heap h0) (X0 : Exa Z h0 x "java/lang/String") (F1 : Fld Z h0 x "java/lang/String" "coder" "B" (.int 0)) (F2 : Fld Z h0 x "java/lang/String" "value" "[B" .null) (C0 : Ary Z h0 ca .char [.int c, .int d]) :
    Ct l Z (⟨"java/lang/String", "<init>", "([CIILjava/lang/Void;)V"⟩ : MethodName) jdk_42_method_149_code 6 none ({ frames := 2, cells := 1, slots := 2, locals := 35 } : Room) n0 #[(.ref x), (.ref ca), (.int (0 : Int32)), (.int (2 : Int32)), .null] h0 (fun v h' => v = none ∧ Keep h0 h' [x] ∧ ∃ b : Addr, n0 ≤ b ∧ h0.size ≤ b ∧ Exa Z h' x "java/lang/String" ∧ Fld Z h' x "java/lang/String" "coder" "B" (.int 0) ∧ Fld Z h' x "java/lang/String" "value" "[B" (.ref b) ∧ Ary Z h' b .byte [.int (c.toInt8.toInt32), .int (d.toInt8.toInt32)]) := by
  refine Ct.of (plainFor_of_name pn_0) (fun m => ef_s4 x ca (0 : Int32) (2 : Int32) m) ?_
  intro W V H r0
  have r82 : W h0 0 0 1 #[.val (.ref x), .val (.ref ca), .val (.int (0 : Int32)), .val (.int (2 : Int32)), .val .null, .unset] [(.ref x)] := (H.aloadN d2_0 r0 rfl rfl)
  have r83 : W h0 0 0 4 #[.val (.ref x), .val (.ref ca), .val (.int (0 : Int32)), .val (.int (2 : Int32)), .val .null, .unset] [] := H.initO (w := 0) (hw _ (List.mem_of_getElem? (i := 11) rfl)) (hw _ (List.mem_of_getElem? (i := 12) rfl)) (hw _ (List.mem_of_getElem? (i := 13) rfl)) rfl (by decide) (Nat.le_of_eq rfl) (by decide) d2_1 r82
  have r84 : W h0 0 0 27 #[.val (.ref x), .val (.ref ca), .val (.int (0 : Int32)), .val (.int (2 : Int32)), .val .null, .unset] [] := (H.ifYes (pc' := 27) d2_5 (H.iloadN d2_4 r83 rfl) (by decide) (by decide) (feq (by decide)).2)
  have r85 : W h0 0 0 30 #[.val (.ref x), .val (.ref ca), .val (.int (0 : Int32)), .val (.int (2 : Int32)), .val .null, .unset] [(.int cs)] := H.getS (hw _ (List.mem_of_getElem? (i := 14) rfl)) (Sta.ext O0 S1) d2_27 r84
  have r86 : W h0 0 0 33 #[.val (.ref x), .val (.ref ca), .val (.int (0 : Int32)), .val (.int (2 : Int32)), .val .null, .unset] [] := (H.ifNo d2_30 r85 (feq hcs).1)
  have r87 : W h0 0 0 36 #[.val (.ref x), .val (.ref ca), .val (.int (0 : Int32)), .val (.int (2 : Int32)), .val .null, .unset] [(.int (2 : Int32)), (.int (0 : Int32)), (.ref ca)] := (H.iloadN d2_35 (H.iloadN d2_34 (H.aloadN d2_33 r86 rfl rfl) rfl) rfl)
  obtain ⟨_, hc1, ⟨b, rfl, NB, YB, K1, B1⟩, r88⟩ := H.callS (w := 0) (argsL := [(.ref ca), (.int (0 : Int32)), (.int (2 : Int32))]) (rest := []) (hw _ (List.mem_of_getElem? (i := 15) rfl)) (hw _ (List.mem_of_getElem? (i := 16) rfl)) (hw _ (List.mem_of_getElem? (i := 17) rfl)) (hw _ (List.mem_of_getElem? (i := 18) rfl)) (by decide) pd_5 (by decide) (by decide) (by decide) (by decide) (cm_ct hw ca c d gc gd h0 n0 Z0 C0) rfl rfl (Nat.le_of_eq rfl) rfl d2_36 r87
  have Z89 : n0 ≤ hc1.size := Nat.le_trans Z0 K1.1
  have Y90 : h0.size ≤ hc1.size := Nat.le_trans (Nat.le_refl _) K1.1
  replace r88 : W hc1 1 2 39 #[.val (.ref x), .val (.ref ca), .val (.int (0 : Int32)), .val (.int (2 : Int32)), .val .null, .unset] [(.ref b)] := r88
  have nb : x ≠ b := Nat.ne_of_lt (Nat.lt_of_lt_of_le X0.lt YB)
  have r91 : W hc1 1 2 41 #[.val (.ref x), .val (.ref ca), .val (.int (0 : Int32)), .val (.int (2 : Int32)), .val .null, .val (.ref b)] [] := (H.astore d2_39 r88 rfl rfl)
  have r92 : W hc1 1 2 45 #[.val (.ref x), .val (.ref ca), .val (.int (0 : Int32)), .val (.int (2 : Int32)), .val .null, .val (.ref b)] [(.int (2 : Int32)), (.ref b), (.ref x)] := (H.iloadN d2_44 (H.aload d2_42 (H.aloadN d2_41 r91 rfl rfl) rfl rfl) rfl)
  have r93 : W hc1 1 2 48 #[.val (.ref x), .val (.ref ca), .val (.int (0 : Int32)), .val (.int (2 : Int32)), .val .null, .val (.ref b)] [(.int (0 : Int32)), (.ref x)] := H.callSP (w := 1) (argsL := [(.ref b), (.int (2 : Int32))]) (rest := [(.ref x)]) (hw _ (List.mem_of_getElem? (i := 23) rfl)) (hw _ (List.mem_of_getElem? (i := 24) rfl)) (hw _ (List.mem_of_getElem? (i := 17) rfl)) (hw _ (List.mem_of_getElem? (i := 25) rfl)) (by decide) pd_6 (by decide) (by decide) (by decide) (by decide) (cf_ct hw b _ _ hc1 n0 B1) rfl rfl (Nat.le_of_eq rfl) rfl d2_45 r92
  have F94 := F1.keep K1 nin0
  have F95 := X0.keep K1
  obtain ⟨h96, w97, r98⟩ := H.putF (ty := .byte) (host := "") (Or.inl (hw _ (List.mem_of_getElem? (i := 26) rfl))) Via.refl F94 F95 (Or.inr ⟨(hw _ (List.mem_of_getElem? (i := 27) rfl)), rfl, rfl⟩) (hw _ (List.mem_of_getElem? (i := 2) rfl)) (by decide +kernel) rfl rfl N0 d2_48 r93
  have Z99 : n0 ≤ h96.size := by rw [w97.size]; exact Z89
  have Y100 : h0.size ≤ h96.size := by rw [w97.size]; exact Y90
  have G101 : Fld Z h96 x "java/lang/String" "coder" "B" (.int (0 : Int32)) := F94.same w97
  replace r98 : W h96 1 2 51 #[.val (.ref x), .val (.ref ca), .val (.int (0 : Int32)), .val (.int (2 : Int32)), .val .null, .val (.ref b)] [] := r98
  have r102 : W h96 1 2 54 #[.val (.ref x), .val (.ref ca), .val (.int (0 : Int32)), .val (.int (2 : Int32)), .val .null, .val (.ref b)] [(.ref b), (.ref x)] := (H.aload d2_52 (H.aloadN d2_51 r98 rfl rfl) rfl rfl)
  have F103 := F2.keep K1 nin0
  have F104 := Fld.other w97 F103 (Or.inr (slot_ne (a0 := a0) (C := "java/lang/String") (Or.inr (hw _ (List.mem_of_getElem? (i := 29) rfl))) (Or.inr (hw _ (List.mem_of_getElem? (i := 27) rfl))) (by decide) (t := (.array .byte)) (t' := .byte) (by decide +kernel) (by decide +kernel)))
  have F105 := Exa.wr w97 F95
  obtain ⟨h106, w107, r108⟩ := H.putF (ty := (.array .byte)) (host := "") (Or.inl (hw _ (List.mem_of_getElem? (i := 28) rfl))) Via.refl F104 F105 (Or.inr ⟨(hw _ (List.mem_of_getElem? (i := 29) rfl)), rfl, rfl⟩) (hw _ (List.mem_of_getElem? (i := 2) rfl)) (by decide +kernel) rfl rfl N0 d2_54 r102
  have Z109 : n0 ≤ h106.size := by rw [w107.size]; exact Z99
  have Y110 : h0.size ≤ h106.size := by rw [w107.size]; exact Y100
  have G111 : Fld Z h106 x "java/lang/String" "value" "[B" (.ref b) := F104.same w107
  replace r108 : W h106 1 2 57 #[.val (.ref x), .val (.ref ca), .val (.int (0 : Int32)), .val (.int (2 : Int32)), .val .null, .val (.ref b)] [] := r108
  have F112 := Exa.wr w107 F105
  have F113 := Fld.other w107 G101 (Or.inr (slot_ne (a0 := a0) (C := "java/lang/String") (Or.inr (hw _ (List.mem_of_getElem? (i := 27) rfl))) (Or.inr (hw _ (List.mem_of_getElem? (i := 29) rfl))) (by decide) (t := .byte) (t' := (.array .byte)) (by decide +kernel) (by decide +kernel)))
  have F114 := B1.other w97 (Ne.symm nb)
  have F115 := F114.other w107 (Ne.symm nb)
  exact ⟨_, _, H.retN rfl (by decide) (by decide) d2_57 r108, rfl, ((((Keep.refl _ _).trans K1 all0).wr w97 (Or.inl (List.mem_of_getElem? (i := 0) rfl))).wr w107 (Or.inl (List.mem_of_getElem? (i := 0) rfl))), b, NB, YB, F112, F113, G111, F115⟩
set_option maxRecDepth 65536 in
set_option maxHeartbeats 40000000 in
theorem sc_ct {l : Launch} {Z : State} {a0 : Array Value} (hw : ∀ d ∈ tables_1, d.before a0 Z = true) (x ca : Addr) (c d : Int32) (gc : own_sg c) (gd : own_sg d) (cs : Int32) (hcs : ¬ cs = 0) (S1 : Sta Z Z.heap "java/lang/String" "COMPACT_STRINGS" "Z" (.int cs)) (h0 : Heap) (n0 : Nat) (Z0 : n0 ≤ h0.size) (N0 : n0 ≤ x) (O0 : Ext Z.heap h0) (X0 : Exa Z h0 x "java/lang/String") (F1 : Fld Z h0 x "java/lang/String" "coder" "B" (.int 0)) (F2 : Fld Z h0 x "java/lang/String" "value" "[B" .null) (C0 : Ary Z h0 ca .char [.int c, .int d]) :
    Ct l Z (⟨"java/lang/String", "<init>", "([C)V"⟩ : MethodName) jdk_42_method_3_code 2 none ({ frames := 3, cells := 1, slots := 2, locals := 52 } : Room) n0 #[(.ref x), (.ref ca)] h0 (fun v h' => v = none ∧ Keep h0 h' [x] ∧ ∃ b : Addr, n0 ≤ b ∧ h0.size ≤ b ∧ Exa Z h' x "java/lang/String" ∧ Fld Z h' x "java/lang/String" "coder" "B" (.int 0) ∧ Fld Z h' x "java/lang/String" "value" "[B" (.ref b) ∧ Ary Z h' b .byte [.int (c.toInt8.toInt32), .int (d.toInt8.toInt32)]) := by
  refine Ct.of (plainFor_of_name pn_0) (fun m => ef_sc x ca m) ?_
  intro W V H r0
  have r116 : W h0 0 0 4 #[.val (.ref x), .val (.ref ca)] [(.ref ca), (.int (0 : Int32)), (.ref ca), (.ref x)] := (H.aloadN d1_3 (H.iconst (z := (0 : Int32)) d1_2 (H.aloadN d1_1 (H.aloadN d1_0 r0 rfl rfl) rfl rfl) rfl) rfl rfl)
  have r117 : W h0 0 0 5 #[.val (.ref x), .val (.ref ca)] [(.int (2 : Int32)), (.int (0 : Int32)), (.ref ca), (.ref x)] := H.lenA (z := (2 : Int32)) C0 rfl d1_4 r116
  have r118 : W h0 0 0 6 #[.val (.ref x), .val (.ref ca)] [.null, (.int (2 : Int32)), (.int (0 : Int32)), (.ref ca), (.ref x)] := (H.aconstNull d1_5 r117)
  obtain ⟨_, hc1, ⟨rfl, K1, q1⟩, r119⟩ := H.callI (w := 0) (argsL := [(.ref ca), (.int (0 : Int32)), (.int (2 : Int32)), .null]) (rest := []) rfl (hw _ (List.mem_of_getElem? (i := 7) rfl)) (hw _ (List.mem_of_getElem? (i := 8) rfl)) (hw _ (List.mem_of_getElem? (i := 3) rfl)) (hw _ (List.mem_of_getElem? (i := 10) rfl)) (by decide) pd_7 (by decide) (by decide) (by decide) (by decide) (s4_ct hw x ca c d gc gd cs hcs S1 h0 n0 Z0 N0 O0 X0 F1 F2 C0) rfl rfl (Nat.le_of_eq rfl) rfl d1_6 r118
  have Z120 : n0 ≤ hc1.size := Nat.le_trans Z0 K1.1
  replace r119 : W hc1 1 2 9 #[.val (.ref x), .val (.ref ca)] [] := r119
  exact ⟨_, _, H.retN rfl (by decide) (by decide) d1_9 r119, rfl, K1, q1⟩
set_option maxRecDepth 65536 in
set_option maxHeartbeats 40000000 in
theorem rec_ct {l : Launch} {Z : State} {a0 : Array Value} (hw : ∀ d ∈ tables_1, d.before a0 Z = true) (a : Addr) (h0 : Heap) (n0 : Nat) :
    Ct l Z (⟨"java/lang/Record", "<init>", "()V"⟩ : MethodName) jdk_30_method_1_code 1 none ({ frames := 1, cells := 0, slots := 0, locals := 12 } : Room) n0 #[(.ref a)] h0 (fun v h' => v = none ∧ h' = h0) := by
  refine Ct.of (plainFor_of_name pn_4) (fun m => ef_rec a m) ?_
  intro W V H r0
  have r121 : W h0 0 0 1 #[.val (.ref a)] [(.ref a)] := (H.aloadN d8_0 r0 rfl rfl)
  have r122 : W h0 0 0 4 #[.val (.ref a)] [] := H.initO (w := 0) (hw _ (List.mem_of_getElem? (i := 44) rfl)) (hw _ (List.mem_of_getElem? (i := 12) rfl)) (hw _ (List.mem_of_getElem? (i := 13) rfl)) rfl (by decide) (Nat.le_of_eq rfl) (by decide) d8_1 r121
  exact ⟨_, _, H.retN rfl (Nat.le_refl _) (Nat.le_refl _) d8_4 r122, rfl, rfl⟩
set_option maxRecDepth 65536 in
set_option maxHeartbeats 40000000 in
theorem abc_ct {l : Launch} {Z : State} {a0 : Array Value} (hw : ∀ d ∈ tables_1, d.before a0 Z = true) (a : Addr) (h0 : Heap) (n0 : Nat) :
    Ct l Z (⟨"java/util/AbstractCollection", "<init>", "()V"⟩ : MethodName) jdk_22_method_1_code 1 none ({ frames := 1, cells := 0, slots := 0, locals := 12 } : Room) n0 #[(.ref a)] h0 (fun v h' => v = none ∧ h' = h0) := by
  refine Ct.of (plainFor_of_name pn_5) (fun m => ef_abc a m) ?_
  intro W V H r0
  have r123 : W h0 0 0 1 #[.val (.ref a)] [(.ref a)] := (H.aloadN d11_0 r0 rfl rfl)
  have r124 : W h0 0 0 4 #[.val (.ref a)] [] := H.initO (w := 0) (hw _ (List.mem_of_getElem? (i := 67) rfl)) (hw _ (List.mem_of_getElem? (i := 12) rfl)) (hw _ (List.mem_of_getElem? (i := 13) rfl)) rfl (by decide) (Nat.le_of_eq rfl) (by decide) d11_1 r123
  exact ⟨_, _, H.retN rfl (Nat.le_refl _) (Nat.le_refl _) d11_4 r124, rfl, rfl⟩
set_option maxRecDepth 65536 in
set_option maxHeartbeats 40000000 in
theorem sl_ct {l : Launch} {Z : State} {a0 : Array Value} (hw : ∀ d ∈ tables_1, d.before a0 Z = true) (s : Addr) (p q : Int32) (h0 : Heap) (n0 : Nat) (Z0 : n0 ≤ h0.size) (N0 : n0 ≤ s) (X0 : Exa Z h0 s "com/example/resolvent/resolvent/SourceLocation") (F1 : Fld Z h0 s "com/example/resolvent/resolvent/SourceLocation" "line" "I" (.int 0)) (F2 : Fld Z h0 s "com/example/resolvent/resolvent/SourceLocation" "column" "I" (.int 0)) :
    Ct l Z (⟨"com/example/resolvent/resolvent/SourceLocation", "<init>", "(II)V"⟩ : MethodName) prog_107_method_1_code 3 none ({ frames := 2, cells := 0, slots := 0, locals := 24 } : Room) n0 #[(.ref s), (.int p), (.int q)] h0 (fun v h' => v = none ∧ Keep h0 h' [s]) := by
  refine Ct.of (plainFor_of_name pn_6) (fun m => ef_sl s p q m) ?_
  intro W V H r0
  have r125 : W h0 0 0 1 #[.val (.ref s), .val (.int p), .val (.int q)] [(.ref s)] := (H.aloadN d7_0 r0 rfl rfl)
  obtain ⟨_, hn1, ⟨rfl, eh1⟩, r126⟩ := H.callI (w := 0) (argsL := []) (rest := []) rfl (hw _ (List.mem_of_getElem? (i := 39) rfl)) (hw _ (List.mem_of_getElem? (i := 40) rfl)) (hw _ (List.mem_of_getElem? (i := 42) rfl)) (hw _ (List.mem_of_getElem? (i := 43) rfl)) (by decide) pd_8 (by decide) (by decide) (by decide) (by decide) (rec_ct hw s h0 n0) rfl rfl (Nat.le_of_eq rfl) rfl d7_1 r125
  replace r126 : W hn1 0 0 4 #[.val (.ref s), .val (.int p), .val (.int q)] [] := r126
  rw [eh1] at r126
  have r127 : W h0 0 0 6 #[.val (.ref s), .val (.int p), .val (.int q)] [(.int p), (.ref s)] := (H.iloadN d7_5 (H.aloadN d7_4 r126 rfl rfl) rfl)
  obtain ⟨h128, w129, r130⟩ := H.putF (ty := .int) (host := "") (Or.inl (hw _ (List.mem_of_getElem? (i := 45) rfl))) Via.refl F1 X0 (Or.inr ⟨(hw _ (List.mem_of_getElem? (i := 46) rfl)), rfl, rfl⟩) (hw _ (List.mem_of_getElem? (i := 34) rfl)) (by decide +kernel) rfl rfl N0 d7_6 r127
  have Z131 : n0 ≤ h128.size := by rw [w129.size]; exact Z0
  have G132 : Fld Z h128 s "com/example/resolvent/resolvent/SourceLocation" "line" "I" (.int p) := F1.same w129
  replace r130 : W h128 0 0 9 #[.val (.ref s), .val (.int p), .val (.int q)] [] := r130
  have r133 : W h128 0 0 11 #[.val (.ref s), .val (.int p), .val (.int q)] [(.int q), (.ref s)] := (H.iloadN d7_10 (H.aloadN d7_9 r130 rfl rfl) rfl)
  have F134 := Fld.other w129 F2 (Or.inr (slot_ne (a0 := a0) (C := "com/example/resolvent/resolvent/SourceLocation") (Or.inr (hw _ (List.mem_of_getElem? (i := 48) rfl))) (Or.inr (hw _ (List.mem_of_getElem? (i := 46) rfl))) (by decide) (t := .int) (t' := .int) (by decide +kernel) (by decide +kernel)))
  have F135 := Exa.wr w129 X0
  obtain ⟨h136, w137, r138⟩ := H.putF (ty := .int) (host := "") (Or.inl (hw _ (List.mem_of_getElem? (i := 47) rfl))) Via.refl F134 F135 (Or.inr ⟨(hw _ (List.mem_of_getElem? (i := 48) rfl)), rfl, rfl⟩) (hw _ (List.mem_of_getElem? (i := 34) rfl)) (by decide +kernel) rfl rfl N0 d7_11 r133
  have Z139 : n0 ≤ h136.size := by rw [w137.size]; exact Z131
  have G140 : Fld Z h136 s "com/example/resolvent/resolvent/SourceLocation" "column" "I" (.int q) := F134.same w137
  replace r138 : W h136 0 0 14 #[.val (.ref s), .val (.int p), .val (.int q)] [] := r138
  exact ⟨_, _, H.retN rfl (Nat.le_refl _) (Nat.le_refl _) d7_14 r138, rfl, (((Keep.refl _ _).wr w129 (Or.inl (List.mem_of_getElem? (i := 0) rfl))).wr w137 (Or.inl (List.mem_of_getElem? (i := 0) rfl)))⟩
set_option maxRecDepth 65536 in
set_option maxHeartbeats 40000000 in
theorem abl_ct {l : Launch} {Z : State} {a0 : Array Value} (hw : ∀ d ∈ tables_1, d.before a0 Z = true) (s : Addr) (h0 : Heap) (n0 : Nat) (Z0 : n0 ≤ h0.size) (N0 : n0 ≤ s) (X0 : Exa Z h0 s "java/util/ArrayList") (F1 : Fld Z h0 s "java/util/AbstractList" "modCount" "I" (.int 0)) (F2 : Fld Z h0 s "java/util/ArrayList" "elementData" "[Ljava/lang/Object;" (.null)) :
    Ct l Z (⟨"java/util/AbstractList", "<init>", "()V"⟩ : MethodName) jdk_39_method_1_code 1 none ({ frames := 2, cells := 0, slots := 0, locals := 24 } : Room) n0 #[(.ref s)] h0 (fun v h' => v = none ∧ Keep h0 h' [s] ∧ Exa Z h' s "java/util/ArrayList" ∧ Fld Z h' s "java/util/ArrayList" "elementData" "[Ljava/lang/Object;" (.null)) := by
  refine Ct.of (plainFor_of_name pn_7) (fun m => ef_abl s m) ?_
  intro W V H r0
  have r141 : W h0 0 0 1 #[.val (.ref s)] [(.ref s)] := (H.aloadN d10_0 r0 rfl rfl)
  obtain ⟨_, hn1, ⟨rfl, eh1⟩, r142⟩ := H.callI (w := 0) (argsL := []) (rest := []) rfl (hw _ (List.mem_of_getElem? (i := 61) rfl)) (hw _ (List.mem_of_getElem? (i := 62) rfl)) (hw _ (List.mem_of_getElem? (i := 65) rfl)) (hw _ (List.mem_of_getElem? (i := 66) rfl)) (by decide) pd_8 (by decide) (by decide) (by decide) (by decide) (abc_ct hw s h0 n0) rfl rfl (Nat.le_of_eq rfl) rfl d10_1 r141
  replace r142 : W hn1 0 0 4 #[.val (.ref s)] [] := r142
  rw [eh1] at r142
  have r143 : W h0 0 0 6 #[.val (.ref s)] [(.int (0 : Int32)), (.ref s)] := (H.iconst (z := (0 : Int32)) d10_5 (H.aloadN d10_4 r142 rfl rfl) rfl)
  obtain ⟨h144, w145, r146⟩ := H.putF (ty := .int) (host := "") (Or.inl (hw _ (List.mem_of_getElem? (i := 68) rfl))) Via.refl F1 X0 (Or.inl (hw _ (List.mem_of_getElem? (i := 69) rfl))) (hw _ (List.mem_of_getElem? (i := 50) rfl)) (by decide +kernel) rfl rfl N0 d10_6 r143
  have Z147 : n0 ≤ h144.size := by rw [w145.size]; exact Z0
  have G148 : Fld Z h144 s "java/util/AbstractList" "modCount" "I" (.int (0 : Int32)) := F1.same w145
  replace r146 : W h144 0 0 9 #[.val (.ref s)] [] := r146
  have F149 := Exa.wr w145 X0
  have F150 := Fld.other w145 F2 (Or.inr (slot_ne (a0 := a0) (C := "java/util/ArrayList") (Or.inl (hw _ (List.mem_of_getElem? (i := 72) rfl))) (Or.inl (hw _ (List.mem_of_getElem? (i := 69) rfl))) (by decide) (t := (.array (.object "java/lang/Object"))) (t' := .int) (by decide +kernel) (by decide +kernel)))
  exact ⟨_, _, H.retN rfl (Nat.le_refl _) (Nat.le_refl _) d10_9 r146, rfl, ((Keep.refl _ _).wr w145 (Or.inl (List.mem_of_getElem? (i := 0) rfl))), F149, F150⟩
set_option maxRecDepth 65536 in
set_option maxHeartbeats 40000000 in
theorem al_ct {l : Launch} {Z : State} {a0 : Array Value} (hw : ∀ d ∈ tables_1, d.before a0 Z = true) (s : Addr) (da : Addr) (S3 : Sta Z Z.heap "java/util/ArrayList" "DEFAULTCAPACITY_EMPTY_ELEMENTDATA" "[Ljava/lang/Object;" (.ref da)) (h0 : Heap) (n0 : Nat) (Z0 : n0 ≤ h0.size) (N0 : n0 ≤ s) (X0 : Exa Z h0 s "java/util/ArrayList") (F1 : Fld Z h0 s "java/util/AbstractList" "modCount" "I" (.int 0)) (F2 : Fld Z h0 s "java/util/ArrayList" "elementData" "[Ljava/lang/Object;" (.null)) (O0 : Old Z n0 h0) :
    Ct l Z (⟨"java/util/ArrayList", "<init>", "()V"⟩ : MethodName) jdk_38_method_2_code 1 none ({ frames := 3, cells := 0, slots := 0, locals := 36 } : Room) n0 #[(.ref s)] h0 (fun v h' => v = none ∧ Keep h0 h' [s]) := by
  refine Ct.of (plainFor_of_name pn_8) (fun m => ef_al s m) ?_
  intro W V H r0
  have r151 : W h0 0 0 1 #[.val (.ref s)] [(.ref s)] := (H.aloadN d9_0 r0 rfl rfl)
  obtain ⟨_, hc1, ⟨rfl, K1, X1, G1⟩, r152⟩ := H.callI (w := 0) (argsL := []) (rest := []) rfl (hw _ (List.mem_of_getElem? (i := 55) rfl)) (hw _ (List.mem_of_getElem? (i := 56) rfl)) (hw _ (List.mem_of_getElem? (i := 59) rfl)) (hw _ (List.mem_of_getElem? (i := 60) rfl)) (by decide) pd_8 (by decide) (by decide) (by decide) (by decide) (abl_ct hw s h0 n0 Z0 N0 X0 F1 F2) rfl rfl (Nat.le_of_eq rfl) rfl d9_1 r151
  have Z153 : n0 ≤ hc1.size := Nat.le_trans Z0 K1.1
  replace r152 : W hc1 0 0 4 #[.val (.ref s)] [] := r152
  have r154 : W hc1 0 0 5 #[.val (.ref s)] [(.ref s)] := (H.aloadN d9_4 r152 rfl rfl)
  have F155 := O0.keep K1 (allS N0 all0)
  have r156 : W hc1 0 0 8 #[.val (.ref s)] [(.ref da), (.ref s)] := H.getS (hw _ (List.mem_of_getElem? (i := 70) rfl)) (Sta.ext F155.2 S3) d9_5 r154
  obtain ⟨h157, w158, r159⟩ := H.putF (ty := (.array (.object "java/lang/Object"))) (host := "") (Or.inl (hw _ (List.mem_of_getElem? (i := 71) rfl))) Via.refl G1 X1 (Or.inl (hw _ (List.mem_of_getElem? (i := 72) rfl))) (hw _ (List.mem_of_getElem? (i := 50) rfl)) (by decide +kernel) rfl rfl N0 d9_8 r156
  have Z160 : n0 ≤ h157.size := by rw [w158.size]; exact Z153
  have G161 : Fld Z h157 s "java/util/ArrayList" "elementData" "[Ljava/lang/Object;" (.ref da) := G1.same w158
  replace r159 : W h157 0 0 11 #[.val (.ref s)] [] := r159
  exact ⟨_, _, H.retN rfl (Nat.le_refl _) (Nat.le_refl _) d9_11 r159, rfl, (((Keep.refl _ _).trans K1 (allS (Or.inl (List.mem_of_getElem? (i := 0) rfl)) all0)).wr w158 (Or.inl (List.mem_of_getElem? (i := 0) rfl)))⟩
set_option maxRecDepth 65536 in
set_option maxHeartbeats 40000000 in
theorem fiN_ct {l : Launch} {Z : State} {a0 : Array Value} (hw : ∀ d ∈ tables_1, d.before a0 Z = true) (f lo nm l1 l2 l3 : Addr) (h0 : Heap) (n0 : Nat) (Z0 : n0 ≤ h0.size) (N0 : n0 ≤ f) (X0 : Exa Z h0 f "com/example/resolvent/resolvent/Ast$Field") (F1 : Fld Z h0 f "com/example/resolvent/resolvent/Ast$Field" "location" "Lcom/example/resolvent/resolvent/SourceLocation;" (.null)) (F2 : Fld Z h0 f "com/example/resolvent/resolvent/Ast$Field" "alias" "Ljava/lang/String;" (.null)) (F3 : Fld Z h0 f "com/example/resolvent/resolvent/Ast$Field" "name" "Ljava/lang/String;" (.null)) (F4 : Fld Z h0 f "com/example/resolvent/resolvent/Ast$Field" "arguments" "Ljava/util/List;" (.null)) (F5 : Fld Z h0 f "com/example/resolvent/resolvent/Ast$Field" "directives" "Ljava/util/List;" (.null)) (F6 : Fld Z h0 f "com/example/resolvent/resolvent/Ast$Field" "selectionSet" "Ljava/util/List;" (.null)) :
    Ct l Z (⟨"com/example/resolvent/resolvent/Ast$Field", "<init>", "(Lcom/example/resolvent/resolvent/SourceLocation;Ljava/lang/String;Ljava/lang/String;Ljava/util/List;Ljava/util/List;Ljava/util/List;)V"⟩ : MethodName) prog_14_method_1_code 7 none ({ frames := 2, cells := 0, slots := 0, locals := 24 } : Room) n0 #[(.ref f), (.ref lo), .null, (.ref nm), (.ref l1), (.ref l2), (.ref l3)] h0 (fun v h' => v = none ∧ Keep h0 h' [f] ∧ Exa Z h' f "com/example/resolvent/resolvent/Ast$Field" ∧ Fld Z h' f "com/example/resolvent/resolvent/Ast$Field" "alias" "Ljava/lang/String;" .null ∧ Fld Z h' f "com/example/resolvent/resolvent/Ast$Field" "name" "Ljava/lang/String;" (.ref nm)) := by
  refine Ct.of (plainFor_of_name pn_9) (fun m => ef_fiN f lo nm l1 l2 l3 m) ?_
  intro W V H r0
  have r162 : W h0 0 0 1 #[.val (.ref f), .val (.ref lo), .val .null, .val (.ref nm), .val (.ref l1), .val (.ref l2), .val (.ref l3)] [(.ref f)] := (H.aloadN d12_0 r0 rfl rfl)
  obtain ⟨_, hn1, ⟨rfl, eh1⟩, r163⟩ := H.callI (w := 0) (argsL := []) (rest := []) rfl (hw _ (List.mem_of_getElem? (i := 76) rfl)) (hw _ (List.mem_of_getElem? (i := 40) rfl)) (hw _ (List.mem_of_getElem? (i := 42) rfl)) (hw _ (List.mem_of_getElem? (i := 43) rfl)) (by decide) pd_8 (by decide) (by decide) (by decide) (by decide) (rec_ct hw f h0 n0) rfl rfl (Nat.le_of_eq rfl) rfl d12_1 r162
  replace r163 : W hn1 0 0 4 #[.val (.ref f), .val (.ref lo), .val .null, .val (.ref nm), .val (.ref l1), .val (.ref l2), .val (.ref l3)] [] := r163
  rw [eh1] at r163
  have r164 : W h0 0 0 6 #[.val (.ref f), .val (.ref lo), .val .null, .val (.ref nm), .val (.ref l1), .val (.ref l2), .val (.ref l3)] [(.ref lo), (.ref f)] := (H.aloadN d12_5 (H.aloadN d12_4 r163 rfl rfl) rfl rfl)
  obtain ⟨h165, w166, r167⟩ := H.putF (ty := (.object "com/example/resolvent/resolvent/SourceLocation")) (host := "") (Or.inl (hw _ (List.mem_of_getElem? (i := 77) rfl))) Via.refl F1 X0 (Or.inr ⟨(hw _ (List.mem_of_getElem? (i := 78) rfl)), rfl, rfl⟩) (hw _ (List.mem_of_getElem? (i := 31) rfl)) (by decide +kernel) rfl rfl N0 d12_6 r164
  have Z168 : n0 ≤ h165.size := by rw [w166.size]; exact Z0
  have G169 : Fld Z h165 f "com/example/resolvent/resolvent/Ast$Field" "location" "Lcom/example/resolvent/resolvent/SourceLocation;" (.ref lo) := F1.same w166
  replace r167 : W h165 0 0 9 #[.val (.ref f), .val (.ref lo), .val .null, .val (.ref nm), .val (.ref l1), .val (.ref l2), .val (.ref l3)] [] := r167
  have r170 : W h165 0 0 11 #[.val (.ref f), .val (.ref lo), .val .null, .val (.ref nm), .val (.ref l1), .val (.ref l2), .val (.ref l3)] [.null, (.ref f)] := (H.aloadN d12_10 (H.aloadN d12_9 r167 rfl rfl) rfl rfl)
  have F171 := Fld.other w166 F2 (Or.inr (slot_ne (a0 := a0) (C := "com/example/resolvent/resolvent/Ast$Field") (Or.inr (hw _ (List.mem_of_getElem? (i := 80) rfl))) (Or.inr (hw _ (List.mem_of_getElem? (i := 78) rfl))) (by decide) (t := (.object "java/lang/String")) (t' := (.object "com/example/resolvent/resolvent/SourceLocation")) (by decide +kernel) (by decide +kernel)))
  have F172 := Exa.wr w166 X0
  obtain ⟨h173, w174, r175⟩ := H.putF (ty := (.object "java/lang/String")) (host := "") (Or.inl (hw _ (List.mem_of_getElem? (i := 79) rfl))) Via.refl F171 F172 (Or.inr ⟨(hw _ (List.mem_of_getElem? (i := 80) rfl)), rfl, rfl⟩) (hw _ (List.mem_of_getElem? (i := 31) rfl)) (by decide +kernel) rfl rfl N0 d12_11 r170
  have Z176 : n0 ≤ h173.size := by rw [w174.size]; exact Z168
  have G177 : Fld Z h173 f "com/example/resolvent/resolvent/Ast$Field" "alias" "Ljava/lang/String;" .null := F171.same w174
  replace r175 : W h173 0 0 14 #[.val (.ref f), .val (.ref lo), .val .null, .val (.ref nm), .val (.ref l1), .val (.ref l2), .val (.ref l3)] [] := r175
  have r178 : W h173 0 0 16 #[.val (.ref f), .val (.ref lo), .val .null, .val (.ref nm), .val (.ref l1), .val (.ref l2), .val (.ref l3)] [(.ref nm), (.ref f)] := (H.aloadN d12_15 (H.aloadN d12_14 r175 rfl rfl) rfl rfl)
  have F179 := Fld.other w166 F3 (Or.inr (slot_ne (a0 := a0) (C := "com/example/resolvent/resolvent/Ast$Field") (Or.inr (hw _ (List.mem_of_getElem? (i := 82) rfl))) (Or.inr (hw _ (List.mem_of_getElem? (i := 78) rfl))) (by decide) (t := (.object "java/lang/String")) (t' := (.object "com/example/resolvent/resolvent/SourceLocation")) (by decide +kernel) (by decide +kernel)))
  have F180 := Fld.other w174 F179 (Or.inr (slot_ne (a0 := a0) (C := "com/example/resolvent/resolvent/Ast$Field") (Or.inr (hw _ (List.mem_of_getElem? (i := 82) rfl))) (Or.inr (hw _ (List.mem_of_getElem? (i := 80) rfl))) (by decide) (t := (.object "java/lang/String")) (t' := (.object "java/lang/String")) (by decide +kernel) (by decide +kernel)))
  have F181 := Exa.wr w174 F172
  obtain ⟨h182, w183, r184⟩ := H.putF (ty := (.object "java/lang/String")) (host := "") (Or.inl (hw _ (List.mem_of_getElem? (i := 81) rfl))) Via.refl F180 F181 (Or.inr ⟨(hw _ (List.mem_of_getElem? (i := 82) rfl)), rfl, rfl⟩) (hw _ (List.mem_of_getElem? (i := 31) rfl)) (by decide +kernel) rfl rfl N0 d12_16 r178
  have Z185 : n0 ≤ h182.size := by rw [w183.size]; exact Z176
  have G186 : Fld Z h182 f "com/example/resolvent/resolvent/Ast$Field" "name" "Ljava/lang/String;" (.ref nm) := F180.same w183
  replace r184 : W h182 0 0 19 #[.val (.ref f), .val (.ref lo), .val .null, .val (.ref nm), .val (.ref l1), .val (.ref l2), .val (.ref l3)] [] := r184
  have r187 : W h182 0 0 22 #[.val (.ref f), .val (.ref lo), .val .null, .val (.ref nm), .val (.ref l1), .val (.ref l2), .val (.ref l3)] [(.ref l1), (.ref f)] := (H.aload d12_20 (H.aloadN d12_19 r184 rfl rfl) rfl rfl)
  have F188 := Fld.other w166 F4 (Or.inr (slot_ne (a0 := a0) (C := "com/example/resolvent/resolvent/Ast$Field") (Or.inr (hw _ (List.mem_of_getElem? (i := 84) rfl))) (Or.inr (hw _ (List.mem_of_getElem? (i := 78) rfl))) (by decide) (t := (.object "java/util/List")) (t' := (.object "com/example/resolvent/resolvent/SourceLocation")) (by decide +kernel) (by decide +kernel)))
  have F189 := Fld.other w174 F188 (Or.inr (slot_ne (a0 := a0) (C := "com/example/resolvent/resolvent/Ast$Field") (Or.inr (hw _ (List.mem_of_getElem? (i := 84) rfl))) (Or.inr (hw _ (List.mem_of_getElem? (i := 80) rfl))) (by decide) (t := (.object "java/util/List")) (t' := (.object "java/lang/String")) (by decide +kernel) (by decide +kernel)))
  have F190 := Fld.other w183 F189 (Or.inr (slot_ne (a0 := a0) (C := "com/example/resolvent/resolvent/Ast$Field") (Or.inr (hw _ (List.mem_of_getElem? (i := 84) rfl))) (Or.inr (hw _ (List.mem_of_getElem? (i := 82) rfl))) (by decide) (t := (.object "java/util/List")) (t' := (.object "java/lang/String")) (by decide +kernel) (by decide +kernel)))
  have F191 := Exa.wr w183 F181
  obtain ⟨h192, w193, r194⟩ := H.putF (ty := (.object "java/util/List")) (host := "") (Or.inl (hw _ (List.mem_of_getElem? (i := 83) rfl))) Via.refl F190 F191 (Or.inr ⟨(hw _ (List.mem_of_getElem? (i := 84) rfl)), rfl, rfl⟩) (hw _ (List.mem_of_getElem? (i := 31) rfl)) (by decide +kernel) rfl rfl N0 d12_22 r187
  have Z195 : n0 ≤ h192.size := by rw [w193.size]; exact Z185
  have G196 : Fld Z h192 f "com/example/resolvent/resolvent/Ast$Field" "arguments" "Ljava/util/List;" (.ref l1) := F190.same w193
  replace r194 : W h192 0 0 25 #[.val (.ref f), .val (.ref lo), .val .null, .val (.ref nm), .val (.ref l1), .val (.ref l2), .val (.ref l3)] [] := r194
  have r197 : W h192 0 0 28 #[.val (.ref f), .val (.ref lo), .val .null, .val (.ref nm), .val (.ref l1), .val (.ref l2), .val (.ref l3)] [(.ref l2), (.ref f)] := (H.aload d12_26 (H.aloadN d12_25 r194 rfl rfl) rfl rfl)
  have F198 := Fld.other w166 F5 (Or.inr (slot_ne (a0 := a0) (C := "com/example/resolvent/resolvent/Ast$Field") (Or.inr (hw _ (List.mem_of_getElem? (i := 86) rfl))) (Or.inr (hw _ (List.mem_of_getElem? (i := 78) rfl))) (by decide) (t := (.object "java/util/List")) (t' := (.object "com/example/resolvent/resolvent/SourceLocation")) (by decide +kernel) (by decide +kernel)))
  have F199 := Fld.other w174 F198 (Or.inr (slot_ne (a0 := a0) (C := "com/example/resolvent/resolvent/Ast$Field") (Or.inr (hw _ (List.mem_of_getElem? (i := 86) rfl))) (Or.inr (hw _ (List.mem_of_getElem? (i := 80) rfl))) (by decide) (t := (.object "java/util/List")) (t' := (.object "java/lang/String")) (by decide +kernel) (by decide +kernel)))
  have F200 := Fld.other w183 F199 (Or.inr (slot_ne (a0 := a0) (C := "com/example/resolvent/resolvent/Ast$Field") (Or.inr (hw _ (List.mem_of_getElem? (i := 86) rfl))) (Or.inr (hw _ (List.mem_of_getElem? (i := 82) rfl))) (by decide) (t := (.object "java/util/List")) (t' := (.object "java/lang/String")) (by decide +kernel) (by decide +kernel)))
  have F201 := Fld.other w193 F200 (Or.inr (slot_ne (a0 := a0) (C := "com/example/resolvent/resolvent/Ast$Field") (Or.inr (hw _ (List.mem_of_getElem? (i := 86) rfl))) (Or.inr (hw _ (List.mem_of_getElem? (i := 84) rfl))) (by decide) (t := (.object "java/util/List")) (t' := (.object "java/util/List")) (by decide +kernel) (by decide +kernel)))
  have F202 := Exa.wr w193 F191
  obtain ⟨h203, w204, r205⟩ := H.putF (ty := (.object "java/util/List")) (host := "") (Or.inl (hw _ (List.mem_of_getElem? (i := 85) rfl))) Via.refl F201 F202 (Or.inr ⟨(hw _ (List.mem_of_getElem? (i := 86) rfl)), rfl, rfl⟩) (hw _ (List.mem_of_getElem? (i := 31) rfl)) (by decide +kernel) rfl rfl N0 d12_28 r197
  have Z206 : n0 ≤ h203.size := by rw [w204.size]; exact Z195
  have G207 : Fld Z h203 f "com/example/resolvent/resolvent/Ast$Field" "directives" "Ljava/util/List;" (.ref l2) := F201.same w204
  replace r205 : W h203 0 0 31 #[.val (.ref f), .val (.ref lo), .val .null, .val (.ref nm), .val (.ref l1), .val (.ref l2), .val (.ref l3)] [] := r205
  have r208 : W h203 0 0 34 #[.val (.ref f), .val (.ref lo), .val .null, .val (.ref nm), .val (.ref l1), .val (.ref l2), .val (.ref l3)] [(.ref l3), (.ref f)] := (H.aload d12_32 (H.aloadN d12_31 r205 rfl rfl) rfl rfl)
  have F209 := Fld.other w166 F6 (Or.inr (slot_ne (a0 := a0) (C := "com/example/resolvent/resolvent/Ast$Field") (Or.inr (hw _ (List.mem_of_getElem? (i := 88) rfl))) (Or.inr (hw _ (List.mem_of_getElem? (i := 78) rfl))) (by decide) (t := (.object "java/util/List")) (t' := (.object "com/example/resolvent/resolvent/SourceLocation")) (by decide +kernel) (by decide +kernel)))
  have F210 := Fld.other w174 F209 (Or.inr (slot_ne (a0 := a0) (C := "com/example/resolvent/resolvent/Ast$Field") (Or.inr (hw _ (List.mem_of_getElem? (i := 88) rfl))) (Or.inr (hw _ (List.mem_of_getElem? (i := 80) rfl))) (by decide) (t := (.object "java/util/List")) (t' := (.object "java/lang/String")) (by decide +kernel) (by decide +kernel)))
  have F211 := Fld.other w183 F210 (Or.inr (slot_ne (a0 := a0) (C := "com/example/resolvent/resolvent/Ast$Field") (Or.inr (hw _ (List.mem_of_getElem? (i := 88) rfl))) (Or.inr (hw _ (List.mem_of_getElem? (i := 82) rfl))) (by decide) (t := (.object "java/util/List")) (t' := (.object "java/lang/String")) (by decide +kernel) (by decide +kernel)))
  have F212 := Fld.other w193 F211 (Or.inr (slot_ne (a0 := a0) (C := "com/example/resolvent/resolvent/Ast$Field") (Or.inr (hw _ (List.mem_of_getElem? (i := 88) rfl))) (Or.inr (hw _ (List.mem_of_getElem? (i := 84) rfl))) (by decide) (t := (.object "java/util/List")) (t' := (.object "java/util/List")) (by decide +kernel) (by decide +kernel)))
  have F213 := Fld.other w204 F212 (Or.inr (slot_ne (a0 := a0) (C := "com/example/resolvent/resolvent/Ast$Field") (Or.inr (hw _ (List.mem_of_getElem? (i := 88) rfl))) (Or.inr (hw _ (List.mem_of_getElem? (i := 86) rfl))) (by decide) (t := (.object "java/util/List")) (t' := (.object "java/util/List")) (by decide +kernel) (by decide +kernel)))
  have F214 := Exa.wr w204 F202
  obtain ⟨h215, w216, r217⟩ := H.putF (ty := (.object "java/util/List")) (host := "") (Or.inl (hw _ (List.mem_of_getElem? (i := 87) rfl))) Via.refl F213 F214 (Or.inr ⟨(hw _ (List.mem_of_getElem? (i := 88) rfl)), rfl, rfl⟩) (hw _ (List.mem_of_getElem? (i := 31) rfl)) (by decide +kernel) rfl rfl N0 d12_34 r208
  have Z218 : n0 ≤ h215.size := by rw [w216.size]; exact Z206
  have G219 : Fld Z h215 f "com/example/resolvent/resolvent/Ast$Field" "selectionSet" "Ljava/util/List;" (.ref l3) := F213.same w216
  replace r217 : W h215 0 0 37 #[.val (.ref f), .val (.ref lo), .val .null, .val (.ref nm), .val (.ref l1), .val (.ref l2), .val (.ref l3)] [] := r217
  have F220 := Exa.wr w216 F214
  have F221 := Fld.other w183 G177 (Or.inr (slot_ne (a0 := a0) (C := "com/example/resolvent/resolvent/Ast$Field") (Or.inr (hw _ (List.mem_of_getElem? (i := 80) rfl))) (Or.inr (hw _ (List.mem_of_getElem? (i := 82) rfl))) (by decide) (t := (.object "java/lang/String")) (t' := (.object "java/lang/String")) (by decide +kernel) (by decide +kernel)))
  have F222 := Fld.other w193 F221 (Or.inr (slot_ne (a0 := a0) (C := "com/example/resolvent/resolvent/Ast$Field") (Or.inr (hw _ (List.mem_of_getElem? (i := 80) rfl))) (Or.inr (hw _ (List.mem_of_getElem? (i := 84) rfl))) (by decide) (t := (.object "java/lang/String")) (t' := (.object "java/util/List")) (by decide +kernel) (by decide +kernel)))
  have F223 := Fld.other w204 F222 (Or.inr (slot_ne (a0 := a0) (C := "com/example/resolvent/resolvent/Ast$Field") (Or.inr (hw _ (List.mem_of_getElem? (i := 80) rfl))) (Or.inr (hw _ (List.mem_of_getElem? (i := 86) rfl))) (by decide) (t := (.object "java/lang/String")) (t' := (.object "java/util/List")) (by decide +kernel) (by decide +kernel)))
  have F224 := Fld.other w216 F223 (Or.inr (slot_ne (a0 := a0) (C := "com/example/resolvent/resolvent/Ast$Field") (Or.inr (hw _ (List.mem_of_getElem? (i := 80) rfl))) (Or.inr (hw _ (List.mem_of_getElem? (i := 88) rfl))) (by decide) (t := (.object "java/lang/String")) (t' := (.object "java/util/List")) (by decide +kernel) (by decide +kernel)))
  have F225 := Fld.other w193 G186 (Or.inr (slot_ne (a0 := a0) (C := "com/example/resolvent/resolvent/Ast$Field") (Or.inr (hw _ (List.mem_of_getElem? (i := 82) rfl))) (Or.inr (hw _ (List.mem_of_getElem? (i := 84) rfl))) (by decide) (t := (.object "java/lang/String")) (t' := (.object "java/util/List")) (by decide +kernel) (by decide +kernel)))
  have F226 := Fld.other w204 F225 (Or.inr (slot_ne (a0 := a0) (C := "com/example/resolvent/resolvent/Ast$Field") (Or.inr (hw _ (List.mem_of_getElem? (i := 82) rfl))) (Or.inr (hw _ (List.mem_of_getElem? (i := 86) rfl))) (by decide) (t := (.object "java/lang/String")) (t' := (.object "java/util/List")) (by decide +kernel) (by decide +kernel)))
  have F227 := Fld.other w216 F226 (Or.inr (slot_ne (a0 := a0) (C := "com/example/resolvent/resolvent/Ast$Field") (Or.inr (hw _ (List.mem_of_getElem? (i := 82) rfl))) (Or.inr (hw _ (List.mem_of_getElem? (i := 88) rfl))) (by decide) (t := (.object "java/lang/String")) (t' := (.object "java/util/List")) (by decide +kernel) (by decide +kernel)))
  exact ⟨_, _, H.retN rfl (Nat.le_refl _) (Nat.le_refl _) d12_37 r217, rfl, (((((((Keep.refl _ _).wr w166 (Or.inl (List.mem_of_getElem? (i := 0) rfl))).wr w174 (Or.inl (List.mem_of_getElem? (i := 0) rfl))).wr w183 (Or.inl (List.mem_of_getElem? (i := 0) rfl))).wr w193 (Or.inl (List.mem_of_getElem? (i := 0) rfl))).wr w204 (Or.inl (List.mem_of_getElem? (i := 0) rfl))).wr w216 (Or.inl (List.mem_of_getElem? (i := 0) rfl))), F220, F224, F227⟩
set_option maxRecDepth 65536 in
set_option maxHeartbeats 40000000 in
theorem rkN_ct {l : Launch} {Z : State} {a0 : Array Value} (hw : ∀ d ∈ tables_1, d.before a0 Z = true) (f nm : Addr) (h0 : Heap) (n0 : Nat) (F2 : Fld Z h0 f "com/example/resolvent/resolvent/Ast$Field" "alias" "Ljava/lang/String;" .null) (F3 : Fld Z h0 f "com/example/resolvent/resolvent/Ast$Field" "name" "Ljava/lang/String;" (.ref nm)) :
    Ct l Z (⟨"com/example/resolvent/resolvent/Ast$Field", "responseKey", "()Ljava/lang/String;"⟩ : MethodName) prog_14_method_2_code 1 (some (.object "java/lang/String")) ({ frames := 0, cells := 0, slots := 0, locals := 0 } : Room) n0 #[(.ref f)] h0 (fun v h' => v = some (.ref nm) ∧ h' = h0) := by
  refine Ct.of (plainFor_of_name pn_9) (fun m => ef_rk f m) ?_
  intro W V H r0
  have r228 : W h0 0 0 1 #[.val (.ref f)] [(.ref f)] := (H.aloadN d13_0 r0 rfl rfl)
  have r229 : W h0 0 0 4 #[.val (.ref f)] [.null] := H.getF' (hw _ (List.mem_of_getElem? (i := 79) rfl)) F2 d13_1 r228
  have r230 : W h0 0 0 14 #[.val (.ref f)] [] := (H.ifnullYes (pc' := 14) d13_4 r229 (by decide) (by decide))
  have r231 : W h0 0 0 15 #[.val (.ref f)] [(.ref f)] := (H.aloadN d13_14 r230 rfl rfl)
  have r232 : W h0 0 0 18 #[.val (.ref f)] [(.ref nm)] := H.getF' (hw _ (List.mem_of_getElem? (i := 81) rfl)) F3 d13_15 r231
  exact ⟨_, _, H.retR rfl rfl rfl (Nat.le_refl _) (Nat.le_refl _) d13_18 r232, rfl, rfl⟩
set_option maxRecDepth 65536 in
set_option maxHeartbeats 40000000 in
theorem fiA_ct {l : Launch} {Z : State} {a0 : Array Value} (hw : ∀ d ∈ tables_1, d.before a0 Z = true) (f lo aa nm l1 l2 l3 : Addr) (h0 : Heap) (n0 : Nat) (Z0 : n0 ≤ h0.size) (N0 : n0 ≤ f) (X0 : Exa Z h0 f "com/example/resolvent/resolvent/Ast$Field") (F1 : Fld Z h0 f "com/example/resolvent/resolvent/Ast$Field" "location" "Lcom/example/resolvent/resolvent/SourceLocation;" (.null)) (F2 : Fld Z h0 f "com/example/resolvent/resolvent/Ast$Field" "alias" "Ljava/lang/String;" (.null)) (F3 : Fld Z h0 f "com/example/resolvent/resolvent/Ast$Field" "name" "Ljava/lang/String;" (.null)) (F4 : Fld Z h0 f "com/example/resolvent/resolvent/Ast$Field" "arguments" "Ljava/util/List;" (.null)) (F5 : Fld Z h0 f "com/example/resolvent/resolvent/Ast$Field" "directives" "Ljava/util/List;" (.null)) (F6 : Fld Z h0 f "com/example/resolvent/resolvent/Ast$Field" "selectionSet" "Ljava/util/List;" (.null)) :
    Ct l Z (⟨"com/example/resolvent/resolvent/Ast$Field", "<init>", "(Lcom/example/resolvent/resolvent/SourceLocation;Ljava/lang/String;Ljava/lang/String;Ljava/util/List;Ljava/util/List;Ljava/util/List;)V"⟩ : MethodName) prog_14_method_1_code 7 none ({ frames := 2, cells := 0, slots := 0, locals := 24 } : Room) n0 #[(.ref f), (.ref lo), (.ref aa), (.ref nm), (.ref l1), (.ref l2), (.ref l3)] h0 (fun v h' => v = none ∧ Keep h0 h' [f] ∧ Exa Z h' f "com/example/resolvent/resolvent/Ast$Field" ∧ Fld Z h' f "com/example/resolvent/resolvent/Ast$Field" "alias" "Ljava/lang/String;" (.ref aa) ∧ Fld Z h' f "com/example/resolvent/resolvent/Ast$Field" "name" "Ljava/lang/String;" (.ref nm)) := by
  refine Ct.of (plainFor_of_name pn_9) (fun m => ef_fiA f lo aa nm l1 l2 l3 m) ?_
  intro W V H r0
  have r233 : W h0 0 0 1 #[.val (.ref f), .val (.ref lo), .val (.ref aa), .val (.ref nm), .val (.ref l1), .val (.ref l2), .val (.ref l3)] [(.ref f)] := (H.aloadN d12_0 r0 rfl rfl)
  obtain ⟨_, hn1, ⟨rfl, eh1⟩, r234⟩ := H.callI (w := 0) (argsL := []) (rest := []) rfl (hw _ (List.mem_of_getElem? (i := 76) rfl)) (hw _ (List.mem_of_getElem? (i := 40) rfl)) (hw _ (List.mem_of_getElem? (i := 42) rfl)) (hw _ (List.mem_of_getElem? (i := 43) rfl)) (by decide) pd_8 (by decide) (by decide) (by decide) (by decide) (rec_ct hw f h0 n0) rfl rfl (Nat.le_of_eq rfl) rfl d12_1 r233
  replace r234 : W hn1 0 0 4 #[.val (.ref f), .val (.ref lo), .val (.ref aa), .val (.ref nm), .val (.ref l1), .val (.ref l2), .val (.ref l3)] [] := r234
  rw [eh1] at r234
  have r235 : W h0 0 0 6 #[.val (.ref f), .val (.ref lo), .val (.ref aa), .val (.ref nm), .val (.ref l1), .val (.ref l2), .val (.ref l3)] [(.ref lo), (.ref f)] := (H.aloadN d12_5 (H.aloadN d12_4 r234 rfl rfl) rfl rfl)
  obtain ⟨h236, w237, r238⟩ := H.putF (ty := (.object "com/example/resolvent/resolvent/SourceLocation")) (host := "") (Or.inl (hw _ (List.mem_of_getElem? (i := 77) rfl))) Via.refl F1 X0 (Or.inr ⟨(hw _ (List.mem_of_getElem? (i := 78) rfl)), rfl, rfl⟩) (hw _ (List.mem_of_getElem? (i := 31) rfl)) (by decide +kernel) rfl rfl N0 d12_6 r235
  have Z239 : n0 ≤ h236.size := by rw [w237.size]; exact Z0
  have G240 : Fld Z h236 f "com/example/resolvent/resolvent/Ast$Field" "location" "Lcom/example/resolvent/resolvent/SourceLocation;" (.ref lo) := F1.same w237
  replace r238 : W h236 0 0 9 #[.val (.ref f), .val (.ref lo), .val (.ref aa), .val (.ref nm), .val (.ref l1), .val (.ref l2), .val (.ref l3)] [] := r238
  have r241 : W h236 0 0 11 #[.val (.ref f), .val (.ref lo), .val (.ref aa), .val (.ref nm), .val (.ref l1), .val (.ref l2), .val (.ref l3)] [(.ref aa), (.ref f)] := (H.aloadN d12_10 (H.aloadN d12_9 r238 rfl rfl) rfl rfl)
  have F242 := Fld.other w237 F2 (Or.inr (slot_ne (a0 := a0) (C := "com/example/resolvent/resolvent/Ast$Field") (Or.inr (hw _ (List.mem_of_getElem? (i := 80) rfl))) (Or.inr (hw _ (List.mem_of_getElem? (i := 78) rfl))) (by decide) (t := (.object "java/lang/String")) (t' := (.object "com/example/resolvent/resolvent/SourceLocation")) (by decide +kernel) (by decide +kernel)))
  have F243 := Exa.wr w237 X0
  obtain ⟨h244, w245, r246⟩ := H.putF (ty := (.object "java/lang/String")) (host := "") (Or.inl (hw _ (List.mem_of_getElem? (i := 79) rfl))) Via.refl F242 F243 (Or.inr ⟨(hw _ (List.mem_of_getElem? (i := 80) rfl)), rfl, rfl⟩) (hw _ (List.mem_of_getElem? (i := 31) rfl)) (by decide +kernel) rfl rfl N0 d12_11 r241
  have Z247 : n0 ≤ h244.size := by rw [w245.size]; exact Z239
  have G248 : Fld Z h244 f "com/example/resolvent/resolvent/Ast$Field" "alias" "Ljava/lang/String;" (.ref aa) := F242.same w245
  replace r246 : W h244 0 0 14 #[.val (.ref f), .val (.ref lo), .val (.ref aa), .val (.ref nm), .val (.ref l1), .val (.ref l2), .val (.ref l3)] [] := r246
  have r249 : W h244 0 0 16 #[.val (.ref f), .val (.ref lo), .val (.ref aa), .val (.ref nm), .val (.ref l1), .val (.ref l2), .val (.ref l3)] [(.ref nm), (.ref f)] := (H.aloadN d12_15 (H.aloadN d12_14 r246 rfl rfl) rfl rfl)
  have F250 := Fld.other w237 F3 (Or.inr (slot_ne (a0 := a0) (C := "com/example/resolvent/resolvent/Ast$Field") (Or.inr (hw _ (List.mem_of_getElem? (i := 82) rfl))) (Or.inr (hw _ (List.mem_of_getElem? (i := 78) rfl))) (by decide) (t := (.object "java/lang/String")) (t' := (.object "com/example/resolvent/resolvent/SourceLocation")) (by decide +kernel) (by decide +kernel)))
  have F251 := Fld.other w245 F250 (Or.inr (slot_ne (a0 := a0) (C := "com/example/resolvent/resolvent/Ast$Field") (Or.inr (hw _ (List.mem_of_getElem? (i := 82) rfl))) (Or.inr (hw _ (List.mem_of_getElem? (i := 80) rfl))) (by decide) (t := (.object "java/lang/String")) (t' := (.object "java/lang/String")) (by decide +kernel) (by decide +kernel)))
  have F252 := Exa.wr w245 F243
  obtain ⟨h253, w254, r255⟩ := H.putF (ty := (.object "java/lang/String")) (host := "") (Or.inl (hw _ (List.mem_of_getElem? (i := 81) rfl))) Via.refl F251 F252 (Or.inr ⟨(hw _ (List.mem_of_getElem? (i := 82) rfl)), rfl, rfl⟩) (hw _ (List.mem_of_getElem? (i := 31) rfl)) (by decide +kernel) rfl rfl N0 d12_16 r249
  have Z256 : n0 ≤ h253.size := by rw [w254.size]; exact Z247
  have G257 : Fld Z h253 f "com/example/resolvent/resolvent/Ast$Field" "name" "Ljava/lang/String;" (.ref nm) := F251.same w254
  replace r255 : W h253 0 0 19 #[.val (.ref f), .val (.ref lo), .val (.ref aa), .val (.ref nm), .val (.ref l1), .val (.ref l2), .val (.ref l3)] [] := r255
  have r258 : W h253 0 0 22 #[.val (.ref f), .val (.ref lo), .val (.ref aa), .val (.ref nm), .val (.ref l1), .val (.ref l2), .val (.ref l3)] [(.ref l1), (.ref f)] := (H.aload d12_20 (H.aloadN d12_19 r255 rfl rfl) rfl rfl)
  have F259 := Fld.other w237 F4 (Or.inr (slot_ne (a0 := a0) (C := "com/example/resolvent/resolvent/Ast$Field") (Or.inr (hw _ (List.mem_of_getElem? (i := 84) rfl))) (Or.inr (hw _ (List.mem_of_getElem? (i := 78) rfl))) (by decide) (t := (.object "java/util/List")) (t' := (.object "com/example/resolvent/resolvent/SourceLocation")) (by decide +kernel) (by decide +kernel)))
  have F260 := Fld.other w245 F259 (Or.inr (slot_ne (a0 := a0) (C := "com/example/resolvent/resolvent/Ast$Field") (Or.inr (hw _ (List.mem_of_getElem? (i := 84) rfl))) (Or.inr (hw _ (List.mem_of_getElem? (i := 80) rfl))) (by decide) (t := (.object "java/util/List")) (t' := (.object "java/lang/String")) (by decide +kernel) (by decide +kernel)))
  have F261 := Fld.other w254 F260 (Or.inr (slot_ne (a0 := a0) (C := "com/example/resolvent/resolvent/Ast$Field") (Or.inr (hw _ (List.mem_of_getElem? (i := 84) rfl))) (Or.inr (hw _ (List.mem_of_getElem? (i := 82) rfl))) (by decide) (t := (.object "java/util/List")) (t' := (.object "java/lang/String")) (by decide +kernel) (by decide +kernel)))
  have F262 := Exa.wr w254 F252
  obtain ⟨h263, w264, r265⟩ := H.putF (ty := (.object "java/util/List")) (host := "") (Or.inl (hw _ (List.mem_of_getElem? (i := 83) rfl))) Via.refl F261 F262 (Or.inr ⟨(hw _ (List.mem_of_getElem? (i := 84) rfl)), rfl, rfl⟩) (hw _ (List.mem_of_getElem? (i := 31) rfl)) (by decide +kernel) rfl rfl N0 d12_22 r258
  have Z266 : n0 ≤ h263.size := by rw [w264.size]; exact Z256
  have G267 : Fld Z h263 f "com/example/resolvent/resolvent/Ast$Field" "arguments" "Ljava/util/List;" (.ref l1) := F261.same w264
  replace r265 : W h263 0 0 25 #[.val (.ref f), .val (.ref lo), .val (.ref aa), .val (.ref nm), .val (.ref l1), .val (.ref l2), .val (.ref l3)] [] := r265
  have r268 : W h263 0 0 28 #[.val (.ref f), .val (.ref lo), .val (.ref aa), .val (.ref nm), .val (.ref l1), .val (.ref l2), .val (.ref l3)] [(.ref l2), (.ref f)] := (H.aload d12_26 (H.aloadN d12_25 r265 rfl rfl) rfl rfl)
  have F269 := Fld.other w237 F5 (Or.inr (slot_ne (a0 := a0) (C := "com/example/resolvent/resolvent/Ast$Field") (Or.inr (hw _ (List.mem_of_getElem? (i := 86) rfl))) (Or.inr (hw _ (List.mem_of_getElem? (i := 78) rfl))) (by decide) (t := (.object "java/util/List")) (t' := (.object "com/example/resolvent/resolvent/SourceLocation")) (by decide +kernel) (by decide +kernel)))
  have F270 := Fld.other w245 F269 (Or.inr (slot_ne (a0 := a0) (C := "com/example/resolvent/resolvent/Ast$Field") (Or.inr (hw _ (List.mem_of_getElem? (i := 86) rfl))) (Or.inr (hw _ (List.mem_of_getElem? (i := 80) rfl))) (by decide) (t := (.object "java/util/List")) (t' := (.object "java/lang/String")) (by decide +kernel) (by decide +kernel)))
  have F271 := Fld.other w254 F270 (Or.inr (slot_ne (a0 := a0) (C := "com/example/resolvent/resolvent/Ast$Field") (Or.inr (hw _ (List.mem_of_getElem? (i := 86) rfl))) (Or.inr (hw _ (List.mem_of_getElem? (i := 82) rfl))) (by decide) (t := (.object "java/util/List")) (t' := (.object "java/lang/String")) (by decide +kernel) (by decide +kernel)))
  have F272 := Fld.other w264 F271 (Or.inr (slot_ne (a0 := a0) (C := "com/example/resolvent/resolvent/Ast$Field") (Or.inr (hw _ (List.mem_of_getElem? (i := 86) rfl))) (Or.inr (hw _ (List.mem_of_getElem? (i := 84) rfl))) (by decide) (t := (.object "java/util/List")) (t' := (.object "java/util/List")) (by decide +kernel) (by decide +kernel)))
  have F273 := Exa.wr w264 F262
  obtain ⟨h274, w275, r276⟩ := H.putF (ty := (.object "java/util/List")) (host := "") (Or.inl (hw _ (List.mem_of_getElem? (i := 85) rfl))) Via.refl F272 F273 (Or.inr ⟨(hw _ (List.mem_of_getElem? (i := 86) rfl)), rfl, rfl⟩) (hw _ (List.mem_of_getElem? (i := 31) rfl)) (by decide +kernel) rfl rfl N0 d12_28 r268
  have Z277 : n0 ≤ h274.size := by rw [w275.size]; exact Z266
  have G278 : Fld Z h274 f "com/example/resolvent/resolvent/Ast$Field" "directives" "Ljava/util/List;" (.ref l2) := F272.same w275
  replace r276 : W h274 0 0 31 #[.val (.ref f), .val (.ref lo), .val (.ref aa), .val (.ref nm), .val (.ref l1), .val (.ref l2), .val (.ref l3)] [] := r276
  have r279 : W h274 0 0 34 #[.val (.ref f), .val (.ref lo), .val (.ref aa), .val (.ref nm), .val (.ref l1), .val (.ref l2), .val (.ref l3)] [(.ref l3), (.ref f)] := (H.aload d12_32 (H.aloadN d12_31 r276 rfl rfl) rfl rfl)
  have F280 := Fld.other w237 F6 (Or.inr (slot_ne (a0 := a0) (C := "com/example/resolvent/resolvent/Ast$Field") (Or.inr (hw _ (List.mem_of_getElem? (i := 88) rfl))) (Or.inr (hw _ (List.mem_of_getElem? (i := 78) rfl))) (by decide) (t := (.object "java/util/List")) (t' := (.object "com/example/resolvent/resolvent/SourceLocation")) (by decide +kernel) (by decide +kernel)))
  have F281 := Fld.other w245 F280 (Or.inr (slot_ne (a0 := a0) (C := "com/example/resolvent/resolvent/Ast$Field") (Or.inr (hw _ (List.mem_of_getElem? (i := 88) rfl))) (Or.inr (hw _ (List.mem_of_getElem? (i := 80) rfl))) (by decide) (t := (.object "java/util/List")) (t' := (.object "java/lang/String")) (by decide +kernel) (by decide +kernel)))
  have F282 := Fld.other w254 F281 (Or.inr (slot_ne (a0 := a0) (C := "com/example/resolvent/resolvent/Ast$Field") (Or.inr (hw _ (List.mem_of_getElem? (i := 88) rfl))) (Or.inr (hw _ (List.mem_of_getElem? (i := 82) rfl))) (by decide) (t := (.object "java/util/List")) (t' := (.object "java/lang/String")) (by decide +kernel) (by decide +kernel)))
  have F283 := Fld.other w264 F282 (Or.inr (slot_ne (a0 := a0) (C := "com/example/resolvent/resolvent/Ast$Field") (Or.inr (hw _ (List.mem_of_getElem? (i := 88) rfl))) (Or.inr (hw _ (List.mem_of_getElem? (i := 84) rfl))) (by decide) (t := (.object "java/util/List")) (t' := (.object "java/util/List")) (by decide +kernel) (by decide +kernel)))
  have F284 := Fld.other w275 F283 (Or.inr (slot_ne (a0 := a0) (C := "com/example/resolvent/resolvent/Ast$Field") (Or.inr (hw _ (List.mem_of_getElem? (i := 88) rfl))) (Or.inr (hw _ (List.mem_of_getElem? (i := 86) rfl))) (by decide) (t := (.object "java/util/List")) (t' := (.object "java/util/List")) (by decide +kernel) (by decide +kernel)))
  have F285 := Exa.wr w275 F273
  obtain ⟨h286, w287, r288⟩ := H.putF (ty := (.object "java/util/List")) (host := "") (Or.inl (hw _ (List.mem_of_getElem? (i := 87) rfl))) Via.refl F284 F285 (Or.inr ⟨(hw _ (List.mem_of_getElem? (i := 88) rfl)), rfl, rfl⟩) (hw _ (List.mem_of_getElem? (i := 31) rfl)) (by decide +kernel) rfl rfl N0 d12_34 r279
  have Z289 : n0 ≤ h286.size := by rw [w287.size]; exact Z277
  have G290 : Fld Z h286 f "com/example/resolvent/resolvent/Ast$Field" "selectionSet" "Ljava/util/List;" (.ref l3) := F284.same w287
  replace r288 : W h286 0 0 37 #[.val (.ref f), .val (.ref lo), .val (.ref aa), .val (.ref nm), .val (.ref l1), .val (.ref l2), .val (.ref l3)] [] := r288
  have F291 := Exa.wr w287 F285
  have F292 := Fld.other w254 G248 (Or.inr (slot_ne (a0 := a0) (C := "com/example/resolvent/resolvent/Ast$Field") (Or.inr (hw _ (List.mem_of_getElem? (i := 80) rfl))) (Or.inr (hw _ (List.mem_of_getElem? (i := 82) rfl))) (by decide) (t := (.object "java/lang/String")) (t' := (.object "java/lang/String")) (by decide +kernel) (by decide +kernel)))
  have F293 := Fld.other w264 F292 (Or.inr (slot_ne (a0 := a0) (C := "com/example/resolvent/resolvent/Ast$Field") (Or.inr (hw _ (List.mem_of_getElem? (i := 80) rfl))) (Or.inr (hw _ (List.mem_of_getElem? (i := 84) rfl))) (by decide) (t := (.object "java/lang/String")) (t' := (.object "java/util/List")) (by decide +kernel) (by decide +kernel)))
  have F294 := Fld.other w275 F293 (Or.inr (slot_ne (a0 := a0) (C := "com/example/resolvent/resolvent/Ast$Field") (Or.inr (hw _ (List.mem_of_getElem? (i := 80) rfl))) (Or.inr (hw _ (List.mem_of_getElem? (i := 86) rfl))) (by decide) (t := (.object "java/lang/String")) (t' := (.object "java/util/List")) (by decide +kernel) (by decide +kernel)))
  have F295 := Fld.other w287 F294 (Or.inr (slot_ne (a0 := a0) (C := "com/example/resolvent/resolvent/Ast$Field") (Or.inr (hw _ (List.mem_of_getElem? (i := 80) rfl))) (Or.inr (hw _ (List.mem_of_getElem? (i := 88) rfl))) (by decide) (t := (.object "java/lang/String")) (t' := (.object "java/util/List")) (by decide +kernel) (by decide +kernel)))
  have F296 := Fld.other w264 G257 (Or.inr (slot_ne (a0 := a0) (C := "com/example/resolvent/resolvent/Ast$Field") (Or.inr (hw _ (List.mem_of_getElem? (i := 82) rfl))) (Or.inr (hw _ (List.mem_of_getElem? (i := 84) rfl))) (by decide) (t := (.object "java/lang/String")) (t' := (.object "java/util/List")) (by decide +kernel) (by decide +kernel)))
  have F297 := Fld.other w275 F296 (Or.inr (slot_ne (a0 := a0) (C := "com/example/resolvent/resolvent/Ast$Field") (Or.inr (hw _ (List.mem_of_getElem? (i := 82) rfl))) (Or.inr (hw _ (List.mem_of_getElem? (i := 86) rfl))) (by decide) (t := (.object "java/lang/String")) (t' := (.object "java/util/List")) (by decide +kernel) (by decide +kernel)))
  have F298 := Fld.other w287 F297 (Or.inr (slot_ne (a0 := a0) (C := "com/example/resolvent/resolvent/Ast$Field") (Or.inr (hw _ (List.mem_of_getElem? (i := 82) rfl))) (Or.inr (hw _ (List.mem_of_getElem? (i := 88) rfl))) (by decide) (t := (.object "java/lang/String")) (t' := (.object "java/util/List")) (by decide +kernel) (by decide +kernel)))
  exact ⟨_, _, H.retN rfl (Nat.le_refl _) (Nat.le_refl _) d12_37 r288, rfl, (((((((Keep.refl _ _).wr w237 (Or.inl (List.mem_of_getElem? (i := 0) rfl))).wr w245 (Or.inl (List.mem_of_getElem? (i := 0) rfl))).wr w254 (Or.inl (List.mem_of_getElem? (i := 0) rfl))).wr w264 (Or.inl (List.mem_of_getElem? (i := 0) rfl))).wr w275 (Or.inl (List.mem_of_getElem? (i := 0) rfl))).wr w287 (Or.inl (List.mem_of_getElem? (i := 0) rfl))), F291, F295, F298⟩
set_option maxRecDepth 65536 in
set_option maxHeartbeats 40000000 in
theorem rkA_ct {l : Launch} {Z : State} {a0 : Array Value} (hw : ∀ d ∈ tables_1, d.before a0 Z = true) (f aa : Addr) (h0 : Heap) (n0 : Nat) (F2 : Fld Z h0 f "com/example/resolvent/resolvent/Ast$Field" "alias" "Ljava/lang/String;" (.ref aa)) :
    Ct l Z (⟨"com/example/resolvent/resolvent/Ast$Field", "responseKey", "()Ljava/lang/String;"⟩ : MethodName) prog_14_method_2_code 1 (some (.object "java/lang/String")) ({ frames := 0, cells := 0, slots := 0, locals := 0 } : Room) n0 #[(.ref f)] h0 (fun v h' => v = some (.ref aa) ∧ h' = h0) := by
  refine Ct.of (plainFor_of_name pn_9) (fun m => ef_rk f m) ?_
  intro W V H r0
  have r299 : W h0 0 0 1 #[.val (.ref f)] [(.ref f)] := (H.aloadN d13_0 r0 rfl rfl)
  have r300 : W h0 0 0 4 #[.val (.ref f)] [(.ref aa)] := H.getF' (hw _ (List.mem_of_getElem? (i := 79) rfl)) F2 d13_1 r299
  have r301 : W h0 0 0 7 #[.val (.ref f)] [] := (H.ifnullNo d13_4 r300)
  have r302 : W h0 0 0 8 #[.val (.ref f)] [(.ref f)] := (H.aloadN d13_7 r301 rfl rfl)
  have r303 : W h0 0 0 11 #[.val (.ref f)] [(.ref aa)] := H.getF' (hw _ (List.mem_of_getElem? (i := 79) rfl)) F2 d13_8 r302
  have r304 : W h0 0 0 18 #[.val (.ref f)] [(.ref aa)] := (H.goto (pc' := 18) d13_11 r303 (by decide) (by decide))
  exact ⟨_, _, H.retR rfl rfl rfl (Nat.le_refl _) (Nat.le_refl _) d13_18 r304, rfl, rfl⟩
set_option maxRecDepth 65536 in
set_option maxHeartbeats 40000000 in
theorem co_ct {l : Launch} {Z : State} {a0 : Array Value} (hw : ∀ d ∈ tables_1, d.before a0 Z = true) (a : Addr) (cs : Int32) (hcs : ¬ cs = 0) (S1 : Sta Z Z.heap "java/lang/String" "COMPACT_STRINGS" "Z" (.int cs)) (h0 : Heap) (n0 : Nat) (O0 : Ext Z.heap h0) (C0 : Fld Z h0 a "java/lang/String" "coder" "B" (.int 0)) :
    Ct l Z (⟨"java/lang/String", "coder", "()B"⟩ : MethodName) jdk_42_method_152_code 1 (some .byte) ({ frames := 0, cells := 0, slots := 0, locals := 0 } : Room) n0 #[(.ref a)] h0 (fun v h' => v = some (.int (0 : Int32)) ∧ h' = h0) := by
  refine Ct.of (plainFor_of_name pn_0) (fun m => ef_co a m) ?_
  intro W V H r0
  have r305 : W h0 0 0 3 #[.val (.ref a)] [(.int cs)] := H.getS (hw _ (List.mem_of_getElem? (i := 14) rfl)) (Sta.ext O0 S1) d16_0 r0
  have r306 : W h0 0 0 6 #[.val (.ref a)] [] := (H.ifNo d16_3 r305 (feq hcs).1)
  have r307 : W h0 0 0 7 #[.val (.ref a)] [(.ref a)] := (H.aloadN d16_6 r306 rfl rfl)
  have r308 : W h0 0 0 10 #[.val (.ref a)] [(.int (0 : Int32))] := H.getF' (hw _ (List.mem_of_getElem? (i := 26) rfl)) C0 d16_7 r307
  have r309 : W h0 0 0 14 #[.val (.ref a)] [(.int (0 : Int32))] := (H.goto (pc' := 14) d16_10 r308 (by decide) (by decide))
  exact ⟨_, _, H.retB (z' := (0 : Int32)) (by decide) rfl (Nat.le_refl _) (Nat.le_refl _) d16_14 r309, rfl, rfl⟩
set_option maxRecDepth 65536 in
set_option maxHeartbeats 40000000 in
theorem ln_ct {l : Launch} {Z : State} {a0 : Array Value} (hw : ∀ d ∈ tables_1, d.before a0 Z = true) (a b : Addr) (u w : Value) (cs : Int32) (hcs : ¬ cs = 0) (S1 : Sta Z Z.heap "java/lang/String" "COMPACT_STRINGS" "Z" (.int cs)) (h0 : Heap) (n0 : Nat) (O0 : Ext Z.heap h0) (X0 : Exa Z h0 a "java/lang/String") (C0 : Fld Z h0 a "java/lang/String" "coder" "B" (.int 0)) (V0 : Fld Z h0 a "java/lang/String" "value" "[B" (.ref b)) (B0 : Ary Z h0 b .byte [u, w]) :
    Ct l Z (⟨"java/lang/String", "length", "()I"⟩ : MethodName) jdk_42_method_54_code 1 (some .int) ({ frames := 1, cells := 0, slots := 0, locals := 13 } : Room) n0 #[(.ref a)] h0 (fun v h' => v = some (.int (2 : Int32)) ∧ h' = h0) := by
  refine Ct.of (plainFor_of_name pn_0) (fun m => ef_ln a m) ?_
  intro W V H r0
  have r310 : W h0 0 0 1 #[.val (.ref a)] [(.ref a)] := (H.aloadN d15_0 r0 rfl rfl)
  have r311 : W h0 0 0 4 #[.val (.ref a)] [(.ref b)] := H.getF' (hw _ (List.mem_of_getElem? (i := 28) rfl)) V0 d15_1 r310
  have r312 : W h0 0 0 5 #[.val (.ref a)] [(.int (2 : Int32))] := H.lenA (z := (2 : Int32)) B0 rfl d15_4 r311
  have r313 : W h0 0 0 6 #[.val (.ref a)] [(.ref a), (.int (2 : Int32))] := (H.aloadN d15_5 r312 rfl rfl)
  have r314 : W h0 0 0 9 #[.val (.ref a)] [(.int (0 : Int32)), (.int (2 : Int32))] := H.callVP (w := 1) (argsL := []) (rest := [(.int (2 : Int32))]) (hw _ (List.mem_of_getElem? (i := 103) rfl)) (hw _ (List.mem_of_getElem? (i := 104) rfl)) (Or.inl ⟨_, _, (hw _ (List.mem_of_getElem? (i := 106) rfl)), rfl⟩) (hw _ (List.mem_of_getElem? (i := 106) rfl)) (hw _ (List.mem_of_getElem? (i := 105) rfl)) (hw _ (List.mem_of_getElem? (i := 3) rfl)) (hw _ (List.mem_of_getElem? (i := 107) rfl)) (by decide) pd_9 (by decide) (by decide) (by decide) (by decide) X0 (co_ct hw a cs hcs S1 h0 n0 O0 C0) rfl rfl (Nat.le_of_eq rfl) rfl d15_6 r313
  have r315 : W h0 0 0 10 #[.val (.ref a)] [(.int ((2 : Int32) >>> ((0 : Int32) &&& 31)))] := (H.ishr d15_9 r314)
  replace r315 : W h0 0 0 10 #[.val (.ref a)] [(.int (2 : Int32))] := r315
  exact ⟨_, _, H.retI rfl (Nat.le_refl _) (Nat.le_refl _) d15_10 r315, rfl, rfl⟩
set_option maxRecDepth 65536 in
set_option maxHeartbeats 40000000 in
theorem ie_ct {l : Launch} {Z : State} {a0 : Array Value} (hw : ∀ d ∈ tables_1, d.before a0 Z = true) (a b : Addr) (h0 : Heap) (n0 : Nat) (X0 : Exa Z h0 a "java/lang/String") (C0 : Fld Z h0 a "java/lang/String" "coder" "B" (.int 0)) (V0 : Fld Z h0 a "java/lang/String" "value" "[B" (.ref b)) (B0 : Ary Z h0 b .byte []) :
    Ct l Z (⟨"java/lang/String", "isEmpty", "()Z"⟩ : MethodName) jdk_42_method_55_code 1 (some .boolean) ({ frames := 0, cells := 0, slots := 0, locals := 0 } : Room) n0 #[(.ref a)] h0 (fun v h' => v = some (.int (1 : Int32)) ∧ h' = h0) := by
  refine Ct.of (plainFor_of_name pn_0) (fun m => ef_ie a m) ?_
  intro W V H r0
  have r316 : W h0 0 0 1 #[.val (.ref a)] [(.ref a)] := (H.aloadN d22_0 r0 rfl rfl)
  have r317 : W h0 0 0 4 #[.val (.ref a)] [(.ref b)] := H.getF' (hw _ (List.mem_of_getElem? (i := 28) rfl)) V0 d22_1 r316
  have r318 : W h0 0 0 5 #[.val (.ref a)] [(.int (0 : Int32))] := H.lenA (z := (0 : Int32)) B0 rfl d22_4 r317
  have r319 : W h0 0 0 8 #[.val (.ref a)] [] := (H.ifNo d22_5 r318 (teq (rfl : (0 : Int32) = 0)).2)
  have r320 : W h0 0 0 13 #[.val (.ref a)] [(.int (1 : Int32))] := (H.goto (pc' := 13) d22_9 (H.iconst (z := (1 : Int32)) d22_8 r319 rfl) (by decide) (by decide))
  exact ⟨_, _, H.retZ rfl rfl (Nat.le_refl _) (Nat.le_refl _) d22_13 r320, rfl, rfl⟩
set_option maxRecDepth 65536 in
set_option maxHeartbeats 40000000 in
theorem sam_ct {l : Launch} {Z : State} {a0 : Array Value} (hw : ∀ d ∈ tables_1, d.before a0 Z = true) (a b : Addr) (vs : List Value) (z c d : Int32) (gc : own_sg c) (gd : own_sg d) (hvs : ((z = 1 ∧ vs = []) ∨ (z = 0 ∧ vs = [.int (c.toInt8.toInt32), .int (d.toInt8.toInt32)]))) (cs : Int32) (hcs : ¬ cs = 0) (S1 : Sta Z Z.heap "java/lang/String" "COMPACT_STRINGS" "Z" (.int cs)) (fm : Value) (hfm : fm.isRef = true) (S2 : Sta Z Z.heap "jdk/internal/util/Preconditions" "SIOOBE_FORMATTER" "Ljava/util/function/BiFunction;" fm) (h0 : Heap) (n0 : Nat) (O0 : Ext Z.heap h0) (X0 : Exa Z h0 a "java/lang/String") (C0 : Fld Z h0 a "java/lang/String" "coder" "B" (.int 0)) (V0 : Fld Z h0 a "java/lang/String" "value" "[B" (.ref b)) (B0 : Ary Z h0 b .byte vs) :
    Ct l Z (⟨"com/example/resolvent/resolvent/FieldResponseKeyPinLaw", "sameAs", "(Ljava/lang/String;ZCC)Z"⟩ : MethodName) method_2_code 4 (some .boolean) ({ frames := 4, cells := 0, slots := 0, locals := 53 } : Room) n0 #[(.ref a), (.int z), (.int c), (.int d)] h0 (fun v h' => v = some (.int (1 : Int32)) ∧ h' = h0) := by
  refine Ct.of (plainFor_of_name pn_10) (fun m => ef_sam a z c d m) ?_
  intro W V H r0
  rcases hvs with ⟨rfl, rfl⟩ | ⟨rfl, rfl⟩
  · have r321 : W h0 0 0 4 #[.val (.ref a), .val (.int (1 : Int32)), .val (.int c), .val (.int d)] [] := (H.ifNo d14_1 (H.iloadN d14_0 r0 rfl) (feq (by decide)).1)
    have r322 : W h0 0 0 5 #[.val (.ref a), .val (.int (1 : Int32)), .val (.int c), .val (.int d)] [(.ref a)] := (H.aloadN d14_4 r321 rfl rfl)
    have r323 : W h0 0 0 8 #[.val (.ref a), .val (.int (1 : Int32)), .val (.int c), .val (.int d)] [(.int (1 : Int32))] := H.callVP (w := 0) (argsL := []) (rest := []) (hw _ (List.mem_of_getElem? (i := 133) rfl)) (hw _ (List.mem_of_getElem? (i := 134) rfl)) (Or.inl ⟨_, _, (hw _ (List.mem_of_getElem? (i := 136) rfl)), rfl⟩) (hw _ (List.mem_of_getElem? (i := 136) rfl)) (hw _ (List.mem_of_getElem? (i := 135) rfl)) (hw _ (List.mem_of_getElem? (i := 3) rfl)) (hw _ (List.mem_of_getElem? (i := 137) rfl)) (by decide) pd_2 (by decide) (by decide) (by decide) (by decide) X0 (ie_ct hw a b h0 n0 X0 C0 V0 B0) rfl rfl (Nat.le_of_eq rfl) rfl d14_5 r322
    exact ⟨_, _, H.retZ rfl rfl (by decide) (by decide) d14_8 r323, rfl, rfl⟩
  · have r324 : W h0 0 0 9 #[.val (.ref a), .val (.int (0 : Int32)), .val (.int c), .val (.int d)] [] := (H.ifYes (pc' := 9) d14_1 (H.iloadN d14_0 r0 rfl) (by decide) (by decide) (teq (rfl : (0 : Int32) = 0)).1)
    have r325 : W h0 0 0 10 #[.val (.ref a), .val (.int (0 : Int32)), .val (.int c), .val (.int d)] [(.ref a)] := (H.aloadN d14_9 r324 rfl rfl)
    have r326 : W h0 0 0 13 #[.val (.ref a), .val (.int (0 : Int32)), .val (.int c), .val (.int d)] [(.int (2 : Int32))] := H.callVP (w := 0) (argsL := []) (rest := []) (hw _ (List.mem_of_getElem? (i := 98) rfl)) (hw _ (List.mem_of_getElem? (i := 99) rfl)) (Or.inl ⟨_, _, (hw _ (List.mem_of_getElem? (i := 101) rfl)), rfl⟩) (hw _ (List.mem_of_getElem? (i := 101) rfl)) (hw _ (List.mem_of_getElem? (i := 100) rfl)) (hw _ (List.mem_of_getElem? (i := 3) rfl)) (hw _ (List.mem_of_getElem? (i := 102) rfl)) (by decide) pd_10 (by decide) (by decide) (by decide) (by decide) X0 (ln_ct hw a b _ _ cs hcs S1 h0 n0 O0 X0 C0 V0 B0) rfl rfl (Nat.le_of_eq rfl) rfl d14_10 r325
    have r327 : W h0 0 0 17 #[.val (.ref a), .val (.int (0 : Int32)), .val (.int c), .val (.int d)] [] := (H.icmpNo d14_14 (H.iconst (z := (2 : Int32)) d14_13 r326 rfl) (teq (rfl : (2 : Int32) = 2)).2)
    have r328 : W h0 0 0 19 #[.val (.ref a), .val (.int (0 : Int32)), .val (.int c), .val (.int d)] [(.int (0 : Int32)), (.ref a)] := (H.iconst (z := (0 : Int32)) d14_18 (H.aloadN d14_17 r327 rfl rfl) rfl)
    have r329 : W h0 0 0 22 #[.val (.ref a), .val (.int (0 : Int32)), .val (.int c), .val (.int d)] [(.int c)] := H.callVP (w := 0) (argsL := [(.int (0 : Int32))]) (rest := []) (hw _ (List.mem_of_getElem? (i := 108) rfl)) (hw _ (List.mem_of_getElem? (i := 109) rfl)) (Or.inl ⟨_, _, (hw _ (List.mem_of_getElem? (i := 111) rfl)), rfl⟩) (hw _ (List.mem_of_getElem? (i := 111) rfl)) (hw _ (List.mem_of_getElem? (i := 110) rfl)) (hw _ (List.mem_of_getElem? (i := 3) rfl)) (hw _ (List.mem_of_getElem? (i := 112) rfl)) (by decide) pd_11 (by decide) (by decide) (by decide) (by decide) X0 (ca_ct hw a b 0 (c.toInt8.toInt32) c (by show 2 < 2147483648; decide) rfl gc.2.1 cs hcs S1 fm hfm S2 h0 n0 O0 X0 C0 V0 B0) rfl rfl (Nat.le_of_eq rfl) rfl d14_19 r328
    have r330 : W h0 0 0 26 #[.val (.ref a), .val (.int (0 : Int32)), .val (.int c), .val (.int d)] [] := (H.icmpNo d14_23 (H.iloadN d14_22 r329 rfl) (teq (rfl : c = c)).2)
    have r331 : W h0 0 0 28 #[.val (.ref a), .val (.int (0 : Int32)), .val (.int c), .val (.int d)] [(.int (1 : Int32)), (.ref a)] := (H.iconst (z := (1 : Int32)) d14_27 (H.aloadN d14_26 r330 rfl rfl) rfl)
    have r332 : W h0 0 0 31 #[.val (.ref a), .val (.int (0 : Int32)), .val (.int c), .val (.int d)] [(.int d)] := H.callVP (w := 0) (argsL := [(.int (1 : Int32))]) (rest := []) (hw _ (List.mem_of_getElem? (i := 108) rfl)) (hw _ (List.mem_of_getElem? (i := 109) rfl)) (Or.inl ⟨_, _, (hw _ (List.mem_of_getElem? (i := 111) rfl)), rfl⟩) (hw _ (List.mem_of_getElem? (i := 111) rfl)) (hw _ (List.mem_of_getElem? (i := 110) rfl)) (hw _ (List.mem_of_getElem? (i := 3) rfl)) (hw _ (List.mem_of_getElem? (i := 112) rfl)) (by decide) pd_11 (by decide) (by decide) (by decide) (by decide) X0 (ca_ct hw a b 1 (d.toInt8.toInt32) d (by show 2 < 2147483648; decide) rfl gd.2.1 cs hcs S1 fm hfm S2 h0 n0 O0 X0 C0 V0 B0) rfl rfl (Nat.le_of_eq rfl) rfl d14_28 r331
    have r333 : W h0 0 0 35 #[.val (.ref a), .val (.int (0 : Int32)), .val (.int c), .val (.int d)] [] := (H.icmpNo d14_32 (H.iloadN d14_31 r332 rfl) (teq (rfl : d = d)).2)
    have r334 : W h0 0 0 40 #[.val (.ref a), .val (.int (0 : Int32)), .val (.int c), .val (.int d)] [(.int (1 : Int32))] := (H.goto (pc' := 40) d14_36 (H.iconst (z := (1 : Int32)) d14_35 r333 rfl) (by decide) (by decide))
    exact ⟨_, _, H.retZ rfl rfl (by decide) (by decide) d14_40 r334, rfl, rfl⟩
set_option maxRecDepth 65536 in
set_option maxHeartbeats 40000000 in
theorem tailN {l : Launch} {Z : State} {a0 : Array Value} (hw : ∀ d ∈ tables_1, d.before a0 Z = true) {n0 : Nat} {W : WTS} {V : VT} (H : WkS l Z x code maxLocals ret room_1 n0 W V) (p0 p1 p2 p3 p4 z6 z7 c8 c9 c10 c11 : Int32) (ca cb nm ba : Addr) (vs : List Value) (g10 : own_sg c10) (g11 : own_sg c11) (hvs : ((z7 = 1 ∧ vs = []) ∨ (z7 = 0 ∧ vs = [.int (c10.toInt8.toInt32), .int (c11.toInt8.toInt32)]))) (cs : Int32) (hcs : ¬ cs = 0) (S1 : Sta Z Z.heap "java/lang/String" "COMPACT_STRINGS" "Z" (.int cs)) (fm : Value) (hfm : fm.isRef = true) (S2 : Sta Z Z.heap "jdk/internal/util/Preconditions" "SIOOBE_FORMATTER" "Ljava/util/function/BiFunction;" fm) (da : Addr) (S3 : Sta Z Z.heap "java/util/ArrayList" "DEFAULTCAPACITY_EMPTY_ELEMENTDATA" "[Ljava/lang/Object;" (.ref da)) (Ts : List String × Option (Nat × Addr)) (h0 : Heap) (Z0 : n0 ≤ h0.size) (O0 : Old Z n0 h0) (X0 : Exa Z h0 nm "java/lang/String") (C0 : Fld Z h0 nm "java/lang/String" "coder" "B" (.int 0)) (V0 : Fld Z h0 nm "java/lang/String" "value" "[B" (.ref ba)) (B0 : Ary Z h0 ba .byte vs)
    (r0 : W Ts h0 8 32 156 #[.val (.int p0), .val (.int p1), .val (.int p2), .val (.int p3), .val (.int p4), .val (.int (0 : Int32)), .val (.int z6), .val (.int z7), .val (.int c8), .val (.int c9), .val (.int c10), .val (.int c11), .val (.ref ca), .val (.ref cb), .val .null, .unset, .unset, .unset] [(.ref nm)]) : ∃ v h', V v h' ∧ v = some (.int 1) := by
  have r335 : W Ts h0 8 32 158 #[.val (.int p0), .val (.int p1), .val (.int p2), .val (.int p3), .val (.int p4), .val (.int (0 : Int32)), .val (.int z6), .val (.int z7), .val (.int c8), .val (.int c9), .val (.int c10), .val (.int c11), .val (.ref ca), .val (.ref cb), .val .null, .val (.ref nm), .unset, .unset] [] := (H.astore at_156 r0 rfl rfl)
  obtain ⟨h336, fo, ea337, E338, X339, D340, U341, r342⟩ := H.newO (hw _ (List.mem_of_getElem? (i := 30) rfl)) (hw _ (List.mem_of_getElem? (i := 31) rfl)) (hw _ (List.mem_of_getElem? (i := 32) rfl)) (by decide) (by decide) at_158 r335
  have ne343 : nm ≠ fo := Nat.ne_of_lt (by rw [ea337]; exact X0.lt)
  have ne344 : ba ≠ fo := Nat.ne_of_lt (by rw [ea337]; exact B0.lt)
  have N345 : n0 ≤ fo := by rw [ea337]; exact Z0
  have Z346 : n0 ≤ h336.size := Nat.le_trans Z0 E338.1
  have G347 : Fld Z h336 fo "com/example/resolvent/resolvent/Ast$Field" "location" "Lcom/example/resolvent/resolvent/SourceLocation;" (.null) := D340 (ty := (.object "com/example/resolvent/resolvent/SourceLocation")) (Or.inr (hw _ (List.mem_of_getElem? (i := 78) rfl))) (by decide +kernel)
  have G348 : Fld Z h336 fo "com/example/resolvent/resolvent/Ast$Field" "alias" "Ljava/lang/String;" (.null) := D340 (ty := (.object "java/lang/String")) (Or.inr (hw _ (List.mem_of_getElem? (i := 80) rfl))) (by decide +kernel)
  have G349 : Fld Z h336 fo "com/example/resolvent/resolvent/Ast$Field" "name" "Ljava/lang/String;" (.null) := D340 (ty := (.object "java/lang/String")) (Or.inr (hw _ (List.mem_of_getElem? (i := 82) rfl))) (by decide +kernel)
  have G350 : Fld Z h336 fo "com/example/resolvent/resolvent/Ast$Field" "arguments" "Ljava/util/List;" (.null) := D340 (ty := (.object "java/util/List")) (Or.inr (hw _ (List.mem_of_getElem? (i := 84) rfl))) (by decide +kernel)
  have G351 : Fld Z h336 fo "com/example/resolvent/resolvent/Ast$Field" "directives" "Ljava/util/List;" (.null) := D340 (ty := (.object "java/util/List")) (Or.inr (hw _ (List.mem_of_getElem? (i := 86) rfl))) (by decide +kernel)
  have G352 : Fld Z h336 fo "com/example/resolvent/resolvent/Ast$Field" "selectionSet" "Ljava/util/List;" (.null) := D340 (ty := (.object "java/util/List")) (Or.inr (hw _ (List.mem_of_getElem? (i := 88) rfl))) (by decide +kernel)
  replace r342 : W Ts h336 9 38 161 #[.val (.int p0), .val (.int p1), .val (.int p2), .val (.int p3), .val (.int p4), .val (.int (0 : Int32)), .val (.int z6), .val (.int z7), .val (.int c8), .val (.int c9), .val (.int c10), .val (.int c11), .val (.ref ca), .val (.ref cb), .val .null, .val (.ref nm), .unset, .unset] [(.ref fo)] := r342
  have r353 : W Ts h336 9 38 162 #[.val (.int p0), .val (.int p1), .val (.int p2), .val (.int p3), .val (.int p4), .val (.int (0 : Int32)), .val (.int z6), .val (.int z7), .val (.int c8), .val (.int c9), .val (.int c10), .val (.int c11), .val (.ref ca), .val (.ref cb), .val .null, .val (.ref nm), .unset, .unset] [(.ref fo), (.ref fo)] := (H.dup at_161 r342 rfl)
  have F354 := Exa.ext E338 X0
  have F355 := Fld.ext E338 C0
  have F356 := Fld.ext E338 V0
  have F357 := B0.ext E338
  obtain ⟨h358, lo, ea359, E360, X361, D362, U363, r364⟩ := H.newO (hw _ (List.mem_of_getElem? (i := 33) rfl)) (hw _ (List.mem_of_getElem? (i := 34) rfl)) (hw _ (List.mem_of_getElem? (i := 35) rfl)) (by decide) (by decide) at_162 r353
  have ne365 : nm ≠ lo := Nat.ne_of_lt (by rw [ea359]; exact F354.lt)
  have ne366 : ba ≠ lo := Nat.ne_of_lt (by rw [ea359]; exact F357.lt)
  have ne367 : fo ≠ lo := Nat.ne_of_lt (by rw [ea359]; exact X339.lt)
  have N368 : n0 ≤ lo := by rw [ea359]; exact Z346
  have Z369 : n0 ≤ h358.size := Nat.le_trans Z346 E360.1
  have G370 : Fld Z h358 lo "com/example/resolvent/resolvent/SourceLocation" "line" "I" (.int 0) := D362 (ty := .int) (Or.inr (hw _ (List.mem_of_getElem? (i := 46) rfl))) (by decide +kernel)
  have G371 : Fld Z h358 lo "com/example/resolvent/resolvent/SourceLocation" "column" "I" (.int 0) := D362 (ty := .int) (Or.inr (hw _ (List.mem_of_getElem? (i := 48) rfl))) (by decide +kernel)
  replace r364 : W Ts h358 10 40 165 #[.val (.int p0), .val (.int p1), .val (.int p2), .val (.int p3), .val (.int p4), .val (.int (0 : Int32)), .val (.int z6), .val (.int z7), .val (.int c8), .val (.int c9), .val (.int c10), .val (.int c11), .val (.ref ca), .val (.ref cb), .val .null, .val (.ref nm), .unset, .unset] [(.ref lo), (.ref fo), (.ref fo)] := r364
  have r372 : W Ts h358 10 40 169 #[.val (.int p0), .val (.int p1), .val (.int p2), .val (.int p3), .val (.int p4), .val (.int (0 : Int32)), .val (.int z6), .val (.int z7), .val (.int c8), .val (.int c9), .val (.int c10), .val (.int c11), .val (.ref ca), .val (.ref cb), .val .null, .val (.ref nm), .unset, .unset] [(.int p4), (.int p3), (.ref lo), (.ref lo), (.ref fo), (.ref fo)] := (H.iload at_167 (H.iloadN at_166 (H.dup at_165 r364 rfl) rfl) rfl)
  obtain ⟨_, hc1, ⟨rfl, K1⟩, r373⟩ := H.callI (w := 3) (argsL := [(.int p3), (.int p4)]) (rest := [(.ref lo), (.ref fo), (.ref fo)]) rfl (hw _ (List.mem_of_getElem? (i := 36) rfl)) (hw _ (List.mem_of_getElem? (i := 37) rfl)) (hw _ (List.mem_of_getElem? (i := 35) rfl)) (hw _ (List.mem_of_getElem? (i := 38) rfl)) (by decide) pd_1 (by decide) (by decide) (by decide) (by decide) (sl_ct hw lo p3 p4 h358 n0 Z369 N368 X361 G370 G371) (fun _ _ q => by first | exact q.2.1.1 | exact q.2.1) rfl rfl (Nat.le_of_eq rfl) rfl at_169 r372
  have Z374 : n0 ≤ hc1.size := Nat.le_trans Z369 K1.1
  replace r373 : W Ts hc1 10 40 172 #[.val (.int p0), .val (.int p1), .val (.int p2), .val (.int p3), .val (.int p4), .val (.int (0 : Int32)), .val (.int z6), .val (.int z7), .val (.int c8), .val (.int c9), .val (.int c10), .val (.int c11), .val (.ref ca), .val (.ref cb), .val .null, .val (.ref nm), .unset, .unset] [(.ref lo), (.ref fo), (.ref fo)] := r373
  have r375 : W Ts hc1 10 40 176 #[.val (.int p0), .val (.int p1), .val (.int p2), .val (.int p3), .val (.int p4), .val (.int (0 : Int32)), .val (.int z6), .val (.int z7), .val (.int c8), .val (.int c9), .val (.int c10), .val (.int c11), .val (.ref ca), .val (.ref cb), .val .null, .val (.ref nm), .unset, .unset] [(.ref nm), .null, (.ref lo), (.ref fo), (.ref fo)] := (H.aload at_174 (H.aload at_172 r373 rfl rfl) rfl rfl)
  have F376 := Exa.ext E360 F354
  have F377 := F376.keep K1
  have F378 := Fld.ext E360 F355
  have F379 := F378.keep K1 (ninS ne365 nin0)
  have F380 := Fld.ext E360 F356
  have F381 := F380.keep K1 (ninS ne365 nin0)
  have F382 := F357.ext E360
  have F383 := F382.keep K1 (ninS ne366 nin0)
  have F384 := Exa.ext E360 X339
  have F385 := F384.keep K1
  have F386 := Fld.ext E360 G347
  have F387 := F386.keep K1 (ninS ne367 nin0)
  have F388 := Fld.ext E360 G348
  have F389 := F388.keep K1 (ninS ne367 nin0)
  have F390 := Fld.ext E360 G349
  have F391 := F390.keep K1 (ninS ne367 nin0)
  have F392 := Fld.ext E360 G350
  have F393 := F392.keep K1 (ninS ne367 nin0)
  have F394 := Fld.ext E360 G351
  have F395 := F394.keep K1 (ninS ne367 nin0)
  have F396 := Fld.ext E360 G352
  have F397 := F396.keep K1 (ninS ne367 nin0)
  obtain ⟨h398, l1, ea399, E400, X401, D402, U403, r404⟩ := H.newO (hw _ (List.mem_of_getElem? (i := 49) rfl)) (hw _ (List.mem_of_getElem? (i := 50) rfl)) (hw _ (List.mem_of_getElem? (i := 51) rfl)) (by decide) (by decide) at_176 r375
  have ne405 : nm ≠ l1 := Nat.ne_of_lt (by rw [ea399]; exact F377.lt)
  have ne406 : ba ≠ l1 := Nat.ne_of_lt (by rw [ea399]; exact F383.lt)
  have ne407 : fo ≠ l1 := Nat.ne_of_lt (by rw [ea399]; exact F385.lt)
  have N408 : n0 ≤ l1 := by rw [ea399]; exact Z374
  have Z409 : n0 ≤ h398.size := Nat.le_trans Z374 E400.1
  have G410 : Fld Z h398 l1 "java/util/AbstractList" "modCount" "I" (.int 0) := D402 (ty := .int) (Or.inl (hw _ (List.mem_of_getElem? (i := 69) rfl))) (by decide +kernel)
  have G411 : Fld Z h398 l1 "java/util/ArrayList" "elementData" "[Ljava/lang/Object;" (.null) := D402 (ty := (.array (.object "java/lang/Object"))) (Or.inl (hw _ (List.mem_of_getElem? (i := 72) rfl))) (by decide +kernel)
  replace r404 : W Ts h398 11 43 179 #[.val (.int p0), .val (.int p1), .val (.int p2), .val (.int p3), .val (.int p4), .val (.int (0 : Int32)), .val (.int z6), .val (.int z7), .val (.int c8), .val (.int c9), .val (.int c10), .val (.int c11), .val (.ref ca), .val (.ref cb), .val .null, .val (.ref nm), .unset, .unset] [(.ref l1), (.ref nm), .null, (.ref lo), (.ref fo), (.ref fo)] := r404
  have F412 := O0.ext E338
  have F413 := F412.ext E360
  have F414 := F413.keep K1 (allS N368 all0)
  have F415 := F414.ext E400
  have r416 : W Ts h398 11 43 180 #[.val (.int p0), .val (.int p1), .val (.int p2), .val (.int p3), .val (.int p4), .val (.int (0 : Int32)), .val (.int z6), .val (.int z7), .val (.int c8), .val (.int c9), .val (.int c10), .val (.int c11), .val (.ref ca), .val (.ref cb), .val .null, .val (.ref nm), .unset, .unset] [(.ref l1), (.ref l1), (.ref nm), .null, (.ref lo), (.ref fo), (.ref fo)] := (H.dup at_179 r404 rfl)
  obtain ⟨_, hc2, ⟨rfl, K2⟩, r417⟩ := H.callI (w := 6) (argsL := []) (rest := [(.ref l1), (.ref nm), .null, (.ref lo), (.ref fo), (.ref fo)]) rfl (hw _ (List.mem_of_getElem? (i := 52) rfl)) (hw _ (List.mem_of_getElem? (i := 53) rfl)) (hw _ (List.mem_of_getElem? (i := 51) rfl)) (hw _ (List.mem_of_getElem? (i := 54) rfl)) (by decide) pd_8 (by decide) (by decide) (by decide) (by decide) (al_ct hw l1 da S3 h398 n0 Z409 N408 X401 G410 G411 F415) (fun _ _ q => by first | exact q.2.1.1 | exact q.2.1) rfl rfl (Nat.le_of_eq rfl) rfl at_180 r416
  have Z418 : n0 ≤ hc2.size := Nat.le_trans Z409 K2.1
  replace r417 : W Ts hc2 11 43 183 #[.val (.int p0), .val (.int p1), .val (.int p2), .val (.int p3), .val (.int p4), .val (.int (0 : Int32)), .val (.int z6), .val (.int z7), .val (.int c8), .val (.int c9), .val (.int c10), .val (.int c11), .val (.ref ca), .val (.ref cb), .val .null, .val (.ref nm), .unset, .unset] [(.ref l1), (.ref nm), .null, (.ref lo), (.ref fo), (.ref fo)] := r417
  have F419 := Exa.ext E400 F377
  have F420 := F419.keep K2
  have F421 := Fld.ext E400 F379
  have F422 := F421.keep K2 (ninS ne405 nin0)
  have F423 := Fld.ext E400 F381
  have F424 := F423.keep K2 (ninS ne405 nin0)
  have F425 := F383.ext E400
  have F426 := F425.keep K2 (ninS ne406 nin0)
  have F427 := Exa.ext E400 F385
  have F428 := F427.keep K2
  have F429 := Fld.ext E400 F387
  have F430 := F429.keep K2 (ninS ne407 nin0)
  have F431 := Fld.ext E400 F389
  have F432 := F431.keep K2 (ninS ne407 nin0)
  have F433 := Fld.ext E400 F391
  have F434 := F433.keep K2 (ninS ne407 nin0)
  have F435 := Fld.ext E400 F393
  have F436 := F435.keep K2 (ninS ne407 nin0)
  have F437 := Fld.ext E400 F395
  have F438 := F437.keep K2 (ninS ne407 nin0)
  have F439 := Fld.ext E400 F397
  have F440 := F439.keep K2 (ninS ne407 nin0)
  obtain ⟨h441, l2, ea442, E443, X444, D445, U446, r447⟩ := H.newO (hw _ (List.mem_of_getElem? (i := 49) rfl)) (hw _ (List.mem_of_getElem? (i := 50) rfl)) (hw _ (List.mem_of_getElem? (i := 51) rfl)) (by decide) (by decide) at_183 r417
  have ne448 : nm ≠ l2 := Nat.ne_of_lt (by rw [ea442]; exact F420.lt)
  have ne449 : ba ≠ l2 := Nat.ne_of_lt (by rw [ea442]; exact F426.lt)
  have ne450 : fo ≠ l2 := Nat.ne_of_lt (by rw [ea442]; exact F428.lt)
  have N451 : n0 ≤ l2 := by rw [ea442]; exact Z418
  have Z452 : n0 ≤ h441.size := Nat.le_trans Z418 E443.1
  have G453 : Fld Z h441 l2 "java/util/AbstractList" "modCount" "I" (.int 0) := D445 (ty := .int) (Or.inl (hw _ (List.mem_of_getElem? (i := 69) rfl))) (by decide +kernel)
  have G454 : Fld Z h441 l2 "java/util/ArrayList" "elementData" "[Ljava/lang/Object;" (.null) := D445 (ty := (.array (.object "java/lang/Object"))) (Or.inl (hw _ (List.mem_of_getElem? (i := 72) rfl))) (by decide +kernel)
  replace r447 : W Ts h441 12 46 186 #[.val (.int p0), .val (.int p1), .val (.int p2), .val (.int p3), .val (.int p4), .val (.int (0 : Int32)), .val (.int z6), .val (.int z7), .val (.int c8), .val (.int c9), .val (.int c10), .val (.int c11), .val (.ref ca), .val (.ref cb), .val .null, .val (.ref nm), .unset, .unset] [(.ref l2), (.ref l1), (.ref nm), .null, (.ref lo), (.ref fo), (.ref fo)] := r447
  have F455 := F415.keep K2 (allS N408 all0)
  have F456 := F455.ext E443
  have r457 : W Ts h441 12 46 187 #[.val (.int p0), .val (.int p1), .val (.int p2), .val (.int p3), .val (.int p4), .val (.int (0 : Int32)), .val (.int z6), .val (.int z7), .val (.int c8), .val (.int c9), .val (.int c10), .val (.int c11), .val (.ref ca), .val (.ref cb), .val .null, .val (.ref nm), .unset, .unset] [(.ref l2), (.ref l2), (.ref l1), (.ref nm), .null, (.ref lo), (.ref fo), (.ref fo)] := (H.dup at_186 r447 rfl)
  obtain ⟨_, hc3, ⟨rfl, K3⟩, r458⟩ := H.callI (w := 7) (argsL := []) (rest := [(.ref l2), (.ref l1), (.ref nm), .null, (.ref lo), (.ref fo), (.ref fo)]) rfl (hw _ (List.mem_of_getElem? (i := 52) rfl)) (hw _ (List.mem_of_getElem? (i := 53) rfl)) (hw _ (List.mem_of_getElem? (i := 51) rfl)) (hw _ (List.mem_of_getElem? (i := 54) rfl)) (by decide) pd_8 (by decide) (by decide) (by decide) (by decide) (al_ct hw l2 da S3 h441 n0 Z452 N451 X444 G453 G454 F456) (fun _ _ q => by first | exact q.2.1.1 | exact q.2.1) rfl rfl (Nat.le_of_eq rfl) rfl at_187 r457
  have Z459 : n0 ≤ hc3.size := Nat.le_trans Z452 K3.1
  replace r458 : W Ts hc3 12 46 190 #[.val (.int p0), .val (.int p1), .val (.int p2), .val (.int p3), .val (.int p4), .val (.int (0 : Int32)), .val (.int z6), .val (.int z7), .val (.int c8), .val (.int c9), .val (.int c10), .val (.int c11), .val (.ref ca), .val (.ref cb), .val .null, .val (.ref nm), .unset, .unset] [(.ref l2), (.ref l1), (.ref nm), .null, (.ref lo), (.ref fo), (.ref fo)] := r458
  have F460 := Exa.ext E443 F420
  have F461 := F460.keep K3
  have F462 := Fld.ext E443 F422
  have F463 := F462.keep K3 (ninS ne448 nin0)
  have F464 := Fld.ext E443 F424
  have F465 := F464.keep K3 (ninS ne448 nin0)
  have F466 := F426.ext E443
  have F467 := F466.keep K3 (ninS ne449 nin0)
  have F468 := Exa.ext E443 F428
  have F469 := F468.keep K3
  have F470 := Fld.ext E443 F430
  have F471 := F470.keep K3 (ninS ne450 nin0)
  have F472 := Fld.ext E443 F432
  have F473 := F472.keep K3 (ninS ne450 nin0)
  have F474 := Fld.ext E443 F434
  have F475 := F474.keep K3 (ninS ne450 nin0)
  have F476 := Fld.ext E443 F436
  have F477 := F476.keep K3 (ninS ne450 nin0)
  have F478 := Fld.ext E443 F438
  have F479 := F478.keep K3 (ninS ne450 nin0)
  have F480 := Fld.ext E443 F440
  have F481 := F480.keep K3 (ninS ne450 nin0)
  obtain ⟨h482, l3, ea483, E484, X485, D486, U487, r488⟩ := H.newO (hw _ (List.mem_of_getElem? (i := 49) rfl)) (hw _ (List.mem_of_getElem? (i := 50) rfl)) (hw _ (List.mem_of_getElem? (i := 51) rfl)) (by decide) (by decide) at_190 r458
  have ne489 : nm ≠ l3 := Nat.ne_of_lt (by rw [ea483]; exact F461.lt)
  have ne490 : ba ≠ l3 := Nat.ne_of_lt (by rw [ea483]; exact F467.lt)
  have ne491 : fo ≠ l3 := Nat.ne_of_lt (by rw [ea483]; exact F469.lt)
  have N492 : n0 ≤ l3 := by rw [ea483]; exact Z459
  have Z493 : n0 ≤ h482.size := Nat.le_trans Z459 E484.1
  have G494 : Fld Z h482 l3 "java/util/AbstractList" "modCount" "I" (.int 0) := D486 (ty := .int) (Or.inl (hw _ (List.mem_of_getElem? (i := 69) rfl))) (by decide +kernel)
  have G495 : Fld Z h482 l3 "java/util/ArrayList" "elementData" "[Ljava/lang/Object;" (.null) := D486 (ty := (.array (.object "java/lang/Object"))) (Or.inl (hw _ (List.mem_of_getElem? (i := 72) rfl))) (by decide +kernel)
  replace r488 : W Ts h482 13 49 193 #[.val (.int p0), .val (.int p1), .val (.int p2), .val (.int p3), .val (.int p4), .val (.int (0 : Int32)), .val (.int z6), .val (.int z7), .val (.int c8), .val (.int c9), .val (.int c10), .val (.int c11), .val (.ref ca), .val (.ref cb), .val .null, .val (.ref nm), .unset, .unset] [(.ref l3), (.ref l2), (.ref l1), (.ref nm), .null, (.ref lo), (.ref fo), (.ref fo)] := r488
  have F496 := F456.keep K3 (allS N451 all0)
  have F497 := F496.ext E484
  have r498 : W Ts h482 13 49 194 #[.val (.int p0), .val (.int p1), .val (.int p2), .val (.int p3), .val (.int p4), .val (.int (0 : Int32)), .val (.int z6), .val (.int z7), .val (.int c8), .val (.int c9), .val (.int c10), .val (.int c11), .val (.ref ca), .val (.ref cb), .val .null, .val (.ref nm), .unset, .unset] [(.ref l3), (.ref l3), (.ref l2), (.ref l1), (.ref nm), .null, (.ref lo), (.ref fo), (.ref fo)] := (H.dup at_193 r488 rfl)
  obtain ⟨_, hc4, ⟨rfl, K4⟩, r499⟩ := H.callI (w := 8) (argsL := []) (rest := [(.ref l3), (.ref l2), (.ref l1), (.ref nm), .null, (.ref lo), (.ref fo), (.ref fo)]) rfl (hw _ (List.mem_of_getElem? (i := 52) rfl)) (hw _ (List.mem_of_getElem? (i := 53) rfl)) (hw _ (List.mem_of_getElem? (i := 51) rfl)) (hw _ (List.mem_of_getElem? (i := 54) rfl)) (by decide) pd_8 (by decide) (by decide) (by decide) (by decide) (al_ct hw l3 da S3 h482 n0 Z493 N492 X485 G494 G495 F497) (fun _ _ q => by first | exact q.2.1.1 | exact q.2.1) rfl rfl (Nat.le_of_eq rfl) rfl at_194 r498
  have Z500 : n0 ≤ hc4.size := Nat.le_trans Z493 K4.1
  replace r499 : W Ts hc4 13 49 197 #[.val (.int p0), .val (.int p1), .val (.int p2), .val (.int p3), .val (.int p4), .val (.int (0 : Int32)), .val (.int z6), .val (.int z7), .val (.int c8), .val (.int c9), .val (.int c10), .val (.int c11), .val (.ref ca), .val (.ref cb), .val .null, .val (.ref nm), .unset, .unset] [(.ref l3), (.ref l2), (.ref l1), (.ref nm), .null, (.ref lo), (.ref fo), (.ref fo)] := r499
  have F501 := Fld.ext E484 F471
  have F502 := F501.keep K4 (ninS ne491 nin0)
  have F503 := Fld.ext E484 F473
  have F504 := F503.keep K4 (ninS ne491 nin0)
  have F505 := Fld.ext E484 F475
  have F506 := F505.keep K4 (ninS ne491 nin0)
  have F507 := Fld.ext E484 F477
  have F508 := F507.keep K4 (ninS ne491 nin0)
  have F509 := Fld.ext E484 F479
  have F510 := F509.keep K4 (ninS ne491 nin0)
  have F511 := Fld.ext E484 F481
  have F512 := F511.keep K4 (ninS ne491 nin0)
  have F513 := Exa.ext E484 F469
  have F514 := F513.keep K4
  obtain ⟨_, hc5, ⟨rfl, K5, XF, GA, GN⟩, r515⟩ := H.callI (w := 1) (argsL := [(.ref lo), .null, (.ref nm), (.ref l1), (.ref l2), (.ref l3)]) (rest := [(.ref fo)]) rfl (hw _ (List.mem_of_getElem? (i := 73) rfl)) (hw _ (List.mem_of_getElem? (i := 74) rfl)) (hw _ (List.mem_of_getElem? (i := 32) rfl)) (hw _ (List.mem_of_getElem? (i := 75) rfl)) (by decide) pd_12 (by decide) (by decide) (by decide) (by decide) (fiN_ct hw fo lo nm l1 l2 l3 hc4 n0 Z500 N345 F514 F502 F504 F506 F508 F510 F512) (fun _ _ q => by first | exact q.2.1.1 | exact q.2.1) rfl rfl (Nat.le_of_eq rfl) rfl at_197 r499
  have Z516 : n0 ≤ hc5.size := Nat.le_trans Z500 K5.1
  replace r515 : W Ts hc5 13 49 200 #[.val (.int p0), .val (.int p1), .val (.int p2), .val (.int p3), .val (.int p4), .val (.int (0 : Int32)), .val (.int z6), .val (.int z7), .val (.int c8), .val (.int c9), .val (.int c10), .val (.int c11), .val (.ref ca), .val (.ref cb), .val .null, .val (.ref nm), .unset, .unset] [(.ref fo)] := r515
  have r517 : W Ts hc5 13 49 202 #[.val (.int p0), .val (.int p1), .val (.int p2), .val (.int p3), .val (.int p4), .val (.int (0 : Int32)), .val (.int z6), .val (.int z7), .val (.int c8), .val (.int c9), .val (.int c10), .val (.int c11), .val (.ref ca), .val (.ref cb), .val .null, .val (.ref nm), .val (.ref fo), .unset] [] := (H.astore at_200 r515 rfl rfl)
  have r518 : W Ts hc5 13 49 204 #[.val (.int p0), .val (.int p1), .val (.int p2), .val (.int p3), .val (.int p4), .val (.int (0 : Int32)), .val (.int z6), .val (.int z7), .val (.int c8), .val (.int c9), .val (.int c10), .val (.int c11), .val (.ref ca), .val (.ref cb), .val .null, .val (.ref nm), .val (.ref fo), .unset] [(.ref fo)] := (H.aload at_202 r517 rfl rfl)
  have r519 : W Ts hc5 13 49 207 #[.val (.int p0), .val (.int p1), .val (.int p2), .val (.int p3), .val (.int p4), .val (.int (0 : Int32)), .val (.int z6), .val (.int z7), .val (.int c8), .val (.int c9), .val (.int c10), .val (.int c11), .val (.ref ca), .val (.ref cb), .val .null, .val (.ref nm), .val (.ref fo), .unset] [(.ref nm)] := H.callVP (w := 0) (argsL := []) (rest := []) (hw _ (List.mem_of_getElem? (i := 89) rfl)) (hw _ (List.mem_of_getElem? (i := 90) rfl)) (Or.inl ⟨_, _, (hw _ (List.mem_of_getElem? (i := 92) rfl)), rfl⟩) (hw _ (List.mem_of_getElem? (i := 92) rfl)) (hw _ (List.mem_of_getElem? (i := 91) rfl)) (hw _ (List.mem_of_getElem? (i := 32) rfl)) (hw _ (List.mem_of_getElem? (i := 93) rfl)) (by decide) pd_13 (by decide) (by decide) (by decide) (by decide) XF (rkN_ct hw fo nm hc5 n0 GA GN) rfl rfl (Nat.le_of_eq rfl) rfl at_204 r518
  have r520 : W Ts hc5 13 49 209 #[.val (.int p0), .val (.int p1), .val (.int p2), .val (.int p3), .val (.int p4), .val (.int (0 : Int32)), .val (.int z6), .val (.int z7), .val (.int c8), .val (.int c9), .val (.int c10), .val (.int c11), .val (.ref ca), .val (.ref cb), .val .null, .val (.ref nm), .val (.ref fo), .val (.ref nm)] [] := (H.astore at_207 r519 rfl rfl)
  have r521 : W Ts hc5 13 49 211 #[.val (.int p0), .val (.int p1), .val (.int p2), .val (.int p3), .val (.int p4), .val (.int (0 : Int32)), .val (.int z6), .val (.int z7), .val (.int c8), .val (.int c9), .val (.int c10), .val (.int c11), .val (.ref ca), .val (.ref cb), .val .null, .val (.ref nm), .val (.ref fo), .val (.ref nm)] [(.ref nm)] := (H.aload at_209 r520 rfl rfl)
  have r522 : W Ts hc5 13 49 216 #[.val (.int p0), .val (.int p1), .val (.int p2), .val (.int p3), .val (.int p4), .val (.int (0 : Int32)), .val (.int z6), .val (.int z7), .val (.int c8), .val (.int c9), .val (.int c10), .val (.int c11), .val (.ref ca), .val (.ref cb), .val .null, .val (.ref nm), .val (.ref fo), .val (.ref nm)] [] := (H.ifnonnullYes (pc' := 216) at_211 r521 (by decide) (by decide))
  have r523 : W Ts hc5 13 49 233 #[.val (.int p0), .val (.int p1), .val (.int p2), .val (.int p3), .val (.int p4), .val (.int (0 : Int32)), .val (.int z6), .val (.int z7), .val (.int c8), .val (.int c9), .val (.int c10), .val (.int c11), .val (.ref ca), .val (.ref cb), .val .null, .val (.ref nm), .val (.ref fo), .val (.ref nm)] [] := (H.ifYes (pc' := 233) at_218 (H.iload at_216 r522 rfl) (by decide) (by decide) (teq (rfl : (0 : Int32) = 0)).1)
  have F524 := F497.keep K4 (allS N492 all0)
  have F525 := F524.keep K5 (allS N345 all0)
  have F526 := Exa.ext E484 F461
  have F527 := F526.keep K4
  have F528 := F527.keep K5
  have F529 := Fld.ext E484 F463
  have F530 := F529.keep K4 (ninS ne489 nin0)
  have F531 := F530.keep K5 (ninS ne343 nin0)
  have F532 := Fld.ext E484 F465
  have F533 := F532.keep K4 (ninS ne489 nin0)
  have F534 := F533.keep K5 (ninS ne343 nin0)
  have F535 := F467.ext E484
  have F536 := F535.keep K4 (ninS ne490 nin0)
  have F537 := F536.keep K5 (ninS ne344 nin0)
  have r538 : W Ts hc5 13 49 241 #[.val (.int p0), .val (.int p1), .val (.int p2), .val (.int p3), .val (.int p4), .val (.int (0 : Int32)), .val (.int z6), .val (.int z7), .val (.int c8), .val (.int c9), .val (.int c10), .val (.int c11), .val (.ref ca), .val (.ref cb), .val .null, .val (.ref nm), .val (.ref fo), .val (.ref nm)] [(.int c11), (.int c10), (.int z7), (.ref nm)] := (H.iload at_239 (H.iload at_237 (H.iload at_235 (H.aload at_233 r523 rfl rfl) rfl) rfl) rfl)
  have r539 : W Ts hc5 13 49 244 #[.val (.int p0), .val (.int p1), .val (.int p2), .val (.int p3), .val (.int p4), .val (.int (0 : Int32)), .val (.int z6), .val (.int z7), .val (.int c8), .val (.int c9), .val (.int c10), .val (.int c11), .val (.ref ca), .val (.ref cb), .val .null, .val (.ref nm), .val (.ref fo), .val (.ref nm)] [(.int (1 : Int32))] := H.callSP (w := 0) (argsL := [(.ref nm), (.int z7), (.int c10), (.int c11)]) (rest := []) (hw _ (List.mem_of_getElem? (i := 94) rfl)) (hw _ (List.mem_of_getElem? (i := 95) rfl)) (hw _ (List.mem_of_getElem? (i := 96) rfl)) (hw _ (List.mem_of_getElem? (i := 97) rfl)) (by decide) pd_14 (by decide) (by decide) (by decide) (by decide) (sam_ct hw nm ba vs z7 c10 c11 g10 g11 hvs cs hcs S1 fm hfm S2 hc5 n0 F525.2 F528 F531 F534 F537) rfl rfl (Nat.le_of_eq rfl) rfl at_241 r538
  exact ⟨_, _, H.retZ rfl rfl (by decide) (by decide) at_244 r539, rfl⟩
set_option maxRecDepth 65536 in
set_option maxHeartbeats 40000000 in
theorem tailA {l : Launch} {Z : State} {a0 : Array Value} (hw : ∀ d ∈ tables_1, d.before a0 Z = true) {n0 : Nat} {W : WTS} {V : VT} (H : WkS l Z x code maxLocals ret room_1 n0 W V) (p0 p1 p2 p3 p4 z6 z7 c8 c9 c10 c11 : Int32) (ca cb sa nm ba : Addr) (vs : List Value) (g8 : own_sg c8) (g9 : own_sg c9) (hvs : ((z6 = 1 ∧ vs = []) ∨ (z6 = 0 ∧ vs = [.int (c8.toInt8.toInt32), .int (c9.toInt8.toInt32)]))) (cs : Int32) (hcs : ¬ cs = 0) (S1 : Sta Z Z.heap "java/lang/String" "COMPACT_STRINGS" "Z" (.int cs)) (fm : Value) (hfm : fm.isRef = true) (S2 : Sta Z Z.heap "jdk/internal/util/Preconditions" "SIOOBE_FORMATTER" "Ljava/util/function/BiFunction;" fm) (da : Addr) (S3 : Sta Z Z.heap "java/util/ArrayList" "DEFAULTCAPACITY_EMPTY_ELEMENTDATA" "[Ljava/lang/Object;" (.ref da)) (Ts : List String × Option (Nat × Addr)) (h0 : Heap) (Z0 : n0 ≤ h0.size) (O0 : Old Z n0 h0) (X0 : Exa Z h0 sa "java/lang/String") (C0 : Fld Z h0 sa "java/lang/String" "coder" "B" (.int 0)) (V0 : Fld Z h0 sa "java/lang/String" "value" "[B" (.ref ba)) (B0 : Ary Z h0 ba .byte vs)
    (r0 : W Ts h0 8 32 156 #[.val (.int p0), .val (.int p1), .val (.int p2), .val (.int p3), .val (.int p4), .val (.int (1 : Int32)), .val (.int z6), .val (.int z7), .val (.int c8), .val (.int c9), .val (.int c10), .val (.int c11), .val (.ref ca), .val (.ref cb), .val (.ref sa), .unset, .unset, .unset] [(.ref nm)]) : ∃ v h', V v h' ∧ v = some (.int 1) := by
  have r540 : W Ts h0 8 32 158 #[.val (.int p0), .val (.int p1), .val (.int p2), .val (.int p3), .val (.int p4), .val (.int (1 : Int32)), .val (.int z6), .val (.int z7), .val (.int c8), .val (.int c9), .val (.int c10), .val (.int c11), .val (.ref ca), .val (.ref cb), .val (.ref sa), .val (.ref nm), .unset, .unset] [] := (H.astore at_156 r0 rfl rfl)
  obtain ⟨h541, fo, ea542, E543, X544, D545, U546, r547⟩ := H.newO (hw _ (List.mem_of_getElem? (i := 30) rfl)) (hw _ (List.mem_of_getElem? (i := 31) rfl)) (hw _ (List.mem_of_getElem? (i := 32) rfl)) (by decide) (by decide) at_158 r540
  have ne548 : sa ≠ fo := Nat.ne_of_lt (by rw [ea542]; exact X0.lt)
  have ne549 : ba ≠ fo := Nat.ne_of_lt (by rw [ea542]; exact B0.lt)
  have N550 : n0 ≤ fo := by rw [ea542]; exact Z0
  have Z551 : n0 ≤ h541.size := Nat.le_trans Z0 E543.1
  have G552 : Fld Z h541 fo "com/example/resolvent/resolvent/Ast$Field" "location" "Lcom/example/resolvent/resolvent/SourceLocation;" (.null) := D545 (ty := (.object "com/example/resolvent/resolvent/SourceLocation")) (Or.inr (hw _ (List.mem_of_getElem? (i := 78) rfl))) (by decide +kernel)
  have G553 : Fld Z h541 fo "com/example/resolvent/resolvent/Ast$Field" "alias" "Ljava/lang/String;" (.null) := D545 (ty := (.object "java/lang/String")) (Or.inr (hw _ (List.mem_of_getElem? (i := 80) rfl))) (by decide +kernel)
  have G554 : Fld Z h541 fo "com/example/resolvent/resolvent/Ast$Field" "name" "Ljava/lang/String;" (.null) := D545 (ty := (.object "java/lang/String")) (Or.inr (hw _ (List.mem_of_getElem? (i := 82) rfl))) (by decide +kernel)
  have G555 : Fld Z h541 fo "com/example/resolvent/resolvent/Ast$Field" "arguments" "Ljava/util/List;" (.null) := D545 (ty := (.object "java/util/List")) (Or.inr (hw _ (List.mem_of_getElem? (i := 84) rfl))) (by decide +kernel)
  have G556 : Fld Z h541 fo "com/example/resolvent/resolvent/Ast$Field" "directives" "Ljava/util/List;" (.null) := D545 (ty := (.object "java/util/List")) (Or.inr (hw _ (List.mem_of_getElem? (i := 86) rfl))) (by decide +kernel)
  have G557 : Fld Z h541 fo "com/example/resolvent/resolvent/Ast$Field" "selectionSet" "Ljava/util/List;" (.null) := D545 (ty := (.object "java/util/List")) (Or.inr (hw _ (List.mem_of_getElem? (i := 88) rfl))) (by decide +kernel)
  replace r547 : W Ts h541 9 38 161 #[.val (.int p0), .val (.int p1), .val (.int p2), .val (.int p3), .val (.int p4), .val (.int (1 : Int32)), .val (.int z6), .val (.int z7), .val (.int c8), .val (.int c9), .val (.int c10), .val (.int c11), .val (.ref ca), .val (.ref cb), .val (.ref sa), .val (.ref nm), .unset, .unset] [(.ref fo)] := r547
  have r558 : W Ts h541 9 38 162 #[.val (.int p0), .val (.int p1), .val (.int p2), .val (.int p3), .val (.int p4), .val (.int (1 : Int32)), .val (.int z6), .val (.int z7), .val (.int c8), .val (.int c9), .val (.int c10), .val (.int c11), .val (.ref ca), .val (.ref cb), .val (.ref sa), .val (.ref nm), .unset, .unset] [(.ref fo), (.ref fo)] := (H.dup at_161 r547 rfl)
  have F559 := Exa.ext E543 X0
  have F560 := Fld.ext E543 C0
  have F561 := Fld.ext E543 V0
  have F562 := B0.ext E543
  obtain ⟨h563, lo, ea564, E565, X566, D567, U568, r569⟩ := H.newO (hw _ (List.mem_of_getElem? (i := 33) rfl)) (hw _ (List.mem_of_getElem? (i := 34) rfl)) (hw _ (List.mem_of_getElem? (i := 35) rfl)) (by decide) (by decide) at_162 r558
  have ne570 : sa ≠ lo := Nat.ne_of_lt (by rw [ea564]; exact F559.lt)
  have ne571 : ba ≠ lo := Nat.ne_of_lt (by rw [ea564]; exact F562.lt)
  have ne572 : fo ≠ lo := Nat.ne_of_lt (by rw [ea564]; exact X544.lt)
  have N573 : n0 ≤ lo := by rw [ea564]; exact Z551
  have Z574 : n0 ≤ h563.size := Nat.le_trans Z551 E565.1
  have G575 : Fld Z h563 lo "com/example/resolvent/resolvent/SourceLocation" "line" "I" (.int 0) := D567 (ty := .int) (Or.inr (hw _ (List.mem_of_getElem? (i := 46) rfl))) (by decide +kernel)
  have G576 : Fld Z h563 lo "com/example/resolvent/resolvent/SourceLocation" "column" "I" (.int 0) := D567 (ty := .int) (Or.inr (hw _ (List.mem_of_getElem? (i := 48) rfl))) (by decide +kernel)
  replace r569 : W Ts h563 10 40 165 #[.val (.int p0), .val (.int p1), .val (.int p2), .val (.int p3), .val (.int p4), .val (.int (1 : Int32)), .val (.int z6), .val (.int z7), .val (.int c8), .val (.int c9), .val (.int c10), .val (.int c11), .val (.ref ca), .val (.ref cb), .val (.ref sa), .val (.ref nm), .unset, .unset] [(.ref lo), (.ref fo), (.ref fo)] := r569
  have r577 : W Ts h563 10 40 169 #[.val (.int p0), .val (.int p1), .val (.int p2), .val (.int p3), .val (.int p4), .val (.int (1 : Int32)), .val (.int z6), .val (.int z7), .val (.int c8), .val (.int c9), .val (.int c10), .val (.int c11), .val (.ref ca), .val (.ref cb), .val (.ref sa), .val (.ref nm), .unset, .unset] [(.int p4), (.int p3), (.ref lo), (.ref lo), (.ref fo), (.ref fo)] := (H.iload at_167 (H.iloadN at_166 (H.dup at_165 r569 rfl) rfl) rfl)
  obtain ⟨_, hc1, ⟨rfl, K1⟩, r578⟩ := H.callI (w := 3) (argsL := [(.int p3), (.int p4)]) (rest := [(.ref lo), (.ref fo), (.ref fo)]) rfl (hw _ (List.mem_of_getElem? (i := 36) rfl)) (hw _ (List.mem_of_getElem? (i := 37) rfl)) (hw _ (List.mem_of_getElem? (i := 35) rfl)) (hw _ (List.mem_of_getElem? (i := 38) rfl)) (by decide) pd_1 (by decide) (by decide) (by decide) (by decide) (sl_ct hw lo p3 p4 h563 n0 Z574 N573 X566 G575 G576) (fun _ _ q => by first | exact q.2.1.1 | exact q.2.1) rfl rfl (Nat.le_of_eq rfl) rfl at_169 r577
  have Z579 : n0 ≤ hc1.size := Nat.le_trans Z574 K1.1
  replace r578 : W Ts hc1 10 40 172 #[.val (.int p0), .val (.int p1), .val (.int p2), .val (.int p3), .val (.int p4), .val (.int (1 : Int32)), .val (.int z6), .val (.int z7), .val (.int c8), .val (.int c9), .val (.int c10), .val (.int c11), .val (.ref ca), .val (.ref cb), .val (.ref sa), .val (.ref nm), .unset, .unset] [(.ref lo), (.ref fo), (.ref fo)] := r578
  have r580 : W Ts hc1 10 40 176 #[.val (.int p0), .val (.int p1), .val (.int p2), .val (.int p3), .val (.int p4), .val (.int (1 : Int32)), .val (.int z6), .val (.int z7), .val (.int c8), .val (.int c9), .val (.int c10), .val (.int c11), .val (.ref ca), .val (.ref cb), .val (.ref sa), .val (.ref nm), .unset, .unset] [(.ref nm), (.ref sa), (.ref lo), (.ref fo), (.ref fo)] := (H.aload at_174 (H.aload at_172 r578 rfl rfl) rfl rfl)
  have F581 := Exa.ext E565 F559
  have F582 := F581.keep K1
  have F583 := Fld.ext E565 F560
  have F584 := F583.keep K1 (ninS ne570 nin0)
  have F585 := Fld.ext E565 F561
  have F586 := F585.keep K1 (ninS ne570 nin0)
  have F587 := F562.ext E565
  have F588 := F587.keep K1 (ninS ne571 nin0)
  have F589 := Exa.ext E565 X544
  have F590 := F589.keep K1
  have F591 := Fld.ext E565 G552
  have F592 := F591.keep K1 (ninS ne572 nin0)
  have F593 := Fld.ext E565 G553
  have F594 := F593.keep K1 (ninS ne572 nin0)
  have F595 := Fld.ext E565 G554
  have F596 := F595.keep K1 (ninS ne572 nin0)
  have F597 := Fld.ext E565 G555
  have F598 := F597.keep K1 (ninS ne572 nin0)
  have F599 := Fld.ext E565 G556
  have F600 := F599.keep K1 (ninS ne572 nin0)
  have F601 := Fld.ext E565 G557
  have F602 := F601.keep K1 (ninS ne572 nin0)
  obtain ⟨h603, l1, ea604, E605, X606, D607, U608, r609⟩ := H.newO (hw _ (List.mem_of_getElem? (i := 49) rfl)) (hw _ (List.mem_of_getElem? (i := 50) rfl)) (hw _ (List.mem_of_getElem? (i := 51) rfl)) (by decide) (by decide) at_176 r580
  have ne610 : sa ≠ l1 := Nat.ne_of_lt (by rw [ea604]; exact F582.lt)
  have ne611 : ba ≠ l1 := Nat.ne_of_lt (by rw [ea604]; exact F588.lt)
  have ne612 : fo ≠ l1 := Nat.ne_of_lt (by rw [ea604]; exact F590.lt)
  have N613 : n0 ≤ l1 := by rw [ea604]; exact Z579
  have Z614 : n0 ≤ h603.size := Nat.le_trans Z579 E605.1
  have G615 : Fld Z h603 l1 "java/util/AbstractList" "modCount" "I" (.int 0) := D607 (ty := .int) (Or.inl (hw _ (List.mem_of_getElem? (i := 69) rfl))) (by decide +kernel)
  have G616 : Fld Z h603 l1 "java/util/ArrayList" "elementData" "[Ljava/lang/Object;" (.null) := D607 (ty := (.array (.object "java/lang/Object"))) (Or.inl (hw _ (List.mem_of_getElem? (i := 72) rfl))) (by decide +kernel)
  replace r609 : W Ts h603 11 43 179 #[.val (.int p0), .val (.int p1), .val (.int p2), .val (.int p3), .val (.int p4), .val (.int (1 : Int32)), .val (.int z6), .val (.int z7), .val (.int c8), .val (.int c9), .val (.int c10), .val (.int c11), .val (.ref ca), .val (.ref cb), .val (.ref sa), .val (.ref nm), .unset, .unset] [(.ref l1), (.ref nm), (.ref sa), (.ref lo), (.ref fo), (.ref fo)] := r609
  have F617 := O0.ext E543
  have F618 := F617.ext E565
  have F619 := F618.keep K1 (allS N573 all0)
  have F620 := F619.ext E605
  have r621 : W Ts h603 11 43 180 #[.val (.int p0), .val (.int p1), .val (.int p2), .val (.int p3), .val (.int p4), .val (.int (1 : Int32)), .val (.int z6), .val (.int z7), .val (.int c8), .val (.int c9), .val (.int c10), .val (.int c11), .val (.ref ca), .val (.ref cb), .val (.ref sa), .val (.ref nm), .unset, .unset] [(.ref l1), (.ref l1), (.ref nm), (.ref sa), (.ref lo), (.ref fo), (.ref fo)] := (H.dup at_179 r609 rfl)
  obtain ⟨_, hc2, ⟨rfl, K2⟩, r622⟩ := H.callI (w := 6) (argsL := []) (rest := [(.ref l1), (.ref nm), (.ref sa), (.ref lo), (.ref fo), (.ref fo)]) rfl (hw _ (List.mem_of_getElem? (i := 52) rfl)) (hw _ (List.mem_of_getElem? (i := 53) rfl)) (hw _ (List.mem_of_getElem? (i := 51) rfl)) (hw _ (List.mem_of_getElem? (i := 54) rfl)) (by decide) pd_8 (by decide) (by decide) (by decide) (by decide) (al_ct hw l1 da S3 h603 n0 Z614 N613 X606 G615 G616 F620) (fun _ _ q => by first | exact q.2.1.1 | exact q.2.1) rfl rfl (Nat.le_of_eq rfl) rfl at_180 r621
  have Z623 : n0 ≤ hc2.size := Nat.le_trans Z614 K2.1
  replace r622 : W Ts hc2 11 43 183 #[.val (.int p0), .val (.int p1), .val (.int p2), .val (.int p3), .val (.int p4), .val (.int (1 : Int32)), .val (.int z6), .val (.int z7), .val (.int c8), .val (.int c9), .val (.int c10), .val (.int c11), .val (.ref ca), .val (.ref cb), .val (.ref sa), .val (.ref nm), .unset, .unset] [(.ref l1), (.ref nm), (.ref sa), (.ref lo), (.ref fo), (.ref fo)] := r622
  have F624 := Exa.ext E605 F582
  have F625 := F624.keep K2
  have F626 := Fld.ext E605 F584
  have F627 := F626.keep K2 (ninS ne610 nin0)
  have F628 := Fld.ext E605 F586
  have F629 := F628.keep K2 (ninS ne610 nin0)
  have F630 := F588.ext E605
  have F631 := F630.keep K2 (ninS ne611 nin0)
  have F632 := Exa.ext E605 F590
  have F633 := F632.keep K2
  have F634 := Fld.ext E605 F592
  have F635 := F634.keep K2 (ninS ne612 nin0)
  have F636 := Fld.ext E605 F594
  have F637 := F636.keep K2 (ninS ne612 nin0)
  have F638 := Fld.ext E605 F596
  have F639 := F638.keep K2 (ninS ne612 nin0)
  have F640 := Fld.ext E605 F598
  have F641 := F640.keep K2 (ninS ne612 nin0)
  have F642 := Fld.ext E605 F600
  have F643 := F642.keep K2 (ninS ne612 nin0)
  have F644 := Fld.ext E605 F602
  have F645 := F644.keep K2 (ninS ne612 nin0)
  obtain ⟨h646, l2, ea647, E648, X649, D650, U651, r652⟩ := H.newO (hw _ (List.mem_of_getElem? (i := 49) rfl)) (hw _ (List.mem_of_getElem? (i := 50) rfl)) (hw _ (List.mem_of_getElem? (i := 51) rfl)) (by decide) (by decide) at_183 r622
  have ne653 : sa ≠ l2 := Nat.ne_of_lt (by rw [ea647]; exact F625.lt)
  have ne654 : ba ≠ l2 := Nat.ne_of_lt (by rw [ea647]; exact F631.lt)
  have ne655 : fo ≠ l2 := Nat.ne_of_lt (by rw [ea647]; exact F633.lt)
  have N656 : n0 ≤ l2 := by rw [ea647]; exact Z623
  have Z657 : n0 ≤ h646.size := Nat.le_trans Z623 E648.1
  have G658 : Fld Z h646 l2 "java/util/AbstractList" "modCount" "I" (.int 0) := D650 (ty := .int) (Or.inl (hw _ (List.mem_of_getElem? (i := 69) rfl))) (by decide +kernel)
  have G659 : Fld Z h646 l2 "java/util/ArrayList" "elementData" "[Ljava/lang/Object;" (.null) := D650 (ty := (.array (.object "java/lang/Object"))) (Or.inl (hw _ (List.mem_of_getElem? (i := 72) rfl))) (by decide +kernel)
  replace r652 : W Ts h646 12 46 186 #[.val (.int p0), .val (.int p1), .val (.int p2), .val (.int p3), .val (.int p4), .val (.int (1 : Int32)), .val (.int z6), .val (.int z7), .val (.int c8), .val (.int c9), .val (.int c10), .val (.int c11), .val (.ref ca), .val (.ref cb), .val (.ref sa), .val (.ref nm), .unset, .unset] [(.ref l2), (.ref l1), (.ref nm), (.ref sa), (.ref lo), (.ref fo), (.ref fo)] := r652
  have F660 := F620.keep K2 (allS N613 all0)
  have F661 := F660.ext E648
  have r662 : W Ts h646 12 46 187 #[.val (.int p0), .val (.int p1), .val (.int p2), .val (.int p3), .val (.int p4), .val (.int (1 : Int32)), .val (.int z6), .val (.int z7), .val (.int c8), .val (.int c9), .val (.int c10), .val (.int c11), .val (.ref ca), .val (.ref cb), .val (.ref sa), .val (.ref nm), .unset, .unset] [(.ref l2), (.ref l2), (.ref l1), (.ref nm), (.ref sa), (.ref lo), (.ref fo), (.ref fo)] := (H.dup at_186 r652 rfl)
  obtain ⟨_, hc3, ⟨rfl, K3⟩, r663⟩ := H.callI (w := 7) (argsL := []) (rest := [(.ref l2), (.ref l1), (.ref nm), (.ref sa), (.ref lo), (.ref fo), (.ref fo)]) rfl (hw _ (List.mem_of_getElem? (i := 52) rfl)) (hw _ (List.mem_of_getElem? (i := 53) rfl)) (hw _ (List.mem_of_getElem? (i := 51) rfl)) (hw _ (List.mem_of_getElem? (i := 54) rfl)) (by decide) pd_8 (by decide) (by decide) (by decide) (by decide) (al_ct hw l2 da S3 h646 n0 Z657 N656 X649 G658 G659 F661) (fun _ _ q => by first | exact q.2.1.1 | exact q.2.1) rfl rfl (Nat.le_of_eq rfl) rfl at_187 r662
  have Z664 : n0 ≤ hc3.size := Nat.le_trans Z657 K3.1
  replace r663 : W Ts hc3 12 46 190 #[.val (.int p0), .val (.int p1), .val (.int p2), .val (.int p3), .val (.int p4), .val (.int (1 : Int32)), .val (.int z6), .val (.int z7), .val (.int c8), .val (.int c9), .val (.int c10), .val (.int c11), .val (.ref ca), .val (.ref cb), .val (.ref sa), .val (.ref nm), .unset, .unset] [(.ref l2), (.ref l1), (.ref nm), (.ref sa), (.ref lo), (.ref fo), (.ref fo)] := r663
  have F665 := Exa.ext E648 F625
  have F666 := F665.keep K3
  have F667 := Fld.ext E648 F627
  have F668 := F667.keep K3 (ninS ne653 nin0)
  have F669 := Fld.ext E648 F629
  have F670 := F669.keep K3 (ninS ne653 nin0)
  have F671 := F631.ext E648
  have F672 := F671.keep K3 (ninS ne654 nin0)
  have F673 := Exa.ext E648 F633
  have F674 := F673.keep K3
  have F675 := Fld.ext E648 F635
  have F676 := F675.keep K3 (ninS ne655 nin0)
  have F677 := Fld.ext E648 F637
  have F678 := F677.keep K3 (ninS ne655 nin0)
  have F679 := Fld.ext E648 F639
  have F680 := F679.keep K3 (ninS ne655 nin0)
  have F681 := Fld.ext E648 F641
  have F682 := F681.keep K3 (ninS ne655 nin0)
  have F683 := Fld.ext E648 F643
  have F684 := F683.keep K3 (ninS ne655 nin0)
  have F685 := Fld.ext E648 F645
  have F686 := F685.keep K3 (ninS ne655 nin0)
  obtain ⟨h687, l3, ea688, E689, X690, D691, U692, r693⟩ := H.newO (hw _ (List.mem_of_getElem? (i := 49) rfl)) (hw _ (List.mem_of_getElem? (i := 50) rfl)) (hw _ (List.mem_of_getElem? (i := 51) rfl)) (by decide) (by decide) at_190 r663
  have ne694 : sa ≠ l3 := Nat.ne_of_lt (by rw [ea688]; exact F666.lt)
  have ne695 : ba ≠ l3 := Nat.ne_of_lt (by rw [ea688]; exact F672.lt)
  have ne696 : fo ≠ l3 := Nat.ne_of_lt (by rw [ea688]; exact F674.lt)
  have N697 : n0 ≤ l3 := by rw [ea688]; exact Z664
  have Z698 : n0 ≤ h687.size := Nat.le_trans Z664 E689.1
  have G699 : Fld Z h687 l3 "java/util/AbstractList" "modCount" "I" (.int 0) := D691 (ty := .int) (Or.inl (hw _ (List.mem_of_getElem? (i := 69) rfl))) (by decide +kernel)
  have G700 : Fld Z h687 l3 "java/util/ArrayList" "elementData" "[Ljava/lang/Object;" (.null) := D691 (ty := (.array (.object "java/lang/Object"))) (Or.inl (hw _ (List.mem_of_getElem? (i := 72) rfl))) (by decide +kernel)
  replace r693 : W Ts h687 13 49 193 #[.val (.int p0), .val (.int p1), .val (.int p2), .val (.int p3), .val (.int p4), .val (.int (1 : Int32)), .val (.int z6), .val (.int z7), .val (.int c8), .val (.int c9), .val (.int c10), .val (.int c11), .val (.ref ca), .val (.ref cb), .val (.ref sa), .val (.ref nm), .unset, .unset] [(.ref l3), (.ref l2), (.ref l1), (.ref nm), (.ref sa), (.ref lo), (.ref fo), (.ref fo)] := r693
  have F701 := F661.keep K3 (allS N656 all0)
  have F702 := F701.ext E689
  have r703 : W Ts h687 13 49 194 #[.val (.int p0), .val (.int p1), .val (.int p2), .val (.int p3), .val (.int p4), .val (.int (1 : Int32)), .val (.int z6), .val (.int z7), .val (.int c8), .val (.int c9), .val (.int c10), .val (.int c11), .val (.ref ca), .val (.ref cb), .val (.ref sa), .val (.ref nm), .unset, .unset] [(.ref l3), (.ref l3), (.ref l2), (.ref l1), (.ref nm), (.ref sa), (.ref lo), (.ref fo), (.ref fo)] := (H.dup at_193 r693 rfl)
  obtain ⟨_, hc4, ⟨rfl, K4⟩, r704⟩ := H.callI (w := 8) (argsL := []) (rest := [(.ref l3), (.ref l2), (.ref l1), (.ref nm), (.ref sa), (.ref lo), (.ref fo), (.ref fo)]) rfl (hw _ (List.mem_of_getElem? (i := 52) rfl)) (hw _ (List.mem_of_getElem? (i := 53) rfl)) (hw _ (List.mem_of_getElem? (i := 51) rfl)) (hw _ (List.mem_of_getElem? (i := 54) rfl)) (by decide) pd_8 (by decide) (by decide) (by decide) (by decide) (al_ct hw l3 da S3 h687 n0 Z698 N697 X690 G699 G700 F702) (fun _ _ q => by first | exact q.2.1.1 | exact q.2.1) rfl rfl (Nat.le_of_eq rfl) rfl at_194 r703
  have Z705 : n0 ≤ hc4.size := Nat.le_trans Z698 K4.1
  replace r704 : W Ts hc4 13 49 197 #[.val (.int p0), .val (.int p1), .val (.int p2), .val (.int p3), .val (.int p4), .val (.int (1 : Int32)), .val (.int z6), .val (.int z7), .val (.int c8), .val (.int c9), .val (.int c10), .val (.int c11), .val (.ref ca), .val (.ref cb), .val (.ref sa), .val (.ref nm), .unset, .unset] [(.ref l3), (.ref l2), (.ref l1), (.ref nm), (.ref sa), (.ref lo), (.ref fo), (.ref fo)] := r704
  have F706 := Fld.ext E689 F676
  have F707 := F706.keep K4 (ninS ne696 nin0)
  have F708 := Fld.ext E689 F678
  have F709 := F708.keep K4 (ninS ne696 nin0)
  have F710 := Fld.ext E689 F680
  have F711 := F710.keep K4 (ninS ne696 nin0)
  have F712 := Fld.ext E689 F682
  have F713 := F712.keep K4 (ninS ne696 nin0)
  have F714 := Fld.ext E689 F684
  have F715 := F714.keep K4 (ninS ne696 nin0)
  have F716 := Fld.ext E689 F686
  have F717 := F716.keep K4 (ninS ne696 nin0)
  have F718 := Exa.ext E689 F674
  have F719 := F718.keep K4
  obtain ⟨_, hc5, ⟨rfl, K5, XF, GA, GN⟩, r720⟩ := H.callI (w := 1) (argsL := [(.ref lo), (.ref sa), (.ref nm), (.ref l1), (.ref l2), (.ref l3)]) (rest := [(.ref fo)]) rfl (hw _ (List.mem_of_getElem? (i := 73) rfl)) (hw _ (List.mem_of_getElem? (i := 74) rfl)) (hw _ (List.mem_of_getElem? (i := 32) rfl)) (hw _ (List.mem_of_getElem? (i := 75) rfl)) (by decide) pd_12 (by decide) (by decide) (by decide) (by decide) (fiA_ct hw fo lo sa nm l1 l2 l3 hc4 n0 Z705 N550 F719 F707 F709 F711 F713 F715 F717) (fun _ _ q => by first | exact q.2.1.1 | exact q.2.1) rfl rfl (Nat.le_of_eq rfl) rfl at_197 r704
  have Z721 : n0 ≤ hc5.size := Nat.le_trans Z705 K5.1
  replace r720 : W Ts hc5 13 49 200 #[.val (.int p0), .val (.int p1), .val (.int p2), .val (.int p3), .val (.int p4), .val (.int (1 : Int32)), .val (.int z6), .val (.int z7), .val (.int c8), .val (.int c9), .val (.int c10), .val (.int c11), .val (.ref ca), .val (.ref cb), .val (.ref sa), .val (.ref nm), .unset, .unset] [(.ref fo)] := r720
  have r722 : W Ts hc5 13 49 202 #[.val (.int p0), .val (.int p1), .val (.int p2), .val (.int p3), .val (.int p4), .val (.int (1 : Int32)), .val (.int z6), .val (.int z7), .val (.int c8), .val (.int c9), .val (.int c10), .val (.int c11), .val (.ref ca), .val (.ref cb), .val (.ref sa), .val (.ref nm), .val (.ref fo), .unset] [] := (H.astore at_200 r720 rfl rfl)
  have r723 : W Ts hc5 13 49 204 #[.val (.int p0), .val (.int p1), .val (.int p2), .val (.int p3), .val (.int p4), .val (.int (1 : Int32)), .val (.int z6), .val (.int z7), .val (.int c8), .val (.int c9), .val (.int c10), .val (.int c11), .val (.ref ca), .val (.ref cb), .val (.ref sa), .val (.ref nm), .val (.ref fo), .unset] [(.ref fo)] := (H.aload at_202 r722 rfl rfl)
  have r724 : W Ts hc5 13 49 207 #[.val (.int p0), .val (.int p1), .val (.int p2), .val (.int p3), .val (.int p4), .val (.int (1 : Int32)), .val (.int z6), .val (.int z7), .val (.int c8), .val (.int c9), .val (.int c10), .val (.int c11), .val (.ref ca), .val (.ref cb), .val (.ref sa), .val (.ref nm), .val (.ref fo), .unset] [(.ref sa)] := H.callVP (w := 0) (argsL := []) (rest := []) (hw _ (List.mem_of_getElem? (i := 89) rfl)) (hw _ (List.mem_of_getElem? (i := 90) rfl)) (Or.inl ⟨_, _, (hw _ (List.mem_of_getElem? (i := 92) rfl)), rfl⟩) (hw _ (List.mem_of_getElem? (i := 92) rfl)) (hw _ (List.mem_of_getElem? (i := 91) rfl)) (hw _ (List.mem_of_getElem? (i := 32) rfl)) (hw _ (List.mem_of_getElem? (i := 93) rfl)) (by decide) pd_13 (by decide) (by decide) (by decide) (by decide) XF (rkA_ct hw fo sa hc5 n0 GA) rfl rfl (Nat.le_of_eq rfl) rfl at_204 r723
  have r725 : W Ts hc5 13 49 209 #[.val (.int p0), .val (.int p1), .val (.int p2), .val (.int p3), .val (.int p4), .val (.int (1 : Int32)), .val (.int z6), .val (.int z7), .val (.int c8), .val (.int c9), .val (.int c10), .val (.int c11), .val (.ref ca), .val (.ref cb), .val (.ref sa), .val (.ref nm), .val (.ref fo), .val (.ref sa)] [] := (H.astore at_207 r724 rfl rfl)
  have r726 : W Ts hc5 13 49 211 #[.val (.int p0), .val (.int p1), .val (.int p2), .val (.int p3), .val (.int p4), .val (.int (1 : Int32)), .val (.int z6), .val (.int z7), .val (.int c8), .val (.int c9), .val (.int c10), .val (.int c11), .val (.ref ca), .val (.ref cb), .val (.ref sa), .val (.ref nm), .val (.ref fo), .val (.ref sa)] [(.ref sa)] := (H.aload at_209 r725 rfl rfl)
  have r727 : W Ts hc5 13 49 216 #[.val (.int p0), .val (.int p1), .val (.int p2), .val (.int p3), .val (.int p4), .val (.int (1 : Int32)), .val (.int z6), .val (.int z7), .val (.int c8), .val (.int c9), .val (.int c10), .val (.int c11), .val (.ref ca), .val (.ref cb), .val (.ref sa), .val (.ref nm), .val (.ref fo), .val (.ref sa)] [] := (H.ifnonnullYes (pc' := 216) at_211 r726 (by decide) (by decide))
  have r728 : W Ts hc5 13 49 221 #[.val (.int p0), .val (.int p1), .val (.int p2), .val (.int p3), .val (.int p4), .val (.int (1 : Int32)), .val (.int z6), .val (.int z7), .val (.int c8), .val (.int c9), .val (.int c10), .val (.int c11), .val (.ref ca), .val (.ref cb), .val (.ref sa), .val (.ref nm), .val (.ref fo), .val (.ref sa)] [] := (H.ifNo at_218 (H.iload at_216 r727 rfl) (feq (by decide)).1)
  have F729 := F702.keep K4 (allS N697 all0)
  have F730 := F729.keep K5 (allS N550 all0)
  have F731 := Exa.ext E689 F666
  have F732 := F731.keep K4
  have F733 := F732.keep K5
  have F734 := Fld.ext E689 F668
  have F735 := F734.keep K4 (ninS ne694 nin0)
  have F736 := F735.keep K5 (ninS ne548 nin0)
  have F737 := Fld.ext E689 F670
  have F738 := F737.keep K4 (ninS ne694 nin0)
  have F739 := F738.keep K5 (ninS ne548 nin0)
  have F740 := F672.ext E689
  have F741 := F740.keep K4 (ninS ne695 nin0)
  have F742 := F741.keep K5 (ninS ne549 nin0)
  have r743 : W Ts hc5 13 49 229 #[.val (.int p0), .val (.int p1), .val (.int p2), .val (.int p3), .val (.int p4), .val (.int (1 : Int32)), .val (.int z6), .val (.int z7), .val (.int c8), .val (.int c9), .val (.int c10), .val (.int c11), .val (.ref ca), .val (.ref cb), .val (.ref sa), .val (.ref nm), .val (.ref fo), .val (.ref sa)] [(.int c9), (.int c8), (.int z6), (.ref sa)] := (H.iload at_227 (H.iload at_225 (H.iload at_223 (H.aload at_221 r728 rfl rfl) rfl) rfl) rfl)
  have r744 : W Ts hc5 13 49 232 #[.val (.int p0), .val (.int p1), .val (.int p2), .val (.int p3), .val (.int p4), .val (.int (1 : Int32)), .val (.int z6), .val (.int z7), .val (.int c8), .val (.int c9), .val (.int c10), .val (.int c11), .val (.ref ca), .val (.ref cb), .val (.ref sa), .val (.ref nm), .val (.ref fo), .val (.ref sa)] [(.int (1 : Int32))] := H.callSP (w := 0) (argsL := [(.ref sa), (.int z6), (.int c8), (.int c9)]) (rest := []) (hw _ (List.mem_of_getElem? (i := 94) rfl)) (hw _ (List.mem_of_getElem? (i := 95) rfl)) (hw _ (List.mem_of_getElem? (i := 96) rfl)) (hw _ (List.mem_of_getElem? (i := 97) rfl)) (by decide) pd_14 (by decide) (by decide) (by decide) (by decide) (sam_ct hw sa ba vs z6 c8 c9 g8 g9 hvs cs hcs S1 fm hfm S2 hc5 n0 F730.2 F733 F736 F739 F742) rfl rfl (Nat.le_of_eq rfl) rfl at_229 r743
  exact ⟨_, _, H.retZ rfl rfl (by decide) (by decide) at_232 r744, rfl⟩
set_option maxRecDepth 65536 in
set_option maxHeartbeats 40000000 in
theorem law_ct {l : Launch} {Z : State} {a0 : Array Value} (hw : ∀ d ∈ tables_1, d.before a0 Z = true) (p0 p1 p2 p3 p4 : Int32) (cs : Int32) (hcs : ¬ cs = 0) (S1 : Sta Z Z.heap "java/lang/String" "COMPACT_STRINGS" "Z" (.int cs)) (fm : Value) (hfm : fm.isRef = true) (S2 : Sta Z Z.heap "jdk/internal/util/Preconditions" "SIOOBE_FORMATTER" "Ljava/util/function/BiFunction;" fm) (da : Addr) (S3 : Sta Z Z.heap "java/util/ArrayList" "DEFAULTCAPACITY_EMPTY_ELEMENTDATA" "[Ljava/lang/Object;" (.ref da)) (wS : ∀ a ∈ Bundle.stringAtoms, a.before a0 Z = true) (hh1 : Jvm.Lit.constHeld Z "com/example/resolvent/resolvent/FieldResponseKeyPinLaw" 21) (hcw : Jvm.Lit.compactW.before a0 Z = true) :
    CtW l Z Jvm.Pilot.@@N@@.x code maxLocals ret room_1 #[(.int p0), (.int p1), (.int p2), (.int p3), (.int p4)] (fun v h' => v = some (.int 1)) := by
  refine CtW.of (plainFor_of_name pn_10) (fun m => ef_0 p0 p1 p2 p3 p4 m) ?_
  intro W V H r0
  have r745 : W ([], none) Z.heap 0 0 3 #[.val (.int p0), .val (.int p1), .val (.int p2), .val (.int p3), .val (.int p4), .unset, .unset, .unset, .unset, .unset, .unset, .unset, .unset, .unset, .unset, .unset, .unset, .unset] [(.int (p2 &&& (1 : Int32)))] := (H.iand at_2 (H.iconst (z := (1 : Int32)) at_1 (H.iloadN at_0 r0 rfl) rfl))
  have r750 : W ([], none) Z.heap 0 0 11 #[.val (.int p0), .val (.int p1), .val (.int p2), .val (.int p3), .val (.int p4), .unset, .unset, .unset, .unset, .unset, .unset, .unset, .unset, .unset, .unset, .unset, .unset, .unset] [(.int (if (p2 &&& (1 : Int32)) = (0 : Int32) then (0 : Int32) else (1 : Int32)))] := by
    by_cases hb0 : (p2 &&& (1 : Int32)) = (0 : Int32)
    · have r746 : W ([], none) Z.heap 0 0 10 #[.val (.int p0), .val (.int p1), .val (.int p2), .val (.int p3), .val (.int p4), .unset, .unset, .unset, .unset, .unset, .unset, .unset, .unset, .unset, .unset, .unset, .unset, .unset] [] := (H.ifYes (pc' := 10) at_3 r745 (by decide) (by decide) (teq hb0).1)
      have r748 : W ([], none) Z.heap 0 0 11 #[.val (.int p0), .val (.int p1), .val (.int p2), .val (.int p3), .val (.int p4), .unset, .unset, .unset, .unset, .unset, .unset, .unset, .unset, .unset, .unset, .unset, .unset, .unset] [(.int (0 : Int32))] := (H.iconst (z := (0 : Int32)) at_10 r746 rfl)
      first | (simp only [if_pos hb0]; exact r748) | exact r748 | (simp only [if_pos hb0] at r748 ⊢; exact r748)
    · have r747 : W ([], none) Z.heap 0 0 6 #[.val (.int p0), .val (.int p1), .val (.int p2), .val (.int p3), .val (.int p4), .unset, .unset, .unset, .unset, .unset, .unset, .unset, .unset, .unset, .unset, .unset, .unset, .unset] [] := (H.ifNo at_3 r745 (feq hb0).1)
      have r749 : W ([], none) Z.heap 0 0 11 #[.val (.int p0), .val (.int p1), .val (.int p2), .val (.int p3), .val (.int p4), .unset, .unset, .unset, .unset, .unset, .unset, .unset, .unset, .unset, .unset, .unset, .unset, .unset] [(.int (1 : Int32))] := (H.goto (pc' := 11) at_7 (H.iconst (z := (1 : Int32)) at_6 r747 rfl) (by decide) (by decide))
      first | (simp only [if_neg hb0]; exact r749) | exact r749 | (simp only [if_neg hb0] at r749 ⊢; exact r749)
  obtain ⟨z5, ez5, hz5⟩ := own_bit ((p2 &&& (1 : Int32)) = (0 : Int32))
  rw [ez5] at r750
  have r751 : W ([], none) Z.heap 0 0 13 #[.val (.int p0), .val (.int p1), .val (.int p2), .val (.int p3), .val (.int p4), .val (.int z5), .unset, .unset, .unset, .unset, .unset, .unset, .unset, .unset, .unset, .unset, .unset, .unset] [] := (H.istore at_11 r750 rfl)
  have r752 : W ([], none) Z.heap 0 0 16 #[.val (.int p0), .val (.int p1), .val (.int p2), .val (.int p3), .val (.int p4), .val (.int z5), .unset, .unset, .unset, .unset, .unset, .unset, .unset, .unset, .unset, .unset, .unset, .unset] [(.int (p2 &&& (2 : Int32)))] := (H.iand at_15 (H.iconst (z := (2 : Int32)) at_14 (H.iloadN at_13 r751 rfl) rfl))
  have r757 : W ([], none) Z.heap 0 0 24 #[.val (.int p0), .val (.int p1), .val (.int p2), .val (.int p3), .val (.int p4), .val (.int z5), .unset, .unset, .unset, .unset, .unset, .unset, .unset, .unset, .unset, .unset, .unset, .unset] [(.int (if (p2 &&& (2 : Int32)) = (0 : Int32) then (0 : Int32) else (1 : Int32)))] := by
    by_cases hb1 : (p2 &&& (2 : Int32)) = (0 : Int32)
    · have r753 : W ([], none) Z.heap 0 0 23 #[.val (.int p0), .val (.int p1), .val (.int p2), .val (.int p3), .val (.int p4), .val (.int z5), .unset, .unset, .unset, .unset, .unset, .unset, .unset, .unset, .unset, .unset, .unset, .unset] [] := (H.ifYes (pc' := 23) at_16 r752 (by decide) (by decide) (teq hb1).1)
      have r755 : W ([], none) Z.heap 0 0 24 #[.val (.int p0), .val (.int p1), .val (.int p2), .val (.int p3), .val (.int p4), .val (.int z5), .unset, .unset, .unset, .unset, .unset, .unset, .unset, .unset, .unset, .unset, .unset, .unset] [(.int (0 : Int32))] := (H.iconst (z := (0 : Int32)) at_23 r753 rfl)
      first | (simp only [if_pos hb1]; exact r755) | exact r755 | (simp only [if_pos hb1] at r755 ⊢; exact r755)
    · have r754 : W ([], none) Z.heap 0 0 19 #[.val (.int p0), .val (.int p1), .val (.int p2), .val (.int p3), .val (.int p4), .val (.int z5), .unset, .unset, .unset, .unset, .unset, .unset, .unset, .unset, .unset, .unset, .unset, .unset] [] := (H.ifNo at_16 r752 (feq hb1).1)
      have r756 : W ([], none) Z.heap 0 0 24 #[.val (.int p0), .val (.int p1), .val (.int p2), .val (.int p3), .val (.int p4), .val (.int z5), .unset, .unset, .unset, .unset, .unset, .unset, .unset, .unset, .unset, .unset, .unset, .unset] [(.int (1 : Int32))] := (H.goto (pc' := 24) at_20 (H.iconst (z := (1 : Int32)) at_19 r754 rfl) (by decide) (by decide))
      first | (simp only [if_neg hb1]; exact r756) | exact r756 | (simp only [if_neg hb1] at r756 ⊢; exact r756)
  obtain ⟨z6, ez6, hz6⟩ := own_bit ((p2 &&& (2 : Int32)) = (0 : Int32))
  rw [ez6] at r757
  have r758 : W ([], none) Z.heap 0 0 26 #[.val (.int p0), .val (.int p1), .val (.int p2), .val (.int p3), .val (.int p4), .val (.int z5), .val (.int z6), .unset, .unset, .unset, .unset, .unset, .unset, .unset, .unset, .unset, .unset, .unset] [] := (H.istore at_24 r757 rfl)
  have r759 : W ([], none) Z.heap 0 0 29 #[.val (.int p0), .val (.int p1), .val (.int p2), .val (.int p3), .val (.int p4), .val (.int z5), .val (.int z6), .unset, .unset, .unset, .unset, .unset, .unset, .unset, .unset, .unset, .unset, .unset] [(.int (p2 &&& (4 : Int32)))] := (H.iand at_28 (H.iconst (z := (4 : Int32)) at_27 (H.iloadN at_26 r758 rfl) rfl))
  have r764 : W ([], none) Z.heap 0 0 37 #[.val (.int p0), .val (.int p1), .val (.int p2), .val (.int p3), .val (.int p4), .val (.int z5), .val (.int z6), .unset, .unset, .unset, .unset, .unset, .unset, .unset, .unset, .unset, .unset, .unset] [(.int (if (p2 &&& (4 : Int32)) = (0 : Int32) then (0 : Int32) else (1 : Int32)))] := by
    by_cases hb2 : (p2 &&& (4 : Int32)) = (0 : Int32)
    · have r760 : W ([], none) Z.heap 0 0 36 #[.val (.int p0), .val (.int p1), .val (.int p2), .val (.int p3), .val (.int p4), .val (.int z5), .val (.int z6), .unset, .unset, .unset, .unset, .unset, .unset, .unset, .unset, .unset, .unset, .unset] [] := (H.ifYes (pc' := 36) at_29 r759 (by decide) (by decide) (teq hb2).1)
      have r762 : W ([], none) Z.heap 0 0 37 #[.val (.int p0), .val (.int p1), .val (.int p2), .val (.int p3), .val (.int p4), .val (.int z5), .val (.int z6), .unset, .unset, .unset, .unset, .unset, .unset, .unset, .unset, .unset, .unset, .unset] [(.int (0 : Int32))] := (H.iconst (z := (0 : Int32)) at_36 r760 rfl)
      first | (simp only [if_pos hb2]; exact r762) | exact r762 | (simp only [if_pos hb2] at r762 ⊢; exact r762)
    · have r761 : W ([], none) Z.heap 0 0 32 #[.val (.int p0), .val (.int p1), .val (.int p2), .val (.int p3), .val (.int p4), .val (.int z5), .val (.int z6), .unset, .unset, .unset, .unset, .unset, .unset, .unset, .unset, .unset, .unset, .unset] [] := (H.ifNo at_29 r759 (feq hb2).1)
      have r763 : W ([], none) Z.heap 0 0 37 #[.val (.int p0), .val (.int p1), .val (.int p2), .val (.int p3), .val (.int p4), .val (.int z5), .val (.int z6), .unset, .unset, .unset, .unset, .unset, .unset, .unset, .unset, .unset, .unset, .unset] [(.int (1 : Int32))] := (H.goto (pc' := 37) at_33 (H.iconst (z := (1 : Int32)) at_32 r761 rfl) (by decide) (by decide))
      first | (simp only [if_neg hb2]; exact r763) | exact r763 | (simp only [if_neg hb2] at r763 ⊢; exact r763)
  obtain ⟨z7, ez7, hz7⟩ := own_bit ((p2 &&& (4 : Int32)) = (0 : Int32))
  rw [ez7] at r764
  have r765 : W ([], none) Z.heap 0 0 39 #[.val (.int p0), .val (.int p1), .val (.int p2), .val (.int p3), .val (.int p4), .val (.int z5), .val (.int z6), .val (.int z7), .unset, .unset, .unset, .unset, .unset, .unset, .unset, .unset, .unset, .unset] [] := (H.istore at_37 r764 rfl)
  have r766 : W ([], none) Z.heap 0 0 47 #[.val (.int p0), .val (.int p1), .val (.int p2), .val (.int p3), .val (.int p4), .val (.int z5), .val (.int z6), .val (.int z7), .val (.int ((p0 &&& (255 : Int32)).toUInt32.toUInt16.toUInt32.toInt32)), .unset, .unset, .unset, .unset, .unset, .unset, .unset, .unset, .unset] [] := (H.istore at_45 (H.i2c at_44 (H.iand at_43 (H.sipush (z := (255 : Int32)) at_40 (H.iloadN at_39 r765 rfl) rfl))) rfl)
  obtain ⟨c8, e8, g8⟩ := own_ch3 p0
  rw [e8] at r766
  have r767 : W ([], none) Z.heap 0 0 56 #[.val (.int p0), .val (.int p1), .val (.int p2), .val (.int p3), .val (.int p4), .val (.int z5), .val (.int z6), .val (.int z7), .val (.int c8), .unset, .unset, .unset, .unset, .unset, .unset, .unset, .unset, .unset] [(.int ((((p0.toUInt32 >>> ((8 : Int32) &&& 31).toUInt32).toInt32) &&& (255 : Int32)).toUInt32.toUInt16.toUInt32.toInt32))] := (H.i2c at_55 (H.iand at_54 (H.sipush (z := (255 : Int32)) at_51 (H.iushr at_50 (H.bipush (z := (8 : Int32)) at_48 (H.iloadN at_47 r766 rfl) rfl)) rfl)))
  have r768 : W ([], none) Z.heap 0 0 58 #[.val (.int p0), .val (.int p1), .val (.int p2), .val (.int p3), .val (.int p4), .val (.int z5), .val (.int z6), .val (.int z7), .val (.int c8), .val (.int ((((p0.toUInt32 >>> ((8 : Int32) &&& 31).toUInt32).toInt32) &&& (255 : Int32)).toUInt32.toUInt16.toUInt32.toInt32)), .unset, .unset, .unset, .unset, .unset, .unset, .unset, .unset] [] := (H.istore at_56 r767 rfl)
  obtain ⟨c9, e9, g9⟩ := own_ch3 ((p0.toUInt32 >>> ((8 : Int32) &&& 31).toUInt32).toInt32)
  rw [e9] at r768
  have r769 : W ([], none) Z.heap 0 0 66 #[.val (.int p0), .val (.int p1), .val (.int p2), .val (.int p3), .val (.int p4), .val (.int z5), .val (.int z6), .val (.int z7), .val (.int c8), .val (.int c9), .val (.int ((p1 &&& (255 : Int32)).toUInt32.toUInt16.toUInt32.toInt32)), .unset, .unset, .unset, .unset, .unset, .unset, .unset] [] := (H.istore at_64 (H.i2c at_63 (H.iand at_62 (H.sipush (z := (255 : Int32)) at_59 (H.iloadN at_58 r768 rfl) rfl))) rfl)
  obtain ⟨c10, e10, g10⟩ := own_ch3 p1
  rw [e10] at r769
  have r770 : W ([], none) Z.heap 0 0 75 #[.val (.int p0), .val (.int p1), .val (.int p2), .val (.int p3), .val (.int p4), .val (.int z5), .val (.int z6), .val (.int z7), .val (.int c8), .val (.int c9), .val (.int c10), .unset, .unset, .unset, .unset, .unset, .unset, .unset] [(.int ((((p1.toUInt32 >>> ((8 : Int32) &&& 31).toUInt32).toInt32) &&& (255 : Int32)).toUInt32.toUInt16.toUInt32.toInt32))] := (H.i2c at_74 (H.iand at_73 (H.sipush (z := (255 : Int32)) at_70 (H.iushr at_69 (H.bipush (z := (8 : Int32)) at_67 (H.iloadN at_66 r769 rfl) rfl)) rfl)))
  have r771 : W ([], none) Z.heap 0 0 77 #[.val (.int p0), .val (.int p1), .val (.int p2), .val (.int p3), .val (.int p4), .val (.int z5), .val (.int z6), .val (.int z7), .val (.int c8), .val (.int c9), .val (.int c10), .val (.int ((((p1.toUInt32 >>> ((8 : Int32) &&& 31).toUInt32).toInt32) &&& (255 : Int32)).toUInt32.toUInt16.toUInt32.toInt32)), .unset, .unset, .unset, .unset, .unset, .unset] [] := (H.istore at_75 r770 rfl)
  obtain ⟨c11, e11, g11⟩ := own_ch3 ((p1.toUInt32 >>> ((8 : Int32) &&& 31).toUInt32).toInt32)
  rw [e11] at r771
  have r772 : W ([], none) Z.heap 0 0 78 #[.val (.int p0), .val (.int p1), .val (.int p2), .val (.int p3), .val (.int p4), .val (.int z5), .val (.int z6), .val (.int z7), .val (.int c8), .val (.int c9), .val (.int c10), .val (.int c11), .unset, .unset, .unset, .unset, .unset, .unset] [(.int (2 : Int32))] := (H.iconst (z := (2 : Int32)) at_77 r771 rfl)
  obtain ⟨h773, ca, ea774, E775, A776, r777⟩ := H.newA (i := 2) (cap := 2) (d := (.int 0)) rfl rfl (hw _ (List.mem_of_getElem? (i := 0) rfl)) (by decide) (by decide) (by decide) (by decide) (by decide) at_78 r772
  have N778 : Z.heap.size ≤ ca := by rw [ea774]; exact (Nat.le_refl _)
  have Z779 : Z.heap.size ≤ h773.size := Nat.le_trans (Nat.le_refl _) E775.1
  have A776l : Ary Z h773 ca .char [.int 0, .int 0] := A776
  replace r777 : W ([], none) h773 1 2 80 #[.val (.int p0), .val (.int p1), .val (.int p2), .val (.int p3), .val (.int p4), .val (.int z5), .val (.int z6), .val (.int z7), .val (.int c8), .val (.int c9), .val (.int c10), .val (.int c11), .unset, .unset, .unset, .unset, .unset, .unset] [(.ref ca)] := r777
  have r780 : W ([], none) h773 1 2 84 #[.val (.int p0), .val (.int p1), .val (.int p2), .val (.int p3), .val (.int p4), .val (.int z5), .val (.int z6), .val (.int z7), .val (.int c8), .val (.int c9), .val (.int c10), .val (.int c11), .unset, .unset, .unset, .unset, .unset, .unset] [(.int c8), (.int (0 : Int32)), (.ref ca), (.ref ca)] := (H.iload at_82 (H.iconst (z := (0 : Int32)) at_81 (H.dup at_80 r777 rfl) rfl) rfl)
  obtain ⟨h781, w782, A783, r784⟩ := H.putC (i := 0) (z := c8) g8.1 A776l (by decide) (by decide : 0 < 2) N778 at_84 r780
  have Z785 : Z.heap.size ≤ h781.size := by rw [w782.size]; exact Z779
  replace A783 : Ary Z h781 ca .char [.int c8, .int 0] := A783
  replace r784 : W ([], none) h781 1 2 85 #[.val (.int p0), .val (.int p1), .val (.int p2), .val (.int p3), .val (.int p4), .val (.int z5), .val (.int z6), .val (.int z7), .val (.int c8), .val (.int c9), .val (.int c10), .val (.int c11), .unset, .unset, .unset, .unset, .unset, .unset] [(.ref ca)] := r784
  have r786 : W ([], none) h781 1 2 89 #[.val (.int p0), .val (.int p1), .val (.int p2), .val (.int p3), .val (.int p4), .val (.int z5), .val (.int z6), .val (.int z7), .val (.int c8), .val (.int c9), .val (.int c10), .val (.int c11), .unset, .unset, .unset, .unset, .unset, .unset] [(.int c9), (.int (1 : Int32)), (.ref ca), (.ref ca)] := (H.iload at_87 (H.iconst (z := (1 : Int32)) at_86 (H.dup at_85 r784 rfl) rfl) rfl)
  obtain ⟨h787, w788, A789, r790⟩ := H.putC (i := 1) (z := c9) g9.1 A783 (by decide) (by decide : 1 < 2) N778 at_89 r786
  have Z791 : Z.heap.size ≤ h787.size := by rw [w788.size]; exact Z785
  replace A789 : Ary Z h787 ca .char [.int c8, .int c9] := A789
  replace r790 : W ([], none) h787 1 2 90 #[.val (.int p0), .val (.int p1), .val (.int p2), .val (.int p3), .val (.int p4), .val (.int z5), .val (.int z6), .val (.int z7), .val (.int c8), .val (.int c9), .val (.int c10), .val (.int c11), .unset, .unset, .unset, .unset, .unset, .unset] [(.ref ca)] := r790
  have r792 : W ([], none) h787 1 2 92 #[.val (.int p0), .val (.int p1), .val (.int p2), .val (.int p3), .val (.int p4), .val (.int z5), .val (.int z6), .val (.int z7), .val (.int c8), .val (.int c9), .val (.int c10), .val (.int c11), .val (.ref ca), .unset, .unset, .unset, .unset, .unset] [] := (H.astore at_90 r790 rfl rfl)
  have r793 : W ([], none) h787 1 2 93 #[.val (.int p0), .val (.int p1), .val (.int p2), .val (.int p3), .val (.int p4), .val (.int z5), .val (.int z6), .val (.int z7), .val (.int c8), .val (.int c9), .val (.int c10), .val (.int c11), .val (.ref ca), .unset, .unset, .unset, .unset, .unset] [(.int (2 : Int32))] := (H.iconst (z := (2 : Int32)) at_92 r792 rfl)
  obtain ⟨h794, cb, ea795, E796, A797, r798⟩ := H.newA (i := 2) (cap := 2) (d := (.int 0)) rfl rfl (hw _ (List.mem_of_getElem? (i := 0) rfl)) (by decide) (by decide) (by decide) (by decide) (by decide) at_93 r793
  have ne799 : ca ≠ cb := Nat.ne_of_lt (by rw [ea795]; exact A789.lt)
  have N800 : Z.heap.size ≤ cb := by rw [ea795]; exact Z791
  have Z801 : Z.heap.size ≤ h794.size := Nat.le_trans Z791 E796.1
  have A797l : Ary Z h794 cb .char [.int 0, .int 0] := A797
  replace r798 : W ([], none) h794 2 4 95 #[.val (.int p0), .val (.int p1), .val (.int p2), .val (.int p3), .val (.int p4), .val (.int z5), .val (.int z6), .val (.int z7), .val (.int c8), .val (.int c9), .val (.int c10), .val (.int c11), .val (.ref ca), .unset, .unset, .unset, .unset, .unset] [(.ref cb)] := r798
  have r802 : W ([], none) h794 2 4 99 #[.val (.int p0), .val (.int p1), .val (.int p2), .val (.int p3), .val (.int p4), .val (.int z5), .val (.int z6), .val (.int z7), .val (.int c8), .val (.int c9), .val (.int c10), .val (.int c11), .val (.ref ca), .unset, .unset, .unset, .unset, .unset] [(.int c10), (.int (0 : Int32)), (.ref cb), (.ref cb)] := (H.iload at_97 (H.iconst (z := (0 : Int32)) at_96 (H.dup at_95 r798 rfl) rfl) rfl)
  obtain ⟨h803, w804, A805, r806⟩ := H.putC (i := 0) (z := c10) g10.1 A797l (by decide) (by decide : 0 < 2) N800 at_99 r802
  have Z807 : Z.heap.size ≤ h803.size := by rw [w804.size]; exact Z801
  replace A805 : Ary Z h803 cb .char [.int c10, .int 0] := A805
  replace r806 : W ([], none) h803 2 4 100 #[.val (.int p0), .val (.int p1), .val (.int p2), .val (.int p3), .val (.int p4), .val (.int z5), .val (.int z6), .val (.int z7), .val (.int c8), .val (.int c9), .val (.int c10), .val (.int c11), .val (.ref ca), .unset, .unset, .unset, .unset, .unset] [(.ref cb)] := r806
  have r808 : W ([], none) h803 2 4 104 #[.val (.int p0), .val (.int p1), .val (.int p2), .val (.int p3), .val (.int p4), .val (.int z5), .val (.int z6), .val (.int z7), .val (.int c8), .val (.int c9), .val (.int c10), .val (.int c11), .val (.ref ca), .unset, .unset, .unset, .unset, .unset] [(.int c11), (.int (1 : Int32)), (.ref cb), (.ref cb)] := (H.iload at_102 (H.iconst (z := (1 : Int32)) at_101 (H.dup at_100 r806 rfl) rfl) rfl)
  obtain ⟨h809, w810, A811, r812⟩ := H.putC (i := 1) (z := c11) g11.1 A805 (by decide) (by decide : 1 < 2) N800 at_104 r808
  have Z813 : Z.heap.size ≤ h809.size := by rw [w810.size]; exact Z807
  replace A811 : Ary Z h809 cb .char [.int c10, .int c11] := A811
  replace r812 : W ([], none) h809 2 4 105 #[.val (.int p0), .val (.int p1), .val (.int p2), .val (.int p3), .val (.int p4), .val (.int z5), .val (.int z6), .val (.int z7), .val (.int c8), .val (.int c9), .val (.int c10), .val (.int c11), .val (.ref ca), .unset, .unset, .unset, .unset, .unset] [(.ref cb)] := r812
  have r814 : W ([], none) h809 2 4 107 #[.val (.int p0), .val (.int p1), .val (.int p2), .val (.int p3), .val (.int p4), .val (.int z5), .val (.int z6), .val (.int z7), .val (.int c8), .val (.int c9), .val (.int c10), .val (.int c11), .val (.ref ca), .val (.ref cb), .unset, .unset, .unset, .unset] [] := (H.astore at_105 r812 rfl rfl)
  have r815 : W ([], none) h809 2 4 109 #[.val (.int p0), .val (.int p1), .val (.int p2), .val (.int p3), .val (.int p4), .val (.int z5), .val (.int z6), .val (.int z7), .val (.int c8), .val (.int c9), .val (.int c10), .val (.int c11), .val (.ref ca), .val (.ref cb), .unset, .unset, .unset, .unset] [(.int z5)] := (H.iload at_107 r814 rfl)
  rcases hz5 with rfl | rfl
  · replace r815 : W ([], none) h809 2 4 109 #[.val (.int p0), .val (.int p1), .val (.int p2), .val (.int p3), .val (.int p4), .val (.int (0 : Int32)), .val (.int z6), .val (.int z7), .val (.int c8), .val (.int c9), .val (.int c10), .val (.int c11), .val (.ref ca), .val (.ref cb), .unset, .unset, .unset, .unset] [(.int (0 : Int32))] := r815
    have r816 : W ([], none) h809 2 4 134 #[.val (.int p0), .val (.int p1), .val (.int p2), .val (.int p3), .val (.int p4), .val (.int (0 : Int32)), .val (.int z6), .val (.int z7), .val (.int c8), .val (.int c9), .val (.int c10), .val (.int c11), .val (.ref ca), .val (.ref cb), .unset, .unset, .unset, .unset] [] := (H.ifYes (pc' := 134) at_109 r815 (by decide) (by decide) (teq (rfl : (0 : Int32) = 0)).1)
    have r817 : W ([], none) h809 2 4 137 #[.val (.int p0), .val (.int p1), .val (.int p2), .val (.int p3), .val (.int p4), .val (.int (0 : Int32)), .val (.int z6), .val (.int z7), .val (.int c8), .val (.int c9), .val (.int c10), .val (.int c11), .val (.ref ca), .val (.ref cb), .val .null, .unset, .unset, .unset] [] := (H.astore at_135 (H.aconstNull at_134 r816) rfl rfl)
    have r818 : W ([], none) h809 2 4 139 #[.val (.int p0), .val (.int p1), .val (.int p2), .val (.int p3), .val (.int p4), .val (.int (0 : Int32)), .val (.int z6), .val (.int z7), .val (.int c8), .val (.int c9), .val (.int c10), .val (.int c11), .val (.ref ca), .val (.ref cb), .val .null, .unset, .unset, .unset] [(.int z7)] := (H.iload at_137 r817 rfl)
    rcases hz7 with rfl | rfl
    · replace r818 : W ([], none) h809 2 4 139 #[.val (.int p0), .val (.int p1), .val (.int p2), .val (.int p3), .val (.int p4), .val (.int (0 : Int32)), .val (.int z6), .val (.int (0 : Int32)), .val (.int c8), .val (.int c9), .val (.int c10), .val (.int c11), .val (.ref ca), .val (.ref cb), .val .null, .unset, .unset, .unset] [(.int (0 : Int32))] := r818
      have r819 : W ([], none) h809 2 4 147 #[.val (.int p0), .val (.int p1), .val (.int p2), .val (.int p3), .val (.int p4), .val (.int (0 : Int32)), .val (.int z6), .val (.int (0 : Int32)), .val (.int c8), .val (.int c9), .val (.int c10), .val (.int c11), .val (.ref ca), .val (.ref cb), .val .null, .unset, .unset, .unset] [] := (H.ifYes (pc' := 147) at_139 r818 (by decide) (by decide) (teq (rfl : (0 : Int32) = 0)).1)
      have F820 := A789.ext E796
      have F821 := F820.other w804 ne799
      have F822 := F821.other w810 ne799
      obtain ⟨h823, nm, ea824, E825, X826, D827, U828, r829⟩ := H.newO (hw _ (List.mem_of_getElem? (i := 1) rfl)) (hw _ (List.mem_of_getElem? (i := 2) rfl)) (hw _ (List.mem_of_getElem? (i := 3) rfl)) (by decide) (by decide) at_147 r819
      have ne830 : ca ≠ nm := Nat.ne_of_lt (by rw [ea824]; exact F822.lt)
      have ne831 : cb ≠ nm := Nat.ne_of_lt (by rw [ea824]; exact A811.lt)
      have N832 : Z.heap.size ≤ nm := by rw [ea824]; exact Z813
      have Z833 : Z.heap.size ≤ h823.size := Nat.le_trans Z813 E825.1
      have G834 : Fld Z h823 nm "java/lang/String" "coder" "B" (.int 0) := D827 (ty := .byte) (Or.inr (hw _ (List.mem_of_getElem? (i := 27) rfl))) (by decide +kernel)
      have G835 : Fld Z h823 nm "java/lang/String" "value" "[B" (.null) := D827 (ty := (.array .byte)) (Or.inr (hw _ (List.mem_of_getElem? (i := 29) rfl))) (by decide +kernel)
      replace r829 : W ([], none) h823 3 8 150 #[.val (.int p0), .val (.int p1), .val (.int p2), .val (.int p3), .val (.int p4), .val (.int (0 : Int32)), .val (.int z6), .val (.int (0 : Int32)), .val (.int c8), .val (.int c9), .val (.int c10), .val (.int c11), .val (.ref ca), .val (.ref cb), .val .null, .unset, .unset, .unset] [(.ref nm)] := r829
      have F836 := (Old.start Z).ext E775
      have F837 := F836.wr w782 N778
      have F838 := F837.wr w788 N778
      have F839 := F838.ext E796
      have F840 := F839.wr w804 N800
      have F841 := F840.wr w810 N800
      have F842 := F841.ext E825
      have F843 := A811.ext E825
      have r844 : W ([], none) h823 3 8 153 #[.val (.int p0), .val (.int p1), .val (.int p2), .val (.int p3), .val (.int p4), .val (.int (0 : Int32)), .val (.int z6), .val (.int (0 : Int32)), .val (.int c8), .val (.int c9), .val (.int c10), .val (.int c11), .val (.ref ca), .val (.ref cb), .val .null, .unset, .unset, .unset] [(.ref cb), (.ref nm), (.ref nm)] := (H.aload at_151 (H.dup at_150 r829 rfl) rfl rfl)
      obtain ⟨_, hcM, ⟨rfl, KM, bM, NBM, YBM, XXM, XCM, XVM, XBM⟩, r845⟩ := H.callI (w := 1) (argsL := [(.ref cb)]) (rest := [(.ref nm)]) rfl (hw _ (List.mem_of_getElem? (i := 4) rfl)) (hw _ (List.mem_of_getElem? (i := 5) rfl)) (hw _ (List.mem_of_getElem? (i := 3) rfl)) (hw _ (List.mem_of_getElem? (i := 6) rfl)) (by decide) pd_15 (by decide) (by decide) (by decide) (by decide) (sc_ct hw nm cb c10 c11 g10 g11 cs hcs S1 h823 Z.heap.size Z833 N832 F842.2 X826 G834 G835 F843) (fun _ _ q => by first | exact q.2.1.1 | exact q.2.1) rfl rfl (Nat.le_of_eq rfl) rfl at_153 r844
      have Z846 : Z.heap.size ≤ hcM.size := Nat.le_trans Z833 KM.1
      replace r845 : W ([], none) hcM 4 10 156 #[.val (.int p0), .val (.int p1), .val (.int p2), .val (.int p3), .val (.int p4), .val (.int (0 : Int32)), .val (.int z6), .val (.int (0 : Int32)), .val (.int c8), .val (.int c9), .val (.int c10), .val (.int c11), .val (.ref ca), .val (.ref cb), .val .null, .unset, .unset, .unset] [(.ref nm)] := r845
      have F847 := F842.keep KM (allS N832 all0)
      exact tailN hw H p0 p1 p2 p3 p4 z6 (0 : Int32) c8 c9 c10 c11 ca cb nm bM _ g10 g11 (Or.inr ⟨rfl, rfl⟩) cs hcs S1 fm hfm S2 da S3 _ hcM Z846 F847 XXM XCM XVM XBM (H.more (by decide) (by decide) r845)
    · replace r818 : W ([], none) h809 2 4 139 #[.val (.int p0), .val (.int p1), .val (.int p2), .val (.int p3), .val (.int p4), .val (.int (0 : Int32)), .val (.int z6), .val (.int (1 : Int32)), .val (.int c8), .val (.int c9), .val (.int c10), .val (.int c11), .val (.ref ca), .val (.ref cb), .val .null, .unset, .unset, .unset] [(.int (1 : Int32))] := r818
      have r848 : W ([], none) h809 2 4 142 #[.val (.int p0), .val (.int p1), .val (.int p2), .val (.int p3), .val (.int p4), .val (.int (0 : Int32)), .val (.int z6), .val (.int (1 : Int32)), .val (.int c8), .val (.int c9), .val (.int c10), .val (.int c11), .val (.ref ca), .val (.ref cb), .val .null, .unset, .unset, .unset] [] := (H.ifNo at_139 r818 (feq (by decide)).1)
      obtain ⟨hlM, nm, bM, EM, XXM, XCM, XVM, XBM, rlM⟩ := H.ldcS (q := 0) (vs := []) (z := (0 : Int32)) (hw _ (List.mem_of_getElem? (i := 130) rfl)) wS (by show ¬ ("" ∈ ([] : List String)); decide) hh1 hcw ⟨by decide +kernel, by decide +kernel⟩ (by decide) (by first | rfl | decide | decide +kernel) (by decide +kernel) (by decide) (by decide) (by decide) at_142 r848
      have Z849 : Z.heap.size ≤ hlM.size := Nat.le_trans Z813 EM.1
      replace rlM : W ([""], some (21, nm)) hlM 4 8 144 #[.val (.int p0), .val (.int p1), .val (.int p2), .val (.int p3), .val (.int p4), .val (.int (0 : Int32)), .val (.int z6), .val (.int (1 : Int32)), .val (.int c8), .val (.int c9), .val (.int c10), .val (.int c11), .val (.ref ca), .val (.ref cb), .val .null, .unset, .unset, .unset] [(.ref nm)] := rlM
      have r850 : W ([""], some (21, nm)) hlM 4 8 156 #[.val (.int p0), .val (.int p1), .val (.int p2), .val (.int p3), .val (.int p4), .val (.int (0 : Int32)), .val (.int z6), .val (.int (1 : Int32)), .val (.int c8), .val (.int c9), .val (.int c10), .val (.int c11), .val (.ref ca), .val (.ref cb), .val .null, .unset, .unset, .unset] [(.ref nm)] := (H.goto (pc' := 156) at_144 rlM (by decide) (by decide))
      have F851 := (Old.start Z).ext E775
      have F852 := F851.wr w782 N778
      have F853 := F852.wr w788 N778
      have F854 := F853.ext E796
      have F855 := F854.wr w804 N800
      have F856 := F855.wr w810 N800
      have F857 := F856.ext EM
      exact tailN hw H p0 p1 p2 p3 p4 z6 (1 : Int32) c8 c9 c10 c11 ca cb nm bM _ g10 g11 (Or.inl ⟨rfl, rfl⟩) cs hcs S1 fm hfm S2 da S3 _ hlM Z849 F857 XXM XCM XVM XBM (H.more (by decide) (by decide) r850)
  · replace r815 : W ([], none) h809 2 4 109 #[.val (.int p0), .val (.int p1), .val (.int p2), .val (.int p3), .val (.int p4), .val (.int (1 : Int32)), .val (.int z6), .val (.int z7), .val (.int c8), .val (.int c9), .val (.int c10), .val (.int c11), .val (.ref ca), .val (.ref cb), .unset, .unset, .unset, .unset] [(.int (1 : Int32))] := r815
    have r858 : W ([], none) h809 2 4 112 #[.val (.int p0), .val (.int p1), .val (.int p2), .val (.int p3), .val (.int p4), .val (.int (1 : Int32)), .val (.int z6), .val (.int z7), .val (.int c8), .val (.int c9), .val (.int c10), .val (.int c11), .val (.ref ca), .val (.ref cb), .unset, .unset, .unset, .unset] [] := (H.ifNo at_109 r815 (feq (by decide)).1)
    have r859 : W ([], none) h809 2 4 114 #[.val (.int p0), .val (.int p1), .val (.int p2), .val (.int p3), .val (.int p4), .val (.int (1 : Int32)), .val (.int z6), .val (.int z7), .val (.int c8), .val (.int c9), .val (.int c10), .val (.int c11), .val (.ref ca), .val (.ref cb), .unset, .unset, .unset, .unset] [(.int z6)] := (H.iload at_112 r858 rfl)
    rcases hz6 with rfl | rfl
    · replace r859 : W ([], none) h809 2 4 114 #[.val (.int p0), .val (.int p1), .val (.int p2), .val (.int p3), .val (.int p4), .val (.int (1 : Int32)), .val (.int (0 : Int32)), .val (.int z7), .val (.int c8), .val (.int c9), .val (.int c10), .val (.int c11), .val (.ref ca), .val (.ref cb), .unset, .unset, .unset, .unset] [(.int (0 : Int32))] := r859
      have r860 : W ([], none) h809 2 4 122 #[.val (.int p0), .val (.int p1), .val (.int p2), .val (.int p3), .val (.int p4), .val (.int (1 : Int32)), .val (.int (0 : Int32)), .val (.int z7), .val (.int c8), .val (.int c9), .val (.int c10), .val (.int c11), .val (.ref ca), .val (.ref cb), .unset, .unset, .unset, .unset] [] := (H.ifYes (pc' := 122) at_114 r859 (by decide) (by decide) (teq (rfl : (0 : Int32) = 0)).1)
      have F861 := A789.ext E796
      have F862 := F861.other w804 ne799
      have F863 := F862.other w810 ne799
      obtain ⟨h864, sa, ea865, E866, X867, D868, U869, r870⟩ := H.newO (hw _ (List.mem_of_getElem? (i := 1) rfl)) (hw _ (List.mem_of_getElem? (i := 2) rfl)) (hw _ (List.mem_of_getElem? (i := 3) rfl)) (by decide) (by decide) at_122 r860
      have ne871 : ca ≠ sa := Nat.ne_of_lt (by rw [ea865]; exact F863.lt)
      have ne872 : cb ≠ sa := Nat.ne_of_lt (by rw [ea865]; exact A811.lt)
      have N873 : Z.heap.size ≤ sa := by rw [ea865]; exact Z813
      have Z874 : Z.heap.size ≤ h864.size := Nat.le_trans Z813 E866.1
      have G875 : Fld Z h864 sa "java/lang/String" "coder" "B" (.int 0) := D868 (ty := .byte) (Or.inr (hw _ (List.mem_of_getElem? (i := 27) rfl))) (by decide +kernel)
      have G876 : Fld Z h864 sa "java/lang/String" "value" "[B" (.null) := D868 (ty := (.array .byte)) (Or.inr (hw _ (List.mem_of_getElem? (i := 29) rfl))) (by decide +kernel)
      replace r870 : W ([], none) h864 3 8 125 #[.val (.int p0), .val (.int p1), .val (.int p2), .val (.int p3), .val (.int p4), .val (.int (1 : Int32)), .val (.int (0 : Int32)), .val (.int z7), .val (.int c8), .val (.int c9), .val (.int c10), .val (.int c11), .val (.ref ca), .val (.ref cb), .unset, .unset, .unset, .unset] [(.ref sa)] := r870
      have F877 := (Old.start Z).ext E775
      have F878 := F877.wr w782 N778
      have F879 := F878.wr w788 N778
      have F880 := F879.ext E796
      have F881 := F880.wr w804 N800
      have F882 := F881.wr w810 N800
      have F883 := F882.ext E866
      have F884 := F863.ext E866
      have r885 : W ([], none) h864 3 8 128 #[.val (.int p0), .val (.int p1), .val (.int p2), .val (.int p3), .val (.int p4), .val (.int (1 : Int32)), .val (.int (0 : Int32)), .val (.int z7), .val (.int c8), .val (.int c9), .val (.int c10), .val (.int c11), .val (.ref ca), .val (.ref cb), .unset, .unset, .unset, .unset] [(.ref ca), (.ref sa), (.ref sa)] := (H.aload at_126 (H.dup at_125 r870 rfl) rfl rfl)
      obtain ⟨_, hcA, ⟨rfl, KA, bA, NBA, YBA, XXA, XCA, XVA, XBA⟩, r886⟩ := H.callI (w := 1) (argsL := [(.ref ca)]) (rest := [(.ref sa)]) rfl (hw _ (List.mem_of_getElem? (i := 4) rfl)) (hw _ (List.mem_of_getElem? (i := 5) rfl)) (hw _ (List.mem_of_getElem? (i := 3) rfl)) (hw _ (List.mem_of_getElem? (i := 6) rfl)) (by decide) pd_15 (by decide) (by decide) (by decide) (by decide) (sc_ct hw sa ca c8 c9 g8 g9 cs hcs S1 h864 Z.heap.size Z874 N873 F883.2 X867 G875 G876 F884) (fun _ _ q => by first | exact q.2.1.1 | exact q.2.1) rfl rfl (Nat.le_of_eq rfl) rfl at_128 r885
      have Z887 : Z.heap.size ≤ hcA.size := Nat.le_trans Z874 KA.1
      replace r886 : W ([], none) hcA 4 10 131 #[.val (.int p0), .val (.int p1), .val (.int p2), .val (.int p3), .val (.int p4), .val (.int (1 : Int32)), .val (.int (0 : Int32)), .val (.int z7), .val (.int c8), .val (.int c9), .val (.int c10), .val (.int c11), .val (.ref ca), .val (.ref cb), .unset, .unset, .unset, .unset] [(.ref sa)] := r886
      have r888 : W ([], none) hcA 4 10 137 #[.val (.int p0), .val (.int p1), .val (.int p2), .val (.int p3), .val (.int p4), .val (.int (1 : Int32)), .val (.int (0 : Int32)), .val (.int z7), .val (.int c8), .val (.int c9), .val (.int c10), .val (.int c11), .val (.ref ca), .val (.ref cb), .val (.ref sa), .unset, .unset, .unset] [] := (H.astore at_135 (H.goto (pc' := 135) at_131 r886 (by decide) (by decide)) rfl rfl)
      have r889 : W ([], none) hcA 4 10 139 #[.val (.int p0), .val (.int p1), .val (.int p2), .val (.int p3), .val (.int p4), .val (.int (1 : Int32)), .val (.int (0 : Int32)), .val (.int z7), .val (.int c8), .val (.int c9), .val (.int c10), .val (.int c11), .val (.ref ca), .val (.ref cb), .val (.ref sa), .unset, .unset, .unset] [(.int z7)] := (H.iload at_137 r888 rfl)
      rcases hz7 with rfl | rfl
      · replace r889 : W ([], none) hcA 4 10 139 #[.val (.int p0), .val (.int p1), .val (.int p2), .val (.int p3), .val (.int p4), .val (.int (1 : Int32)), .val (.int (0 : Int32)), .val (.int (0 : Int32)), .val (.int c8), .val (.int c9), .val (.int c10), .val (.int c11), .val (.ref ca), .val (.ref cb), .val (.ref sa), .unset, .unset, .unset] [(.int (0 : Int32))] := r889
        have r890 : W ([], none) hcA 4 10 147 #[.val (.int p0), .val (.int p1), .val (.int p2), .val (.int p3), .val (.int p4), .val (.int (1 : Int32)), .val (.int (0 : Int32)), .val (.int (0 : Int32)), .val (.int c8), .val (.int c9), .val (.int c10), .val (.int c11), .val (.ref ca), .val (.ref cb), .val (.ref sa), .unset, .unset, .unset] [] := (H.ifYes (pc' := 147) at_139 r889 (by decide) (by decide) (teq (rfl : (0 : Int32) = 0)).1)
        have F891 := F884.keep KA (ninS ne871 nin0)
        have F892 := A811.ext E866
        have F893 := F892.keep KA (ninS ne872 nin0)
        obtain ⟨h894, nm, ea895, E896, X897, D898, U899, r900⟩ := H.newO (hw _ (List.mem_of_getElem? (i := 1) rfl)) (hw _ (List.mem_of_getElem? (i := 2) rfl)) (hw _ (List.mem_of_getElem? (i := 3) rfl)) (by decide) (by decide) at_147 r890
        have ne901 : ca ≠ nm := Nat.ne_of_lt (by rw [ea895]; exact F891.lt)
        have ne902 : cb ≠ nm := Nat.ne_of_lt (by rw [ea895]; exact F893.lt)
        have ne903 : sa ≠ nm := Nat.ne_of_lt (by rw [ea895]; exact XXA.lt)
        have ne904 : bA ≠ nm := Nat.ne_of_lt (by rw [ea895]; exact XBA.lt)
        have N905 : Z.heap.size ≤ nm := by rw [ea895]; exact Z887
        have Z906 : Z.heap.size ≤ h894.size := Nat.le_trans Z887 E896.1
        have G907 : Fld Z h894 nm "java/lang/String" "coder" "B" (.int 0) := D898 (ty := .byte) (Or.inr (hw _ (List.mem_of_getElem? (i := 27) rfl))) (by decide +kernel)
        have G908 : Fld Z h894 nm "java/lang/String" "value" "[B" (.null) := D898 (ty := (.array .byte)) (Or.inr (hw _ (List.mem_of_getElem? (i := 29) rfl))) (by decide +kernel)
        replace r900 : W ([], none) h894 5 14 150 #[.val (.int p0), .val (.int p1), .val (.int p2), .val (.int p3), .val (.int p4), .val (.int (1 : Int32)), .val (.int (0 : Int32)), .val (.int (0 : Int32)), .val (.int c8), .val (.int c9), .val (.int c10), .val (.int c11), .val (.ref ca), .val (.ref cb), .val (.ref sa), .unset, .unset, .unset] [(.ref nm)] := r900
        have F909 := F883.keep KA (allS N873 all0)
        have F910 := F909.ext E896
        have F911 := F893.ext E896
        have r912 : W ([], none) h894 5 14 153 #[.val (.int p0), .val (.int p1), .val (.int p2), .val (.int p3), .val (.int p4), .val (.int (1 : Int32)), .val (.int (0 : Int32)), .val (.int (0 : Int32)), .val (.int c8), .val (.int c9), .val (.int c10), .val (.int c11), .val (.ref ca), .val (.ref cb), .val (.ref sa), .unset, .unset, .unset] [(.ref cb), (.ref nm), (.ref nm)] := (H.aload at_151 (H.dup at_150 r900 rfl) rfl rfl)
        obtain ⟨_, hcM, ⟨rfl, KM, bM, NBM, YBM, XXM, XCM, XVM, XBM⟩, r913⟩ := H.callI (w := 1) (argsL := [(.ref cb)]) (rest := [(.ref nm)]) rfl (hw _ (List.mem_of_getElem? (i := 4) rfl)) (hw _ (List.mem_of_getElem? (i := 5) rfl)) (hw _ (List.mem_of_getElem? (i := 3) rfl)) (hw _ (List.mem_of_getElem? (i := 6) rfl)) (by decide) pd_15 (by decide) (by decide) (by decide) (by decide) (sc_ct hw nm cb c10 c11 g10 g11 cs hcs S1 h894 Z.heap.size Z906 N905 F910.2 X897 G907 G908 F911) (fun _ _ q => by first | exact q.2.1.1 | exact q.2.1) rfl rfl (Nat.le_of_eq rfl) rfl at_153 r912
        have Z914 : Z.heap.size ≤ hcM.size := Nat.le_trans Z906 KM.1
        replace r913 : W ([], none) hcM 6 16 156 #[.val (.int p0), .val (.int p1), .val (.int p2), .val (.int p3), .val (.int p4), .val (.int (1 : Int32)), .val (.int (0 : Int32)), .val (.int (0 : Int32)), .val (.int c8), .val (.int c9), .val (.int c10), .val (.int c11), .val (.ref ca), .val (.ref cb), .val (.ref sa), .unset, .unset, .unset] [(.ref nm)] := r913
        have F915 := F910.keep KM (allS N905 all0)
        have F916 := Exa.ext E896 XXA
        have F917 := F916.keep KM
        have F918 := Fld.ext E896 XCA
        have F919 := F918.keep KM (ninS ne903 nin0)
        have F920 := Fld.ext E896 XVA
        have F921 := F920.keep KM (ninS ne903 nin0)
        have F922 := XBA.ext E896
        have F923 := F922.keep KM (ninS ne904 nin0)
        exact tailA hw H p0 p1 p2 p3 p4 (0 : Int32) (0 : Int32) c8 c9 c10 c11 ca cb sa nm bA _ g8 g9 (Or.inr ⟨rfl, rfl⟩) cs hcs S1 fm hfm S2 da S3 _ hcM Z914 F915 F917 F919 F921 F923 (H.more (by decide) (by decide) r913)
      · replace r889 : W ([], none) hcA 4 10 139 #[.val (.int p0), .val (.int p1), .val (.int p2), .val (.int p3), .val (.int p4), .val (.int (1 : Int32)), .val (.int (0 : Int32)), .val (.int (1 : Int32)), .val (.int c8), .val (.int c9), .val (.int c10), .val (.int c11), .val (.ref ca), .val (.ref cb), .val (.ref sa), .unset, .unset, .unset] [(.int (1 : Int32))] := r889
        have r924 : W ([], none) hcA 4 10 142 #[.val (.int p0), .val (.int p1), .val (.int p2), .val (.int p3), .val (.int p4), .val (.int (1 : Int32)), .val (.int (0 : Int32)), .val (.int (1 : Int32)), .val (.int c8), .val (.int c9), .val (.int c10), .val (.int c11), .val (.ref ca), .val (.ref cb), .val (.ref sa), .unset, .unset, .unset] [] := (H.ifNo at_139 r889 (feq (by decide)).1)
        obtain ⟨hlM, nm, bM, EM, XXM, XCM, XVM, XBM, rlM⟩ := H.ldcS (q := 0) (vs := []) (z := (0 : Int32)) (hw _ (List.mem_of_getElem? (i := 130) rfl)) wS (by show ¬ ("" ∈ ([] : List String)); decide) hh1 hcw ⟨by decide +kernel, by decide +kernel⟩ (by decide) (by first | rfl | decide | decide +kernel) (by decide +kernel) (by decide) (by decide) (by decide) at_142 r924
        have Z925 : Z.heap.size ≤ hlM.size := Nat.le_trans Z887 EM.1
        replace rlM : W ([""], some (21, nm)) hlM 6 14 144 #[.val (.int p0), .val (.int p1), .val (.int p2), .val (.int p3), .val (.int p4), .val (.int (1 : Int32)), .val (.int (0 : Int32)), .val (.int (1 : Int32)), .val (.int c8), .val (.int c9), .val (.int c10), .val (.int c11), .val (.ref ca), .val (.ref cb), .val (.ref sa), .unset, .unset, .unset] [(.ref nm)] := rlM
        have r926 : W ([""], some (21, nm)) hlM 6 14 156 #[.val (.int p0), .val (.int p1), .val (.int p2), .val (.int p3), .val (.int p4), .val (.int (1 : Int32)), .val (.int (0 : Int32)), .val (.int (1 : Int32)), .val (.int c8), .val (.int c9), .val (.int c10), .val (.int c11), .val (.ref ca), .val (.ref cb), .val (.ref sa), .unset, .unset, .unset] [(.ref nm)] := (H.goto (pc' := 156) at_144 rlM (by decide) (by decide))
        have F927 := F883.keep KA (allS N873 all0)
        have F928 := F927.ext EM
        have F929 := Exa.ext EM XXA
        have F930 := Fld.ext EM XCA
        have F931 := Fld.ext EM XVA
        have F932 := XBA.ext EM
        exact tailA hw H p0 p1 p2 p3 p4 (0 : Int32) (1 : Int32) c8 c9 c10 c11 ca cb sa nm bA _ g8 g9 (Or.inr ⟨rfl, rfl⟩) cs hcs S1 fm hfm S2 da S3 _ hlM Z925 F928 F929 F930 F931 F932 (H.more (by decide) (by decide) r926)
    · replace r859 : W ([], none) h809 2 4 114 #[.val (.int p0), .val (.int p1), .val (.int p2), .val (.int p3), .val (.int p4), .val (.int (1 : Int32)), .val (.int (1 : Int32)), .val (.int z7), .val (.int c8), .val (.int c9), .val (.int c10), .val (.int c11), .val (.ref ca), .val (.ref cb), .unset, .unset, .unset, .unset] [(.int (1 : Int32))] := r859
      have r933 : W ([], none) h809 2 4 117 #[.val (.int p0), .val (.int p1), .val (.int p2), .val (.int p3), .val (.int p4), .val (.int (1 : Int32)), .val (.int (1 : Int32)), .val (.int z7), .val (.int c8), .val (.int c9), .val (.int c10), .val (.int c11), .val (.ref ca), .val (.ref cb), .unset, .unset, .unset, .unset] [] := (H.ifNo at_114 r859 (feq (by decide)).1)
      obtain ⟨hlA, sa, bA, EA, XXA, XCA, XVA, XBA, rlA⟩ := H.ldcS (q := 0) (vs := []) (z := (0 : Int32)) (hw _ (List.mem_of_getElem? (i := 130) rfl)) wS (by show ¬ ("" ∈ ([] : List String)); decide) hh1 hcw ⟨by decide +kernel, by decide +kernel⟩ (by decide) (by first | rfl | decide | decide +kernel) (by decide +kernel) (by decide) (by decide) (by decide) at_117 r933
      have Z934 : Z.heap.size ≤ hlA.size := Nat.le_trans Z813 EA.1
      replace rlA : W ([""], some (21, sa)) hlA 4 8 119 #[.val (.int p0), .val (.int p1), .val (.int p2), .val (.int p3), .val (.int p4), .val (.int (1 : Int32)), .val (.int (1 : Int32)), .val (.int z7), .val (.int c8), .val (.int c9), .val (.int c10), .val (.int c11), .val (.ref ca), .val (.ref cb), .unset, .unset, .unset, .unset] [(.ref sa)] := rlA
      have r935 : W ([""], some (21, sa)) hlA 4 8 137 #[.val (.int p0), .val (.int p1), .val (.int p2), .val (.int p3), .val (.int p4), .val (.int (1 : Int32)), .val (.int (1 : Int32)), .val (.int z7), .val (.int c8), .val (.int c9), .val (.int c10), .val (.int c11), .val (.ref ca), .val (.ref cb), .val (.ref sa), .unset, .unset, .unset] [] := (H.astore at_135 (H.goto (pc' := 135) at_119 rlA (by decide) (by decide)) rfl rfl)
      have r936 : W ([""], some (21, sa)) hlA 4 8 139 #[.val (.int p0), .val (.int p1), .val (.int p2), .val (.int p3), .val (.int p4), .val (.int (1 : Int32)), .val (.int (1 : Int32)), .val (.int z7), .val (.int c8), .val (.int c9), .val (.int c10), .val (.int c11), .val (.ref ca), .val (.ref cb), .val (.ref sa), .unset, .unset, .unset] [(.int z7)] := (H.iload at_137 r935 rfl)
      rcases hz7 with rfl | rfl
      · replace r936 : W ([""], some (21, sa)) hlA 4 8 139 #[.val (.int p0), .val (.int p1), .val (.int p2), .val (.int p3), .val (.int p4), .val (.int (1 : Int32)), .val (.int (1 : Int32)), .val (.int (0 : Int32)), .val (.int c8), .val (.int c9), .val (.int c10), .val (.int c11), .val (.ref ca), .val (.ref cb), .val (.ref sa), .unset, .unset, .unset] [(.int (0 : Int32))] := r936
        have r937 : W ([""], some (21, sa)) hlA 4 8 147 #[.val (.int p0), .val (.int p1), .val (.int p2), .val (.int p3), .val (.int p4), .val (.int (1 : Int32)), .val (.int (1 : Int32)), .val (.int (0 : Int32)), .val (.int c8), .val (.int c9), .val (.int c10), .val (.int c11), .val (.ref ca), .val (.ref cb), .val (.ref sa), .unset, .unset, .unset] [] := (H.ifYes (pc' := 147) at_139 r936 (by decide) (by decide) (teq (rfl : (0 : Int32) = 0)).1)
        have F938 := A789.ext E796
        have F939 := F938.other w804 ne799
        have F940 := F939.other w810 ne799
        have F941 := F940.ext EA
        have F942 := A811.ext EA
        obtain ⟨h943, nm, ea944, E945, X946, D947, U948, r949⟩ := H.newO (hw _ (List.mem_of_getElem? (i := 1) rfl)) (hw _ (List.mem_of_getElem? (i := 2) rfl)) (hw _ (List.mem_of_getElem? (i := 3) rfl)) (by decide) (by decide) at_147 r937
        have ne950 : ca ≠ nm := Nat.ne_of_lt (by rw [ea944]; exact F941.lt)
        have ne951 : cb ≠ nm := Nat.ne_of_lt (by rw [ea944]; exact F942.lt)
        have ne952 : sa ≠ nm := Nat.ne_of_lt (by rw [ea944]; exact XXA.lt)
        have ne953 : bA ≠ nm := Nat.ne_of_lt (by rw [ea944]; exact XBA.lt)
        have N954 : Z.heap.size ≤ nm := by rw [ea944]; exact Z934
        have Z955 : Z.heap.size ≤ h943.size := Nat.le_trans Z934 E945.1
        have G956 : Fld Z h943 nm "java/lang/String" "coder" "B" (.int 0) := D947 (ty := .byte) (Or.inr (hw _ (List.mem_of_getElem? (i := 27) rfl))) (by decide +kernel)
        have G957 : Fld Z h943 nm "java/lang/String" "value" "[B" (.null) := D947 (ty := (.array .byte)) (Or.inr (hw _ (List.mem_of_getElem? (i := 29) rfl))) (by decide +kernel)
        replace r949 : W ([""], some (21, sa)) h943 5 12 150 #[.val (.int p0), .val (.int p1), .val (.int p2), .val (.int p3), .val (.int p4), .val (.int (1 : Int32)), .val (.int (1 : Int32)), .val (.int (0 : Int32)), .val (.int c8), .val (.int c9), .val (.int c10), .val (.int c11), .val (.ref ca), .val (.ref cb), .val (.ref sa), .unset, .unset, .unset] [(.ref nm)] := r949
        have F958 := (Old.start Z).ext E775
        have F959 := F958.wr w782 N778
        have F960 := F959.wr w788 N778
        have F961 := F960.ext E796
        have F962 := F961.wr w804 N800
        have F963 := F962.wr w810 N800
        have F964 := F963.ext EA
        have F965 := F964.ext E945
        have F966 := F942.ext E945
        have r967 : W ([""], some (21, sa)) h943 5 12 153 #[.val (.int p0), .val (.int p1), .val (.int p2), .val (.int p3), .val (.int p4), .val (.int (1 : Int32)), .val (.int (1 : Int32)), .val (.int (0 : Int32)), .val (.int c8), .val (.int c9), .val (.int c10), .val (.int c11), .val (.ref ca), .val (.ref cb), .val (.ref sa), .unset, .unset, .unset] [(.ref cb), (.ref nm), (.ref nm)] := (H.aload at_151 (H.dup at_150 r949 rfl) rfl rfl)
        obtain ⟨_, hcM, ⟨rfl, KM, bM, NBM, YBM, XXM, XCM, XVM, XBM⟩, r968⟩ := H.callI (w := 1) (argsL := [(.ref cb)]) (rest := [(.ref nm)]) rfl (hw _ (List.mem_of_getElem? (i := 4) rfl)) (hw _ (List.mem_of_getElem? (i := 5) rfl)) (hw _ (List.mem_of_getElem? (i := 3) rfl)) (hw _ (List.mem_of_getElem? (i := 6) rfl)) (by decide) pd_15 (by decide) (by decide) (by decide) (by decide) (sc_ct hw nm cb c10 c11 g10 g11 cs hcs S1 h943 Z.heap.size Z955 N954 F965.2 X946 G956 G957 F966) (fun _ _ q => by first | exact q.2.1.1 | exact q.2.1) rfl rfl (Nat.le_of_eq rfl) rfl at_153 r967
        have Z969 : Z.heap.size ≤ hcM.size := Nat.le_trans Z955 KM.1
        replace r968 : W ([""], some (21, sa)) hcM 6 14 156 #[.val (.int p0), .val (.int p1), .val (.int p2), .val (.int p3), .val (.int p4), .val (.int (1 : Int32)), .val (.int (1 : Int32)), .val (.int (0 : Int32)), .val (.int c8), .val (.int c9), .val (.int c10), .val (.int c11), .val (.ref ca), .val (.ref cb), .val (.ref sa), .unset, .unset, .unset] [(.ref nm)] := r968
        have F970 := F965.keep KM (allS N954 all0)
        have F971 := Exa.ext E945 XXA
        have F972 := F971.keep KM
        have F973 := Fld.ext E945 XCA
        have F974 := F973.keep KM (ninS ne952 nin0)
        have F975 := Fld.ext E945 XVA
        have F976 := F975.keep KM (ninS ne952 nin0)
        have F977 := XBA.ext E945
        have F978 := F977.keep KM (ninS ne953 nin0)
        exact tailA hw H p0 p1 p2 p3 p4 (1 : Int32) (0 : Int32) c8 c9 c10 c11 ca cb sa nm bA _ g8 g9 (Or.inl ⟨rfl, rfl⟩) cs hcs S1 fm hfm S2 da S3 _ hcM Z969 F970 F972 F974 F976 F978 (H.more (by decide) (by decide) r968)
      · replace r936 : W ([""], some (21, sa)) hlA 4 8 139 #[.val (.int p0), .val (.int p1), .val (.int p2), .val (.int p3), .val (.int p4), .val (.int (1 : Int32)), .val (.int (1 : Int32)), .val (.int (1 : Int32)), .val (.int c8), .val (.int c9), .val (.int c10), .val (.int c11), .val (.ref ca), .val (.ref cb), .val (.ref sa), .unset, .unset, .unset] [(.int (1 : Int32))] := r936
        have r979 : W ([""], some (21, sa)) hlA 4 8 142 #[.val (.int p0), .val (.int p1), .val (.int p2), .val (.int p3), .val (.int p4), .val (.int (1 : Int32)), .val (.int (1 : Int32)), .val (.int (1 : Int32)), .val (.int c8), .val (.int c9), .val (.int c10), .val (.int c11), .val (.ref ca), .val (.ref cb), .val (.ref sa), .unset, .unset, .unset] [] := (H.ifNo at_139 r936 (feq (by decide)).1)
        have r980 : W ([""], some (21, sa)) hlA 4 8 144 #[.val (.int p0), .val (.int p1), .val (.int p2), .val (.int p3), .val (.int p4), .val (.int (1 : Int32)), .val (.int (1 : Int32)), .val (.int (1 : Int32)), .val (.int c8), .val (.int c9), .val (.int c10), .val (.int c11), .val (.ref ca), .val (.ref cb), .val (.ref sa), .unset, .unset, .unset] [(.ref sa)] := H.ldcAgain (hw _ (List.mem_of_getElem? (i := 130) rfl)) rfl at_142 r979
        have r981 : W ([""], some (21, sa)) hlA 4 8 156 #[.val (.int p0), .val (.int p1), .val (.int p2), .val (.int p3), .val (.int p4), .val (.int (1 : Int32)), .val (.int (1 : Int32)), .val (.int (1 : Int32)), .val (.int c8), .val (.int c9), .val (.int c10), .val (.int c11), .val (.ref ca), .val (.ref cb), .val (.ref sa), .unset, .unset, .unset] [(.ref sa)] := (H.goto (pc' := 156) at_144 r980 (by decide) (by decide))
        have F982 := (Old.start Z).ext E775
        have F983 := F982.wr w782 N778
        have F984 := F983.wr w788 N778
        have F985 := F984.ext E796
        have F986 := F985.wr w804 N800
        have F987 := F986.wr w810 N800
        have F988 := F987.ext EA
        exact tailA hw H p0 p1 p2 p3 p4 (1 : Int32) (1 : Int32) c8 c9 c10 c11 ca cb sa sa bA _ g8 g9 (Or.inl ⟨rfl, rfl⟩) cs hcs S1 fm hfm S2 da S3 _ hlA Z934 F988 XXA XCA XVA XBA (H.more (by decide) (by decide) r981)
set_option maxRecDepth 65536 in
set_option maxHeartbeats 40000000 in
theorem comes_1 {Post : Tables → Env → Array Value → State → Outcome → State → Prop} (hpost : ∀ tb e args s v u, (limb_1_1.after args s (.returned v) u = true ∧ limb_1_2.after args s (.returned v) u = true ∧ True) → FramedW s (.returned v) u (Jvm.fieldLocs frame_1_writes args s ++ Jvm.arrayLocs frame_1_arrays args s ++ Jvm.staticLocs frame_1_statics s) 32 1216 → Post tb e args s (.returned v) u) :
    ArmFor flags0 classFile x code maxLocals ret World_1 tables_1 room_1 Calls_1 rest_1 Pre_1 Post := by
  intro l hfl _ _ p e ha hc hk s m args below hf hA hF happ hP
  obtain ⟨hcalls, hrest, hpre⟩ := hP
  obtain ⟨-, -, -, hnamed, -, -, -, hat⟩ := (Spec.applies_iff hf).mp happ
  obtain ⟨hg, hn⟩ := and_e (Cond.before_iff.mp (show (Jvm.Cond.and given_1 narrow_1).before args s = true from hpre))
  obtain ⟨hcnt, hg0⟩ := and_e hg
  obtain ⟨ha0, hg1⟩ := and_e hg0
  obtain ⟨ha1, hg2⟩ := and_e hg1
  obtain ⟨ha2, hg3⟩ := and_e hg2
  obtain ⟨ha3, hg4⟩ := and_e hg3
  obtain ⟨w0, w1, w2, w3, w4, rfl⟩ : ∃ w0 w1 w2 w3 w4 : Value, args = #[w0, w1, w2, w3, w4] := by
    have hs : args.size = 5 := by simpa [Cond.value, given_1] using hcnt
    obtain ⟨L⟩ := args
    match L, hs with
    | [w0, w1, w2, w3, w4], _ => exact ⟨w0, w1, w2, w3, w4, rfl⟩
  have hw := fun d (hd : d ∈ tables_1) => atoms_spec (ws := Jvm.Cond.code x code maxLocals ret :: tables_1) hat d (List.mem_cons_of_mem _ hd)
  have hfit : Fit s := fun {y c} hc i hi => by
    obtain ⟨ha, rfl⟩ := Array.getElem?_eq_some_iff.mp hc
    have q := List.all_eq_true.mp ((Array.all_eq_true_iff_forall_mem.mp hF) _ (Array.getElem_mem ha)) i (List.mem_range.mpr hi)
    simpa [Array.getElem?_eq_getElem hi] using q
  obtain ⟨i0, ei0⟩ := is_v ha0
  obtain rfl : w0 = (.int i0) := Option.some.inj ei0
  obtain ⟨i1, ei1⟩ := is_v ha1
  obtain rfl : w1 = (.int i1) := Option.some.inj ei1
  obtain ⟨i2, ei2⟩ := is_v ha2
  obtain rfl : w2 = (.int i2) := Option.some.inj ei2
  obtain ⟨i3, ei3⟩ := is_v ha3
  obtain rfl : w3 = (.int i3) := Option.some.inj ei3
  obtain ⟨i4, ei4⟩ := is_v hg4
  obtain rfl : w4 = (.int i4) := Option.some.inj ei4
  obtain ⟨hsets, hown0⟩ := atoms_of _ (rest_1_c_eq ▸ (show rest_1_c.before _ s = true from hrest))
  have hr0 := Cond.before_iff.mp hown0
  have n5 := not_v (Cond.before_iff.mp (hsets _ (List.mem_of_getElem? (i := 2) rfl)))
  obtain ⟨cs, ecs⟩ := is_v (Cond.before_iff.mp (hsets _ (List.mem_of_getElem? (i := 1) rfl)))
  have S1 : Sta s s.heap "java/lang/String" "COMPACT_STRINGS" "Z" (.int cs) := Sta.start ecs (Or.inl (hsets _ (List.mem_of_getElem? (i := 0) rfl)))
  obtain ⟨fm, efm, hfm⟩ := isR_v (Cond.before_iff.mp (hsets _ (List.mem_of_getElem? (i := 8) rfl)))
  have S2 : Sta s s.heap "jdk/internal/util/Preconditions" "SIOOBE_FORMATTER" "Ljava/util/function/BiFunction;" fm := Sta.start efm (Or.inl (hsets _ (List.mem_of_getElem? (i := 7) rfl)))
  have hcs : ¬ (cs = (0 : Int32)) := gotF (Cond.eq_ints ecs (Term.int_eval (0))) n5
  obtain ⟨da, eda⟩ := arr_v (Cond.before_iff.mp (hsets _ (List.mem_of_getElem? (i := 15) rfl)))
  have S3 : Sta s s.heap "java/util/ArrayList" "DEFAULTCAPACITY_EMPTY_ELEMENTDATA" "[Ljava/lang/Object;" (.ref da) := Sta.start eda (Or.inr ⟨(hw _ (List.mem_of_getElem? (i := 51) rfl)), hsets _ (List.mem_of_getElem? (i := 11) rfl)⟩)
  have wS : ∀ a ∈ Bundle.stringAtoms, a.before #[.int i0, .int i1, .int i2, .int i3, .int i4] s = true := by
    intro a ha
    simp only [Bundle.stringAtoms, List.mem_cons, List.not_mem_nil, or_false] at ha
    rcases ha with rfl | rfl | rfl | rfl | rfl | rfl | rfl <;> first | exact (hw _ (List.mem_of_getElem? (i := 2) rfl)) | exact (hw _ (List.mem_of_getElem? (i := 3) rfl)) | exact (hw _ (List.mem_of_getElem? (i := 19) rfl)) | exact (hw _ (List.mem_of_getElem? (i := 27) rfl)) | exact (hw _ (List.mem_of_getElem? (i := 29) rfl)) | exact (hw _ (List.mem_of_getElem? (i := 131) rfl)) | exact (hw _ (List.mem_of_getElem? (i := 132) rfl))
  have hcw : Jvm.Lit.compactW.before #[.int i0, .int i1, .int i2, .int i3, .int i4] s = true := hsets _ (List.mem_of_getElem? (i := 2) rfl)
  have hheld : ∀ p ∈ consts_1, Jvm.Lit.constHeld s p.1 p.2 := hcalls.1
  have hh1 : Jvm.Lit.constHeld s "com/example/resolvent/resolvent/FieldResponseKeyPinLaw" 21 := hheld ("com/example/resolvent/resolvent/FieldResponseKeyPinLaw", 21) (by simp [consts_1])
  obtain ⟨n, o, h1, h2, h3, _, L, rfl, ⟨rfl, N⟩, hq⟩ := law_ct (l := l) hw i0 i1 i2 i3 i4 cs hcs S1 fm hfm S2 da S3 wS hh1 hcw tables_1 p e ha hc hk s m _ below hf ((Spec.applies_iff_loose hf).mp happ).1 ⟨rfl, State.Warmed39.refl s, rfl, IB.start⟩ trivial
  refine ⟨n, _, h1, h2, h3, hpost _ _ _ _ _ _ ⟨Cond.after_iff.mpr rfl, Cond.after_iff.mpr (eq_i res_at (Term.int_eval (1)) rfl), trivial⟩ ⟨hq.1, hq.2.1, hq.2.2.1, (hq.2.2.2.sift fun y hy => Or.inr (N y hy)).mono (by decide) (by decide)⟩⟩
theorem main_1_1 : Claimed_1_1 := comes_1 fun _ _ _ _ _ _ h hF => ⟨h.1, hF⟩
theorem main_1_2 : Claimed_1_2 := comes_1 fun _ _ _ _ _ _ h hF => ⟨h.2.1, hF⟩
end Jvm.Pilot.@@N@@
namespace Jvm.Pilot.@@N@@
open Jvm Jvm.ClassFile Sem Op Lib Jvm.Free Jvm.Stand Jvm.Pilot.@@N@@.Jvm.D
/-! MADE BY PROGRAM (witnessworld.py) out of the Statement's table words and the real class files: 32 classes; the members and pool entries that the words name. The judged class is class 1, her method 2. -/
namespace start1
open Jvm.ClassFile
def u (s : String) : CpInfo := .utf8 (stringToUtf16 s)
/-- a pool by its gaps: so many unusable entries, then the entry; so many at the end -/
def gap : Nat → List CpInfo → List CpInfo
  | 0, r => r
  | n + 1, r => .unusable :: gap n r
def poolList (es : List (Nat × CpInfo)) (last : Nat) : List CpInfo := es.foldr (fun e r => gap e.1 (e.2 :: r)) (gap last [])
def pool (es : List (Nat × CpInfo)) (last : Nat) : Array CpInfo := ⟨poolList es last⟩
def fileOf (pool : Array CpInfo) (this : Nat) (attrs : Array Attribute := #[]) (ms : Array MethodInfo := #[]) (fl : Nat := 33) (sup : Nat := 0) (ifs : Array Nat := #[]) (fds : Array FieldInfo := #[]) : ClassFile where
  minorVersion := 0
  majorVersion := 65
  constantPool := pool
  accessFlags := fl
  thisClass := this
  superClass := sup
  interfaces := ifs
  fields := fds
  methods := ms
  attributes := attrs
def plain (name : String) (sup : Option ClassId) : Class where
  name := name
  kind := .ordinary
  loader := none
  accessFlags := 33
  super := sup
  interfaces := #[]
  cf := none
  fields := #[]
  methods := #[]
  instanceTypes := #[]
  staticTypes := #[]
  resolved := #[]
  callSites := []
  init := .initialized
  statics := none
  mirror := none

def pool0 : Array CpInfo := pool [(5, u "<init>"), (0, u "()V"), (1, .class_ 10), (1, u "java/lang/Object")] 113

def k0c0 : Code := { maxStack := 0, maxLocals := 1, code := object_method_1_code, exceptionTable := #[], attributes := #[] }
def k0m0 : Method := { name := "<init>", desc := "()V", sig := { parameters := [], returnType := none }, accessFlags := 1, code := some k0c0 }
/-- java/lang/Object -/
def k0 : Class := { plain "java/lang/Object" none with
  accessFlags := 33
  interfaces := #[]
  cf := some (fileOf pool0 8 #[] #[{ accessFlags := 1, nameIndex := 5, descriptorIndex := 6, attributes := #[] }] 33 0 #[] #[])
  fields := #[]
  methods := #[k0m0]
  instanceTypes := #[]
  staticTypes := #[]
  resolved := Array.replicate 124 none
  statics := none }

def pool1 : Array CpInfo := pool [(2, .class_ 4), (0, .nameAndType 5 6), (0, u "java/lang/Object"), (0, u "<init>"), (0, u "()V"), (0, .methodref 8 9), (0, .class_ 10), (0, .nameAndType 11 12), (0, u "java/lang/String"), (0, u "isEmpty"), (0, u "()Z"), (0, .methodref 8 14), (0, .nameAndType 15 16), (0, u "length"), (0, u "()I"), (0, .methodref 8 18), (0, .nameAndType 19 20), (0, u "charAt"), (0, u "(I)C"), (0, .string 22), (0, u ""), (0, .methodref 8 24), (0, .nameAndType 5 25), (0, u "([C)V"), (0, .class_ 27), (0, u "com/example/resolvent/resolvent/Ast$Field"), (0, .class_ 29), (0, u "com/example/resolvent/resolvent/SourceLocation"), (0, .methodref 28 31), (0, .nameAndType 5 32), (0, u "(II)V"), (0, .class_ 34), (0, u "java/util/ArrayList"), (0, .methodref 33 3), (0, .methodref 26 37), (0, .nameAndType 5 38), (0, u "(Lcom/example/resolvent/resolvent/SourceLocation;Ljava/lang/String;Ljava/lang/String;Ljava/util/List;Ljava/util/List;Ljava/util/List;)V"), (0, .methodref 26 40), (0, .nameAndType 41 42), (0, u "responseKey"), (0, u "()Ljava/lang/String;"), (0, .methodref 44 45), (0, .class_ 46), (0, .nameAndType 47 48), (0, u "com/example/resolvent/resolvent/FieldResponseKeyPinLaw"), (0, u "sameAs"), (0, u "(Ljava/lang/String;ZCC)Z"), (3, u "law"), (0, u "(IIIII)Z")] 8

def k1m0 : Method := { name := "<init>", desc := "()V", sig := { parameters := [], returnType := none }, accessFlags := 2, code := none }
def k1c1 : Code := { maxStack := 2, maxLocals := 4, code := method_2_code, exceptionTable := #[], attributes := #[] }
def k1m1 : Method := { name := "sameAs", desc := "(Ljava/lang/String;ZCC)Z", sig := { parameters := [(.object "java/lang/String"), .boolean, .char, .char], returnType := some .boolean }, accessFlags := 10, code := some k1c1 }
def k1c2 : Code := { maxStack := 9, maxLocals := 18, code := code, exceptionTable := #[], attributes := #[] }
def k1m2 : Method := { name := "law", desc := "(IIIII)Z", sig := { parameters := [.int, .int, .int, .int, .int], returnType := some .boolean }, accessFlags := 9, code := some k1c2 }
/-- com/example/resolvent/resolvent/FieldResponseKeyPinLaw -/
def k1 : Class := { plain "com/example/resolvent/resolvent/FieldResponseKeyPinLaw" (some 0) with
  accessFlags := 49
  interfaces := #[]
  cf := some (fileOf pool1 44 #[] #[{ accessFlags := 2, nameIndex := 5, descriptorIndex := 6, attributes := #[] }, { accessFlags := 10, nameIndex := 47, descriptorIndex := 48, attributes := #[] }, { accessFlags := 9, nameIndex := 52, descriptorIndex := 53, attributes := #[] }] 49 2 #[] #[])
  fields := #[]
  methods := #[k1m0, k1m1, k1m2]
  instanceTypes := #[]
  staticTypes := #[]
  resolved := Array.replicate 62 none
  statics := none }

def pool2 : Array CpInfo := pool [(1, .class_ 2), (0, u "java/io/Serializable"), (0, .class_ 4), (0, u "java/lang/Object")] 2

/-- java/io/Serializable -/
def k2 : Class := { plain "java/io/Serializable" (some 0) with
  accessFlags := 1537
  interfaces := #[]
  cf := some (fileOf pool2 1 #[] #[] 1537 3 #[] #[])
  fields := #[]
  methods := #[]
  instanceTypes := #[]
  staticTypes := #[]
  resolved := Array.replicate 7 none
  statics := none }

def pool3 : Array CpInfo := pool [(1, .class_ 2), (0, u "java/lang/Comparable"), (0, .class_ 4), (0, u "java/lang/Object")] 7

/-- java/lang/Comparable -/
def k3 : Class := { plain "java/lang/Comparable" (some 0) with
  accessFlags := 1537
  interfaces := #[]
  cf := some (fileOf pool3 1 #[] #[] 1537 3 #[] #[])
  fields := #[]
  methods := #[]
  instanceTypes := #[]
  staticTypes := #[]
  resolved := Array.replicate 12 none
  statics := none }

def pool4 : Array CpInfo := pool [(2, .class_ 4), (1, u "java/lang/CharSequence"), (42, .class_ 48), (0, u "java/lang/CharSequence$1CodePointIterator"), (10, .class_ 60), (0, u "java/lang/CharSequence$1CharIterator"), (5, .class_ 67), (0, u "java/lang/Object")] 63

/-- java/lang/CharSequence -/
def k4 : Class := { plain "java/lang/CharSequence" (some 0) with
  accessFlags := 1537
  interfaces := #[]
  cf := some (fileOf pool4 2 #[.nestMembers #[47, 59]] #[] 1537 66 #[] #[])
  fields := #[]
  methods := #[]
  instanceTypes := #[]
  staticTypes := #[]
  resolved := Array.replicate 131 none
  statics := none }

def pool5 : Array CpInfo := pool [(1, .class_ 2), (0, u "java/lang/constant/Constable"), (0, .class_ 4), (0, u "java/lang/Object")] 6

/-- java/lang/constant/Constable -/
def k5 : Class := { plain "java/lang/constant/Constable" (some 0) with
  accessFlags := 1537
  interfaces := #[]
  cf := some (fileOf pool5 1 #[] #[] 1537 3 #[] #[])
  fields := #[]
  methods := #[]
  instanceTypes := #[]
  staticTypes := #[]
  resolved := Array.replicate 11 none
  statics := none }

def pool6 : Array CpInfo := pool [(1, .class_ 2), (0, u "java/lang/constant/ConstantDesc"), (0, .class_ 4), (0, u "java/lang/Object")] 32

/-- java/lang/constant/ConstantDesc -/
def k6 : Class := { plain "java/lang/constant/ConstantDesc" (some 0) with
  accessFlags := 1537
  interfaces := #[]
  cf := some (fileOf pool6 1 #[] #[] 1537 3 #[] #[])
  fields := #[]
  methods := #[]
  instanceTypes := #[]
  staticTypes := #[]
  resolved := Array.replicate 37 none
  statics := none }

def pool7 : Array CpInfo := pool [(1, .methodref 2 3), (0, .class_ 4), (0, .nameAndType 5 6), (0, u "java/lang/Object"), (0, u "<init>"), (0, u "()V"), (2, .fieldref 10 11), (0, .class_ 12), (0, .nameAndType 13 14), (0, u "java/lang/String"), (0, u "value"), (0, u "[B"), (0, .fieldref 10 16), (0, .nameAndType 17 18), (0, u "coder"), (0, u "B"), (2, u "hash"), (0, u "I"), (2, u "hashIsZero"), (0, u "Z"), (0, .methodref 10 28), (0, .nameAndType 5 29), (0, u "([CIILjava/lang/Void;)V"), (8, .fieldref 10 39), (0, .nameAndType 40 26), (0, u "COMPACT_STRINGS"), (1, .class_ 44), (1, u "java/lang/StringUTF16"), (0, u "compress"), (1, .methodref 42 48), (0, .nameAndType 49 50), (0, u "coderFromArrayLen"), (0, u "([BI)B"), (56, .class_ 109), (1, u "java/lang/StringLatin1"), (32, u "()Z"), (34, .methodref 42 178), (0, .nameAndType 45 179), (0, u "([CII)[B"), (154, u "()I"), (0, .methodref 10 336), (0, .nameAndType 17 337), (0, u "()B"), (25, u "([BI)C"), (27, u "(II)V"), (35, u "(I)C"), (64, .methodref 10 493), (0, .nameAndType 494 142), (0, u "isLatin1"), (0, .methodref 107 496), (0, .nameAndType 497 363), (0, u "charAt"), (3, u "checkIndex"), (5, u "length"), (67, .class_ 576), (0, u "java/lang/CharSequence"), (22, u "CASE_INSENSITIVE_ORDER"), (0, u "Ljava/util/Comparator;"), (91, u "isEmpty"), (317, u "([C)V"), (42, .fieldref 1054 1055), (0, .class_ 1056), (0, .nameAndType 1057 1058), (0, u "jdk/internal/util/Preconditions"), (0, u "SIOOBE_FORMATTER"), (0, u "Ljava/util/function/BiFunction;"), (0, .methodref 1054 1060), (0, .nameAndType 501 1061), (0, u "(IILjava/util/function/BiFunction;)I"), (39, u "serialPersistentFields"), (0, u "[Ljava/io/ObjectStreamField;"), (0, .class_ 1104), (0, u "java/lang/String$CaseInsensitiveComparator"), (1, .class_ 1107), (0, u "java/io/Serializable"), (0, .class_ 1109), (0, u "java/lang/Comparable"), (0, .class_ 1111), (0, u "java/lang/constant/Constable"), (0, .class_ 1113), (0, u "java/lang/constant/ConstantDesc"), (2, u "serialVersionUID"), (0, u "J"), (3, u "REPL"), (0, u "C"), (2, u "LATIN1"), (1, u "UTF16")] 323

def k7m0 : Method := { name := "<init>", desc := "()V", sig := { parameters := [], returnType := none }, accessFlags := 1, code := none }
def k7c1 : Code := { maxStack := 5, maxLocals := 2, code := jdk_42_method_3_code, exceptionTable := #[], attributes := #[] }
def k7m1 : Method := { name := "<init>", desc := "([C)V", sig := { parameters := [(.array .char)], returnType := none }, accessFlags := 1, code := some k7c1 }
def k7c2 : Code := { maxStack := 2, maxLocals := 1, code := jdk_42_method_54_code, exceptionTable := #[], attributes := #[] }
def k7m2 : Method := { name := "length", desc := "()I", sig := { parameters := [], returnType := some .int }, accessFlags := 1, code := some k7c2 }
def k7c3 : Code := { maxStack := 1, maxLocals := 1, code := jdk_42_method_55_code, exceptionTable := #[], attributes := #[] }
def k7m3 : Method := { name := "isEmpty", desc := "()Z", sig := { parameters := [], returnType := some .boolean }, accessFlags := 1, code := some k7c3 }
def k7c4 : Code := { maxStack := 2, maxLocals := 2, code := jdk_42_method_56_code, exceptionTable := #[], attributes := #[] }
def k7m4 : Method := { name := "charAt", desc := "(I)C", sig := { parameters := [.int], returnType := some .char }, accessFlags := 1, code := some k7c4 }
def k7c5 : Code := { maxStack := 4, maxLocals := 6, code := jdk_42_method_149_code, exceptionTable := #[], attributes := #[] }
def k7m5 : Method := { name := "<init>", desc := "([CIILjava/lang/Void;)V", sig := { parameters := [(.array .char), .int, .int, (.object "java/lang/Void")], returnType := none }, accessFlags := 2, code := some k7c5 }
def k7c6 : Code := { maxStack := 1, maxLocals := 1, code := jdk_42_method_152_code, exceptionTable := #[], attributes := #[] }
def k7m6 : Method := { name := "coder", desc := "()B", sig := { parameters := [], returnType := some .byte }, accessFlags := 0, code := some k7c6 }
def k7c7 : Code := { maxStack := 1, maxLocals := 1, code := jdk_42_method_154_code, exceptionTable := #[], attributes := #[] }
def k7m7 : Method := { name := "isLatin1", desc := "()Z", sig := { parameters := [], returnType := some .boolean }, accessFlags := 0, code := some k7c7 }
def k7c8 : Code := { maxStack := 3, maxLocals := 2, code := jdk_42_method_155_code, exceptionTable := #[], attributes := #[] }
def k7m8 : Method := { name := "checkIndex", desc := "(II)V", sig := { parameters := [.int, .int], returnType := none }, accessFlags := 8, code := some k7c8 }
/-- java/lang/String -/
def k7 : Class := { plain "java/lang/String" (some 0) with
  accessFlags := 49
  interfaces := #[2, 3, 4, 5, 6]
  cf := some (fileOf pool7 10 #[.nestMembers #[1103]] #[{ accessFlags := 1, nameIndex := 5, descriptorIndex := 6, attributes := #[] }, { accessFlags := 1, nameIndex := 5, descriptorIndex := 1010, attributes := #[] }, { accessFlags := 1, nameIndex := 507, descriptorIndex := 334, attributes := #[] }, { accessFlags := 1, nameIndex := 692, descriptorIndex := 142, attributes := #[] }, { accessFlags := 1, nameIndex := 497, descriptorIndex := 427, attributes := #[] }, { accessFlags := 2, nameIndex := 5, descriptorIndex := 29, attributes := #[] }, { accessFlags := 0, nameIndex := 17, descriptorIndex := 337, attributes := #[] }, { accessFlags := 0, nameIndex := 494, descriptorIndex := 142, attributes := #[] }, { accessFlags := 8, nameIndex := 501, descriptorIndex := 391, attributes := #[] }] 49 2 #[1106, 1108, 575, 1110, 1112] #[{ accessFlags := 18, nameIndex := 13, descriptorIndex := 14, attributes := #[] }, { accessFlags := 18, nameIndex := 17, descriptorIndex := 18, attributes := #[] }, { accessFlags := 2, nameIndex := 21, descriptorIndex := 22, attributes := #[] }, { accessFlags := 2, nameIndex := 25, descriptorIndex := 26, attributes := #[] }, { accessFlags := 26, nameIndex := 1116, descriptorIndex := 1117, attributes := #[] }, { accessFlags := 24, nameIndex := 40, descriptorIndex := 26, attributes := #[] }, { accessFlags := 26, nameIndex := 1101, descriptorIndex := 1102, attributes := #[] }, { accessFlags := 26, nameIndex := 1121, descriptorIndex := 1122, attributes := #[] }, { accessFlags := 25, nameIndex := 599, descriptorIndex := 600, attributes := #[] }, { accessFlags := 24, nameIndex := 1125, descriptorIndex := 18, attributes := #[] }, { accessFlags := 24, nameIndex := 1127, descriptorIndex := 18, attributes := #[] }])
  fields := #[{ name := "value", type := (.array .byte), accessFlags := 18, slot := 0, constantValue := 0 }, { name := "coder", type := .byte, accessFlags := 18, slot := 1, constantValue := 0 }, { name := "hash", type := .int, accessFlags := 2, slot := 2, constantValue := 0 }, { name := "hashIsZero", type := .boolean, accessFlags := 2, slot := 3, constantValue := 0 }, { name := "serialVersionUID", type := .long, accessFlags := 26, slot := 0, constantValue := 0 }, { name := "COMPACT_STRINGS", type := .boolean, accessFlags := 24, slot := 1, constantValue := 0 }, { name := "serialPersistentFields", type := (.array (.object "java/io/ObjectStreamField")), accessFlags := 26, slot := 2, constantValue := 0 }, { name := "REPL", type := .char, accessFlags := 26, slot := 3, constantValue := 0 }, { name := "CASE_INSENSITIVE_ORDER", type := (.object "java/util/Comparator"), accessFlags := 25, slot := 4, constantValue := 0 }, { name := "LATIN1", type := .byte, accessFlags := 24, slot := 5, constantValue := 0 }, { name := "UTF16", type := .byte, accessFlags := 24, slot := 6, constantValue := 0 }]
  methods := #[k7m0, k7m1, k7m2, k7m3, k7m4, k7m5, k7m6, k7m7, k7m8]
  instanceTypes := #[(.array .byte), .byte, .int, .boolean]
  staticTypes := #[.long, .boolean, (.array (.object "java/io/ObjectStreamField")), .char, (.object "java/util/Comparator"), .byte, .byte]
  resolved := Array.replicate 1451 none
  statics := some 0 }

def pool8 : Array CpInfo := pool [(6, .class_ 8), (1, u "java/lang/Object"), (0, u "<init>"), (0, u "()V"), (1, .class_ 14), (1, u "java/lang/StringUTF16"), (31, u "$assertionsDisabled"), (0, u "Z"), (13, u "HI_BYTE_SHIFT"), (0, u "I"), (2, u "LO_BYTE_SHIFT"), (49, .methodref 12 116), (0, .nameAndType 117 118), (0, u "compress"), (0, u "([CI[BII)I"), (3, u "([CII)[B"), (138, u "coderFromArrayLen"), (0, u "([BI)B"), (106, .class_ 371), (1, u "java/lang/StringUTF16$LinesSpliterator"), (58, u "MAX_LENGTH"), (196, .class_ 628), (0, u "java/lang/StringUTF16$CodePointsSpliterator"), (0, .class_ 630), (0, u "java/lang/StringUTF16$CharsSpliterator")] 4

def k8m0 : Method := { name := "<init>", desc := "()V", sig := { parameters := [], returnType := none }, accessFlags := 0, code := none }
def k8c1 : Code := { maxStack := 2, maxLocals := 2, code := jdk_52_method_15_code, exceptionTable := #[], attributes := #[] }
def k8m1 : Method := { name := "coderFromArrayLen", desc := "([BI)B", sig := { parameters := [(.array .byte), .int], returnType := some .byte }, accessFlags := 8, code := some k8c1 }
def k8c2 : Code := { maxStack := 5, maxLocals := 6, code := jdk_52_method_16_code, exceptionTable := #[], attributes := #[] }
def k8m2 : Method := { name := "compress", desc := "([CII)[B", sig := { parameters := [(.array .char), .int, .int], returnType := some (.array .byte) }, accessFlags := 9, code := some k8c2 }
def k8c3 : Code := { maxStack := 3, maxLocals := 7, code := jdk_52_method_21_code, exceptionTable := #[], attributes := #[] }
def k8m3 : Method := { name := "compress", desc := "([CI[BII)I", sig := { parameters := [(.array .char), .int, (.array .byte), .int, .int], returnType := some .int }, accessFlags := 9, code := some k8c3 }
/-- java/lang/StringUTF16 -/
def k8 : Class := { plain "java/lang/StringUTF16" (some 0) with
  accessFlags := 48
  interfaces := #[]
  cf := some (fileOf pool8 12 #[.nestMembers #[627, 629, 369]] #[{ accessFlags := 0, nameIndex := 9, descriptorIndex := 10, attributes := #[] }, { accessFlags := 8, nameIndex := 261, descriptorIndex := 262, attributes := #[] }, { accessFlags := 9, nameIndex := 117, descriptorIndex := 122, attributes := #[] }, { accessFlags := 9, nameIndex := 117, descriptorIndex := 118, attributes := #[] }] 48 6 #[] #[{ accessFlags := 26, nameIndex := 61, descriptorIndex := 62, attributes := #[] }, { accessFlags := 26, nameIndex := 65, descriptorIndex := 62, attributes := #[] }, { accessFlags := 24, nameIndex := 430, descriptorIndex := 62, attributes := #[] }, { accessFlags := 4120, nameIndex := 46, descriptorIndex := 47, attributes := #[] }])
  fields := #[{ name := "HI_BYTE_SHIFT", type := .int, accessFlags := 26, slot := 0, constantValue := 0 }, { name := "LO_BYTE_SHIFT", type := .int, accessFlags := 26, slot := 1, constantValue := 0 }, { name := "MAX_LENGTH", type := .int, accessFlags := 24, slot := 2, constantValue := 0 }, { name := "$assertionsDisabled", type := .boolean, accessFlags := 4120, slot := 3, constantValue := 0 }]
  methods := #[k8m0, k8m1, k8m2, k8m3]
  instanceTypes := #[]
  staticTypes := #[.int, .int, .int, .boolean]
  resolved := Array.replicate 635 none
  statics := none }

def pool9 : Array CpInfo := pool [(1, .methodref 2 3), (0, .class_ 4), (0, .nameAndType 5 6), (0, u "java/lang/Object"), (0, u "<init>"), (0, u "()V"), (0, .class_ 8), (0, u "java/lang/Record")] 13

def k9c0 : Code := { maxStack := 1, maxLocals := 1, code := jdk_30_method_1_code, exceptionTable := #[], attributes := #[] }
def k9m0 : Method := { name := "<init>", desc := "()V", sig := { parameters := [], returnType := none }, accessFlags := 4, code := some k9c0 }
/-- java/lang/Record -/
def k9 : Class := { plain "java/lang/Record" (some 0) with
  accessFlags := 1057
  interfaces := #[]
  cf := some (fileOf pool9 7 #[] #[{ accessFlags := 4, nameIndex := 5, descriptorIndex := 6, attributes := #[] }] 1057 2 #[] #[])
  fields := #[]
  methods := #[k9m0]
  instanceTypes := #[]
  staticTypes := #[]
  resolved := Array.replicate 22 none
  statics := none }

def pool10 : Array CpInfo := pool [(1, .class_ 2), (0, u "com/example/resolvent/resolvent/Ast$Selection"), (0, .class_ 4), (0, u "java/lang/Object"), (9, .class_ 15), (0, u "com/example/resolvent/resolvent/Ast")] 15

/-- com/example/resolvent/resolvent/Ast$Selection -/
def k10 : Class := { plain "com/example/resolvent/resolvent/Ast$Selection" (some 0) with
  accessFlags := 1536
  interfaces := #[]
  cf := some (fileOf pool10 1 #[.nestHost 14] #[] 1536 3 #[] #[])
  fields := #[]
  methods := #[]
  instanceTypes := #[]
  staticTypes := #[]
  resolved := Array.replicate 31 none
  statics := none }

def pool11 : Array CpInfo := pool [(1, .methodref 2 3), (0, .class_ 4), (0, .nameAndType 5 6), (0, u "java/lang/Record"), (0, u "<init>"), (0, u "()V"), (0, .fieldref 8 9), (0, .class_ 10), (0, .nameAndType 11 12), (0, u "com/example/resolvent/resolvent/Ast$Field"), (0, u "location"), (0, u "Lcom/example/resolvent/resolvent/SourceLocation;"), (0, .fieldref 8 14), (0, .nameAndType 15 16), (0, u "alias"), (0, u "Ljava/lang/String;"), (0, .fieldref 8 18), (0, .nameAndType 19 16), (0, u "name"), (0, .fieldref 8 21), (0, .nameAndType 22 23), (0, u "arguments"), (0, u "Ljava/util/List;"), (0, .fieldref 8 25), (0, .nameAndType 26 23), (0, u "directives"), (0, .fieldref 8 28), (0, .nameAndType 29 23), (0, u "selectionSet"), (12, .class_ 43), (0, u "com/example/resolvent/resolvent/Ast$Selection"), (4, u "(Lcom/example/resolvent/resolvent/SourceLocation;Ljava/lang/String;Ljava/lang/String;Ljava/util/List;Ljava/util/List;Ljava/util/List;)V"), (4, u "responseKey"), (0, u "()Ljava/lang/String;"), (13, .class_ 69), (0, u "com/example/resolvent/resolvent/Ast")] 31

def k11c0 : Code := { maxStack := 2, maxLocals := 7, code := prog_14_method_1_code, exceptionTable := #[], attributes := #[] }
def k11m0 : Method := { name := "<init>", desc := "(Lcom/example/resolvent/resolvent/SourceLocation;Ljava/lang/String;Ljava/lang/String;Ljava/util/List;Ljava/util/List;Ljava/util/List;)V", sig := { parameters := [(.object "com/example/resolvent/resolvent/SourceLocation"), (.object "java/lang/String"), (.object "java/lang/String"), (.object "java/util/List"), (.object "java/util/List"), (.object "java/util/List")], returnType := none }, accessFlags := 0, code := some k11c0 }
def k11c1 : Code := { maxStack := 1, maxLocals := 1, code := prog_14_method_2_code, exceptionTable := #[], attributes := #[] }
def k11m1 : Method := { name := "responseKey", desc := "()Ljava/lang/String;", sig := { parameters := [], returnType := some (.object "java/lang/String") }, accessFlags := 0, code := some k11c1 }
/-- com/example/resolvent/resolvent/Ast$Field -/
def k11 : Class := { plain "com/example/resolvent/resolvent/Ast$Field" (some 9) with
  accessFlags := 48
  interfaces := #[10]
  cf := some (fileOf pool11 8 #[.nestHost 68] #[{ accessFlags := 0, nameIndex := 5, descriptorIndex := 48, attributes := #[] }, { accessFlags := 0, nameIndex := 53, descriptorIndex := 54, attributes := #[] }] 48 2 #[42] #[{ accessFlags := 18, nameIndex := 11, descriptorIndex := 12, attributes := #[] }, { accessFlags := 18, nameIndex := 15, descriptorIndex := 16, attributes := #[] }, { accessFlags := 18, nameIndex := 19, descriptorIndex := 16, attributes := #[] }, { accessFlags := 18, nameIndex := 22, descriptorIndex := 23, attributes := #[] }, { accessFlags := 18, nameIndex := 26, descriptorIndex := 23, attributes := #[] }, { accessFlags := 18, nameIndex := 29, descriptorIndex := 23, attributes := #[] }])
  fields := #[{ name := "location", type := (.object "com/example/resolvent/resolvent/SourceLocation"), accessFlags := 18, slot := 0, constantValue := 0 }, { name := "alias", type := (.object "java/lang/String"), accessFlags := 18, slot := 1, constantValue := 0 }, { name := "name", type := (.object "java/lang/String"), accessFlags := 18, slot := 2, constantValue := 0 }, { name := "arguments", type := (.object "java/util/List"), accessFlags := 18, slot := 3, constantValue := 0 }, { name := "directives", type := (.object "java/util/List"), accessFlags := 18, slot := 4, constantValue := 0 }, { name := "selectionSet", type := (.object "java/util/List"), accessFlags := 18, slot := 5, constantValue := 0 }]
  methods := #[k11m0, k11m1]
  instanceTypes := #[(.object "com/example/resolvent/resolvent/SourceLocation"), (.object "java/lang/String"), (.object "java/lang/String"), (.object "java/util/List"), (.object "java/util/List"), (.object "java/util/List")]
  staticTypes := #[]
  resolved := Array.replicate 101 none
  statics := none }

def pool12 : Array CpInfo := pool [(1, .methodref 2 3), (0, .class_ 4), (0, .nameAndType 5 6), (0, u "java/lang/Record"), (0, u "<init>"), (0, u "()V"), (0, .fieldref 8 9), (0, .class_ 10), (0, .nameAndType 11 12), (0, u "com/example/resolvent/resolvent/SourceLocation"), (0, u "line"), (0, u "I"), (0, .fieldref 8 14), (0, .nameAndType 15 12), (0, u "column"), (12, .class_ 29), (0, u "java/io/Serializable"), (0, u "(II)V")] 36

def k12c0 : Code := { maxStack := 2, maxLocals := 3, code := prog_107_method_1_code, exceptionTable := #[], attributes := #[] }
def k12m0 : Method := { name := "<init>", desc := "(II)V", sig := { parameters := [.int, .int], returnType := none }, accessFlags := 1, code := some k12c0 }
/-- com/example/resolvent/resolvent/SourceLocation -/
def k12 : Class := { plain "com/example/resolvent/resolvent/SourceLocation" (some 9) with
  accessFlags := 49
  interfaces := #[2]
  cf := some (fileOf pool12 8 #[] #[{ accessFlags := 1, nameIndex := 5, descriptorIndex := 30, attributes := #[] }] 49 2 #[28] #[{ accessFlags := 18, nameIndex := 11, descriptorIndex := 12, attributes := #[] }, { accessFlags := 18, nameIndex := 15, descriptorIndex := 12, attributes := #[] }])
  fields := #[{ name := "line", type := .int, accessFlags := 18, slot := 0, constantValue := 0 }, { name := "column", type := .int, accessFlags := 18, slot := 1, constantValue := 0 }]
  methods := #[k12m0]
  instanceTypes := #[.int, .int]
  staticTypes := #[]
  resolved := Array.replicate 67 none
  statics := none }

def pool13 : Array CpInfo := pool [(8, .class_ 10), (1, u "java/lang/Iterable"), (24, .class_ 36), (0, u "java/lang/Object")] 25

/-- java/lang/Iterable -/
def k13 : Class := { plain "java/lang/Iterable" (some 0) with
  accessFlags := 1537
  interfaces := #[]
  cf := some (fileOf pool13 8 #[] #[] 1537 35 #[] #[])
  fields := #[]
  methods := #[]
  instanceTypes := #[]
  staticTypes := #[]
  resolved := Array.replicate 62 none
  statics := none }

def pool14 : Array CpInfo := pool [(10, .class_ 12), (1, u "java/util/Collection"), (47, .class_ 61), (0, u "java/lang/Object"), (0, .class_ 63), (0, u "java/lang/Iterable")] 51

/-- java/util/Collection -/
def k14 : Class := { plain "java/util/Collection" (some 0) with
  accessFlags := 1537
  interfaces := #[13]
  cf := some (fileOf pool14 10 #[] #[] 1537 60 #[62] #[])
  fields := #[]
  methods := #[]
  instanceTypes := #[]
  staticTypes := #[]
  resolved := Array.replicate 115 none
  statics := none }

def pool15 : Array CpInfo := pool [(1, .methodref 2 3), (0, .class_ 4), (0, .nameAndType 5 6), (0, u "java/lang/Object"), (0, u "<init>"), (0, u "()V"), (1, .class_ 10), (1, u "java/util/AbstractCollection"), (66, .class_ 78), (0, u "java/util/Collection")] 81

def k15c0 : Code := { maxStack := 1, maxLocals := 1, code := jdk_22_method_1_code, exceptionTable := #[], attributes := #[] }
def k15m0 : Method := { name := "<init>", desc := "()V", sig := { parameters := [], returnType := none }, accessFlags := 4, code := some k15c0 }
/-- java/util/AbstractCollection -/
def k15 : Class := { plain "java/util/AbstractCollection" (some 0) with
  accessFlags := 1057
  interfaces := #[14]
  cf := some (fileOf pool15 8 #[] #[{ accessFlags := 4, nameIndex := 5, descriptorIndex := 6, attributes := #[] }] 1057 2 #[77] #[])
  fields := #[]
  methods := #[k15m0]
  instanceTypes := #[]
  staticTypes := #[]
  resolved := Array.replicate 160 none
  statics := none }

def pool16 : Array CpInfo := pool [(8, .class_ 10), (1, u "java/util/SequencedCollection"), (15, .class_ 27), (0, u "java/lang/Object"), (0, .class_ 29), (0, u "java/util/Collection")] 27

/-- java/util/SequencedCollection -/
def k16 : Class := { plain "java/util/SequencedCollection" (some 0) with
  accessFlags := 1537
  interfaces := #[14]
  cf := some (fileOf pool16 8 #[] #[] 1537 26 #[28] #[])
  fields := #[]
  methods := #[]
  instanceTypes := #[]
  staticTypes := #[]
  resolved := Array.replicate 57 none
  statics := none }

def pool17 : Array CpInfo := pool [(8, .class_ 10), (1, u "java/util/List"), (92, .class_ 104), (0, u "java/lang/Object"), (15, .class_ 121), (0, u "java/util/SequencedCollection")] 129

/-- java/util/List -/
def k17 : Class := { plain "java/util/List" (some 0) with
  accessFlags := 1537
  interfaces := #[16]
  cf := some (fileOf pool17 8 #[] #[] 1537 103 #[120] #[])
  fields := #[]
  methods := #[]
  instanceTypes := #[]
  staticTypes := #[]
  resolved := Array.replicate 251 none
  statics := none }

def pool18 : Array CpInfo := pool [(1, .methodref 2 3), (0, .class_ 4), (0, .nameAndType 5 6), (0, u "java/util/AbstractCollection"), (0, u "<init>"), (0, u "()V"), (0, .fieldref 8 9), (0, .class_ 10), (0, .nameAndType 11 12), (0, u "java/util/AbstractList"), (0, u "modCount"), (0, u "I"), (64, .class_ 78), (0, u "java/util/AbstractList$Itr"), (3, .class_ 83), (0, u "java/util/AbstractList$ListItr"), (9, .class_ 94), (0, u "java/util/AbstractList$RandomAccessSubList"), (3, .class_ 99), (0, u "java/util/AbstractList$SubList"), (33, .class_ 134), (0, u "java/util/List"), (73, .class_ 209), (0, u "java/util/AbstractList$SubList$1"), (0, .class_ 211), (0, u "java/util/AbstractList$RandomAccessSpliterator")] 6

def k18c0 : Code := { maxStack := 2, maxLocals := 1, code := jdk_39_method_1_code, exceptionTable := #[], attributes := #[] }
def k18m0 : Method := { name := "<init>", desc := "()V", sig := { parameters := [], returnType := none }, accessFlags := 4, code := some k18c0 }
/-- java/util/AbstractList -/
def k18 : Class := { plain "java/util/AbstractList" (some 15) with
  accessFlags := 1057
  interfaces := #[17]
  cf := some (fileOf pool18 8 #[.nestMembers #[93, 98, 208, 210, 82, 77]] #[{ accessFlags := 4, nameIndex := 5, descriptorIndex := 6, attributes := #[] }] 1057 2 #[133] #[{ accessFlags := 132, nameIndex := 11, descriptorIndex := 12, attributes := #[] }])
  fields := #[{ name := "modCount", type := .int, accessFlags := 132, slot := 0, constantValue := 0 }]
  methods := #[k18m0]
  instanceTypes := #[.int]
  staticTypes := #[]
  resolved := Array.replicate 218 none
  statics := none }

def pool19 : Array CpInfo := pool [(1, .class_ 2), (0, u "java/util/RandomAccess"), (0, .class_ 4), (0, u "java/lang/Object")] 2

/-- java/util/RandomAccess -/
def k19 : Class := { plain "java/util/RandomAccess" (some 0) with
  accessFlags := 1537
  interfaces := #[]
  cf := some (fileOf pool19 1 #[] #[] 1537 3 #[] #[])
  fields := #[]
  methods := #[]
  instanceTypes := #[]
  staticTypes := #[]
  resolved := Array.replicate 7 none
  statics := none }

def pool20 : Array CpInfo := pool [(1, .class_ 2), (0, u "java/lang/Cloneable"), (0, .class_ 4), (0, u "java/lang/Object")] 2

/-- java/lang/Cloneable -/
def k20 : Class := { plain "java/lang/Cloneable" (some 0) with
  accessFlags := 1537
  interfaces := #[]
  cf := some (fileOf pool20 1 #[] #[] 1537 3 #[] #[])
  fields := #[]
  methods := #[]
  instanceTypes := #[]
  staticTypes := #[]
  resolved := Array.replicate 7 none
  statics := none }

def pool21 : Array CpInfo := pool [(1, .methodref 2 3), (0, .class_ 4), (0, .nameAndType 5 6), (0, u "java/util/AbstractList"), (0, u "<init>"), (0, u "()V"), (2, .fieldref 10 11), (0, .class_ 12), (0, .nameAndType 13 14), (0, u "java/util/ArrayList"), (0, u "elementData"), (0, u "[Ljava/lang/Object;"), (2, u "EMPTY_ELEMENTDATA"), (21, .fieldref 10 40), (0, .nameAndType 41 14), (0, u "DEFAULTCAPACITY_EMPTY_ELEMENTDATA"), (8, u "size"), (0, u "I"), (96, .class_ 149), (0, u "java/util/List"), (112, .class_ 263), (0, u "java/util/ArrayList$ListItr"), (3, .class_ 268), (0, u "java/util/ArrayList$Itr"), (7, .class_ 277), (0, u "java/util/ArrayList$SubList"), (12, .class_ 291), (0, u "java/util/ArrayList$ArrayListSpliterator"), (37, .class_ 330), (0, u "java/util/RandomAccess"), (0, .class_ 332), (0, u "java/lang/Cloneable"), (0, .class_ 334), (0, u "java/io/Serializable"), (0, u "serialVersionUID"), (0, u "J"), (3, u "DEFAULT_CAPACITY"), (159, .class_ 501), (0, u "java/util/ArrayList$SubList$2"), (0, .class_ 503), (0, u "java/util/ArrayList$SubList$1")] 5

def k21c0 : Code := { maxStack := 2, maxLocals := 1, code := jdk_38_method_2_code, exceptionTable := #[], attributes := #[] }
def k21m0 : Method := { name := "<init>", desc := "()V", sig := { parameters := [], returnType := none }, accessFlags := 1, code := some k21c0 }
/-- java/util/ArrayList -/
def k21 : Class := { plain "java/util/ArrayList" (some 18) with
  accessFlags := 33
  interfaces := #[17, 19, 20, 2]
  cf := some (fileOf pool21 10 #[.nestMembers #[290, 276, 500, 502, 262, 267]] #[{ accessFlags := 1, nameIndex := 5, descriptorIndex := 6, attributes := #[] }] 33 2 #[148, 329, 331, 333] #[{ accessFlags := 26, nameIndex := 335, descriptorIndex := 336, attributes := #[] }, { accessFlags := 26, nameIndex := 340, descriptorIndex := 51, attributes := #[] }, { accessFlags := 26, nameIndex := 17, descriptorIndex := 14, attributes := #[] }, { accessFlags := 26, nameIndex := 41, descriptorIndex := 14, attributes := #[] }, { accessFlags := 128, nameIndex := 13, descriptorIndex := 14, attributes := #[] }, { accessFlags := 2, nameIndex := 50, descriptorIndex := 51, attributes := #[] }])
  fields := #[{ name := "serialVersionUID", type := .long, accessFlags := 26, slot := 0, constantValue := 0 }, { name := "DEFAULT_CAPACITY", type := .int, accessFlags := 26, slot := 1, constantValue := 0 }, { name := "EMPTY_ELEMENTDATA", type := (.array (.object "java/lang/Object")), accessFlags := 26, slot := 2, constantValue := 0 }, { name := "DEFAULTCAPACITY_EMPTY_ELEMENTDATA", type := (.array (.object "java/lang/Object")), accessFlags := 26, slot := 3, constantValue := 0 }, { name := "elementData", type := (.array (.object "java/lang/Object")), accessFlags := 128, slot := 1, constantValue := 0 }, { name := "size", type := .int, accessFlags := 2, slot := 2, constantValue := 0 }]
  methods := #[k21m0]
  instanceTypes := #[.int, (.array (.object "java/lang/Object")), .int]
  staticTypes := #[.long, .int, (.array (.object "java/lang/Object")), (.array (.object "java/lang/Object"))]
  resolved := Array.replicate 509 none
  statics := some 1 }

def pool22 : Array CpInfo := pool [(1, .class_ 2), (0, u "java/lang/String"), (1, .class_ 6), (1, u "java/lang/Object"), (0, u "<init>"), (0, u "()V"), (0, .methodref 1 10), (0, .nameAndType 11 12), (0, u "checkIndex"), (0, u "(II)V"), (1, .class_ 16), (1, u "java/lang/StringLatin1"), (36, u "([BI)C"), (67, u "$assertionsDisabled"), (0, u "Z"), (98, .class_ 223), (1, u "java/lang/StringLatin1$LinesSpliterator"), (28, u "charAt"), (137, .class_ 391), (0, u "java/lang/StringLatin1$CharsSpliterator")] 3

def k22m0 : Method := { name := "<init>", desc := "()V", sig := { parameters := [], returnType := none }, accessFlags := 0, code := none }
def k22c1 : Code := { maxStack := 2, maxLocals := 2, code := jdk_43_method_2_code, exceptionTable := #[], attributes := #[] }
def k22m1 : Method := { name := "charAt", desc := "([BI)C", sig := { parameters := [(.array .byte), .int], returnType := some .char }, accessFlags := 9, code := some k22c1 }
/-- java/lang/StringLatin1 -/
def k22 : Class := { plain "java/lang/StringLatin1" (some 0) with
  accessFlags := 48
  interfaces := #[]
  cf := some (fileOf pool22 14 #[.nestMembers #[390, 221]] #[{ accessFlags := 0, nameIndex := 7, descriptorIndex := 8, attributes := #[] }, { accessFlags := 9, nameIndex := 252, descriptorIndex := 53, attributes := #[] }] 48 4 #[] #[{ accessFlags := 4120, nameIndex := 121, descriptorIndex := 122, attributes := #[] }])
  fields := #[{ name := "$assertionsDisabled", type := .boolean, accessFlags := 4120, slot := 0, constantValue := 0 }]
  methods := #[k22m0, k22m1]
  instanceTypes := #[]
  staticTypes := #[.boolean]
  resolved := Array.replicate 395 none
  statics := none }

def pool23 : Array CpInfo := pool [(2, .class_ 4), (1, u "java/lang/Object"), (0, u "<init>"), (0, u "()V"), (17, .class_ 26), (1, u "jdk/internal/util/Preconditions"), (6, u "checkIndex"), (21, .class_ 56), (0, u "jdk/internal/util/Preconditions$4"), (57, .class_ 115), (0, u "jdk/internal/util/Preconditions$1"), (7, u "SIOOBE_FORMATTER"), (0, u "Ljava/util/function/BiFunction;"), (0, .class_ 126), (0, u "jdk/internal/util/Preconditions$2"), (3, u "AIOOBE_FORMATTER"), (0, .class_ 132), (0, u "jdk/internal/util/Preconditions$3"), (3, u "IOOBE_FORMATTER"), (41, u "(IILjava/util/function/BiFunction;)I")] 15

def k23m0 : Method := { name := "<init>", desc := "()V", sig := { parameters := [], returnType := none }, accessFlags := 1, code := none }
def k23c1 : Code := { maxStack := 3, maxLocals := 3, code := jdk_41_method_11_code, exceptionTable := #[], attributes := #[] }
def k23m1 : Method := { name := "checkIndex", desc := "(IILjava/util/function/BiFunction;)I", sig := { parameters := [.int, .int, (.object "java/util/function/BiFunction")], returnType := some .int }, accessFlags := 9, code := some k23c1 }
/-- jdk/internal/util/Preconditions -/
def k23 : Class := { plain "jdk/internal/util/Preconditions" (some 0) with
  accessFlags := 33
  interfaces := #[]
  cf := some (fileOf pool23 24 #[.nestMembers #[55, 131, 125, 114]] #[{ accessFlags := 1, nameIndex := 5, descriptorIndex := 6, attributes := #[] }, { accessFlags := 9, nameIndex := 33, descriptorIndex := 178, attributes := #[] }] 33 2 #[] #[{ accessFlags := 25, nameIndex := 123, descriptorIndex := 124, attributes := #[] }, { accessFlags := 25, nameIndex := 130, descriptorIndex := 124, attributes := #[] }, { accessFlags := 25, nameIndex := 136, descriptorIndex := 124, attributes := #[] }])
  fields := #[{ name := "SIOOBE_FORMATTER", type := (.object "java/util/function/BiFunction"), accessFlags := 25, slot := 0, constantValue := 0 }, { name := "AIOOBE_FORMATTER", type := (.object "java/util/function/BiFunction"), accessFlags := 25, slot := 1, constantValue := 0 }, { name := "IOOBE_FORMATTER", type := (.object "java/util/function/BiFunction"), accessFlags := 25, slot := 2, constantValue := 0 }]
  methods := #[k23m0, k23m1]
  instanceTypes := #[]
  staticTypes := #[(.object "java/util/function/BiFunction"), (.object "java/util/function/BiFunction"), (.object "java/util/function/BiFunction")]
  resolved := Array.replicate 194 none
  statics := some 2 }

def pool24 : Array CpInfo := pool [(9, u "<init>"), (6, .class_ 18), (1, u "java/lang/Object"), (0, u "()V"), (1, .class_ 23), (1, u "jdk/internal/util/ArraysSupport"), (0, u "LOG2_ARRAY_LONG_INDEX_SCALE"), (0, u "I"), (2, u "U"), (0, u "Ljdk/internal/misc/Unsafe;"), (8, u "BIG_ENDIAN"), (0, u "Z"), (8, u "LOG2_BYTE_BIT_SIZE"), (4, u "LOG2_ARRAY_INT_INDEX_SCALE"), (54, u "JLA"), (0, u "Ljdk/internal/access/JavaLangAccess;"), (11, u "LOG2_ARRAY_BOOLEAN_INDEX_SCALE"), (9, u "LOG2_ARRAY_BYTE_INDEX_SCALE"), (5, u "LOG2_ARRAY_CHAR_INDEX_SCALE"), (5, u "LOG2_ARRAY_SHORT_INDEX_SCALE"), (18, u "LOG2_ARRAY_FLOAT_INDEX_SCALE"), (24, u "LOG2_ARRAY_DOUBLE_INDEX_SCALE"), (89, u "T_BOOLEAN"), (2, u "T_CHAR"), (1, u "T_FLOAT"), (1, u "T_DOUBLE"), (1, u "T_BYTE"), (1, u "T_SHORT"), (1, u "T_INT"), (1, u "T_LONG"), (1, u "SOFT_MAX_ARRAY_LENGTH")] 83

def k24m0 : Method := { name := "<init>", desc := "()V", sig := { parameters := [], returnType := none }, accessFlags := 2, code := none }
/-- jdk/internal/util/ArraysSupport -/
def k24 : Class := { plain "jdk/internal/util/ArraysSupport" (some 0) with
  accessFlags := 33
  interfaces := #[]
  cf := some (fileOf pool24 21 #[] #[{ accessFlags := 2, nameIndex := 9, descriptorIndex := 19, attributes := #[] }] 33 16 #[] #[{ accessFlags := 24, nameIndex := 28, descriptorIndex := 29, attributes := #[] }, { accessFlags := 26, nameIndex := 38, descriptorIndex := 39, attributes := #[] }, { accessFlags := 25, nameIndex := 121, descriptorIndex := 25, attributes := #[] }, { accessFlags := 25, nameIndex := 131, descriptorIndex := 25, attributes := #[] }, { accessFlags := 25, nameIndex := 137, descriptorIndex := 25, attributes := #[] }, { accessFlags := 25, nameIndex := 143, descriptorIndex := 25, attributes := #[] }, { accessFlags := 25, nameIndex := 53, descriptorIndex := 25, attributes := #[] }, { accessFlags := 25, nameIndex := 24, descriptorIndex := 25, attributes := #[] }, { accessFlags := 25, nameIndex := 162, descriptorIndex := 25, attributes := #[] }, { accessFlags := 25, nameIndex := 187, descriptorIndex := 25, attributes := #[] }, { accessFlags := 26, nameIndex := 48, descriptorIndex := 25, attributes := #[] }, { accessFlags := 25, nameIndex := 277, descriptorIndex := 25, attributes := #[] }, { accessFlags := 25, nameIndex := 280, descriptorIndex := 25, attributes := #[] }, { accessFlags := 25, nameIndex := 282, descriptorIndex := 25, attributes := #[] }, { accessFlags := 25, nameIndex := 284, descriptorIndex := 25, attributes := #[] }, { accessFlags := 25, nameIndex := 286, descriptorIndex := 25, attributes := #[] }, { accessFlags := 25, nameIndex := 288, descriptorIndex := 25, attributes := #[] }, { accessFlags := 25, nameIndex := 290, descriptorIndex := 25, attributes := #[] }, { accessFlags := 25, nameIndex := 292, descriptorIndex := 25, attributes := #[] }, { accessFlags := 26, nameIndex := 108, descriptorIndex := 109, attributes := #[] }, { accessFlags := 25, nameIndex := 294, descriptorIndex := 25, attributes := #[] }])
  fields := #[{ name := "U", type := (.object "jdk/internal/misc/Unsafe"), accessFlags := 24, slot := 0, constantValue := 0 }, { name := "BIG_ENDIAN", type := .boolean, accessFlags := 26, slot := 1, constantValue := 0 }, { name := "LOG2_ARRAY_BOOLEAN_INDEX_SCALE", type := .int, accessFlags := 25, slot := 2, constantValue := 0 }, { name := "LOG2_ARRAY_BYTE_INDEX_SCALE", type := .int, accessFlags := 25, slot := 3, constantValue := 0 }, { name := "LOG2_ARRAY_CHAR_INDEX_SCALE", type := .int, accessFlags := 25, slot := 4, constantValue := 0 }, { name := "LOG2_ARRAY_SHORT_INDEX_SCALE", type := .int, accessFlags := 25, slot := 5, constantValue := 0 }, { name := "LOG2_ARRAY_INT_INDEX_SCALE", type := .int, accessFlags := 25, slot := 6, constantValue := 0 }, { name := "LOG2_ARRAY_LONG_INDEX_SCALE", type := .int, accessFlags := 25, slot := 7, constantValue := 0 }, { name := "LOG2_ARRAY_FLOAT_INDEX_SCALE", type := .int, accessFlags := 25, slot := 8, constantValue := 0 }, { name := "LOG2_ARRAY_DOUBLE_INDEX_SCALE", type := .int, accessFlags := 25, slot := 9, constantValue := 0 }, { name := "LOG2_BYTE_BIT_SIZE", type := .int, accessFlags := 26, slot := 10, constantValue := 0 }, { name := "T_BOOLEAN", type := .int, accessFlags := 25, slot := 11, constantValue := 0 }, { name := "T_CHAR", type := .int, accessFlags := 25, slot := 12, constantValue := 0 }, { name := "T_FLOAT", type := .int, accessFlags := 25, slot := 13, constantValue := 0 }, { name := "T_DOUBLE", type := .int, accessFlags := 25, slot := 14, constantValue := 0 }, { name := "T_BYTE", type := .int, accessFlags := 25, slot := 15, constantValue := 0 }, { name := "T_SHORT", type := .int, accessFlags := 25, slot := 16, constantValue := 0 }, { name := "T_INT", type := .int, accessFlags := 25, slot := 17, constantValue := 0 }, { name := "T_LONG", type := .int, accessFlags := 25, slot := 18, constantValue := 0 }, { name := "JLA", type := (.object "jdk/internal/access/JavaLangAccess"), accessFlags := 26, slot := 19, constantValue := 0 }, { name := "SOFT_MAX_ARRAY_LENGTH", type := .int, accessFlags := 25, slot := 20, constantValue := 0 }]
  methods := #[k24m0]
  instanceTypes := #[]
  staticTypes := #[(.object "jdk/internal/misc/Unsafe"), .boolean, .int, .int, .int, .int, .int, .int, .int, .int, .int, .int, .int, .int, .int, .int, .int, .int, .int, (.object "jdk/internal/access/JavaLangAccess"), .int]
  resolved := Array.replicate 378 none
  statics := none }

/-- the primitive byte -/
def k25 : Class := { plain "byte" none with kind := .primitive 'B', accessFlags := 0x411 }
/-- [B -/
def k26 : Class := { plain "[B" (some 0) with kind := .array 25 .byte, interfaces := #[20, 2], accessFlags := 1041 }

/-- the primitive char -/
def k27 : Class := { plain "char" none with kind := .primitive 'C', accessFlags := 0x411 }
/-- [C -/
def k28 : Class := { plain "[C" (some 0) with kind := .array 27 .char, interfaces := #[20, 2], accessFlags := 1041 }

/-- the primitive int -/
def k29 : Class := { plain "int" none with kind := .primitive 'I', accessFlags := 0x411 }
/-- [I -/
def k30 : Class := { plain "[I" (some 0) with kind := .array 29 .int, interfaces := #[20, 2], accessFlags := 1041 }

/-- [Ljava/lang/Object; -/
def k31 : Class := { plain "[Ljava/lang/Object;" (some 0) with kind := .array 0 (.object "java/lang/Object"), interfaces := #[20, 2], accessFlags := 1041 }

def heap : Heap := #[{ cls := 7, slots := #[.long 0, .int 1, .null, .int 0, .null, .int 0, .int 0], vm := .statics 7 },
  { cls := 21, slots := #[.long 0, .int 0, .ref 3, .ref 4], vm := .statics 21 },
  { cls := 23, slots := #[.null, .null, .null], vm := .statics 23 },
  { cls := 31, slots := #[], vm := .none },
  { cls := 31, slots := #[], vm := .none }]
def classes : Array Class := #[k0, k1, k2, k3, k4, k5, k6, k7, k8, k9, k10, k11, k12, k13, k14, k15, k16, k17, k18, k19, k20, k21, k22, k23, k24, k25, k26, k27, k28, k29, k30, k31]
def interned : List (Array UInt16 × Addr) := []
def slotsUsed : Nat := 14
def theMethod : MethodId := ⟨1, 2⟩
def args0 : Array Value := #[.int 5, .int 2, .int 1, .int 1, .int 1]
def aboutOver (below : List Frame) : State where
  vm := { classes := classes, interned := interned.toArray }
  heap := heap
  slotsUsed := slotsUsed
  threads := #[{ frames := .invoking theMethod args0 :: below }]
def below0 : List Frame := [.native { method := ⟨0, 0⟩, args := #[] }]
def about1 : State := aboutOver below0
def p0 : Program := .bare "" "" ""
def e0 : Env := launch0.env 0 0 0
theorem w_frames : about1.frames = Frame.invoking theMethod args0 :: below0 := rfl
set_option maxRecDepth 65536 in
theorem w_args : argsFit about1.vm theMethod args0 = true := by decide +kernel
set_option maxRecDepth 65536 in
theorem w_heap : heapFits about1 = true := by decide +kernel
set_option maxRecDepth 65536 in
theorem w_runnable : about1.curStatus? = some .runnable := by decide +kernel
set_option maxRecDepth 65536 in
theorem w_alone : about1.alone = true := by decide +kernel
set_option maxRecDepth 65536 in
theorem w_named : about1.methodNamed? x = some theMethod := by decide +kernel
set_option maxRecDepth 65536 in
theorem w_hears : about1.hears theMethod below0 = true := by decide +kernel
set_option maxRecDepth 65536 in
theorem w_ripe : about1.ripe theMethod args0 below0 = true := by decide +kernel
theorem w_running : about1.status = .running := rfl
set_option maxRecDepth 65536 in
theorem w_room : about1.hasRoom e0.platform room_1 = true :=
  launch0.hasRoom_least _ room_1 (by decide +kernel) (by decide +kernel) (by decide +kernel) (by decide +kernel) (by decide +kernel) (by decide +kernel)
theorem allAtoms_all (ts : List Jvm.Cond) (a : Array Jvm.Value) (st : Jvm.State) : (allAtoms ts).before a st = ts.all (fun c => c.before a st) := by
  induction ts with
  | nil => rfl
  | cons c t ih =>
    show (Jvm.Cond.and c (allAtoms t)).before a st = _
    rw [Jvm.Cond.before_and, ih, List.all_cons]
def words1 : List Jvm.Cond := Jvm.Cond.code x code maxLocals ret :: tables_1
/-- a 'code' word, met by the world's own term for the bytes: nothing is compared byte by byte -/
theorem code_word {y : MethodName} {bytes : ByteArray} {mx : Nat} {rt : Option FieldType} {a : Array Value} {s : State} {m : MethodId} {meth : Method} {c : Code} (h1 : s.methodNamed? y = some m) (h2 : s.vm.method? m = some meth) (h3 : meth.code = some c) (h4 : c.code = bytes)
    (h5 : (c.maxLocals == mx && c.exceptionTable.isEmpty && decide (c.maxStack ≤ mostOperands) && decide (meth.sig.returnType = rt) && !meth.locks && decide (parseMethodDescriptor y.desc = some meth.sig)) = true) : (Jvm.Cond.code y bytes mx rt).before a s = true := by
  simp only [Bool.and_eq_true, beq_iff_eq, Bool.not_eq_true', decide_eq_true_eq] at h5
  obtain ⟨⟨⟨⟨⟨g1, g2⟩, g3⟩, g4⟩, g5⟩, g6⟩ := h5
  simp [Cond.before, Cond.holds, Cond.value, h1, h2, h3, h4, g1, g2, g3, g4, g5, g6]
def isCode : Jvm.Cond → Bool
  | .code _ _ _ _ => true
  | _ => false
theorem all_split {L : List Jvm.Cond} {P : Jvm.Cond → Bool} (h1 : L.all (fun c => isCode c || P c) = true) (h2 : ∀ c ∈ L.filter isCode, P c = true) : L.all P = true := by
  refine List.all_eq_true.mpr fun c hc => ?_
  have h := List.all_eq_true.mp h1 c hc
  rcases Bool.eq_false_or_eq_true (isCode c) with hi | hi
  · exact h2 c (List.mem_filter.mpr ⟨hc, hi⟩)
  · simpa [hi] using h
set_option maxRecDepth 65536 in
theorem w_c0 : (Jvm.Cond.code x code maxLocals ret).before args0 about1 = true := code_word (m := ⟨1, 2⟩) (meth := k1m2) (c := k1c2) (by decide +kernel) rfl rfl rfl (by decide +kernel)
set_option maxRecDepth 65536 in
theorem w_c1 : (Jvm.Cond.code ({ cls := "java/lang/String", name := "<init>", desc := "([C)V" } : Jvm.MethodName) jdk_42_method_3_code (2 : Nat) (Option.none : Option Jvm.ClassFile.FieldType)).before args0 about1 = true := code_word (m := ⟨7, 1⟩) (meth := k7m1) (c := k7c1) (by decide +kernel) rfl rfl rfl (by decide +kernel)
set_option maxRecDepth 65536 in
theorem w_c2 : (Jvm.Cond.code ({ cls := "java/lang/String", name := "<init>", desc := "([CIILjava/lang/Void;)V" } : Jvm.MethodName) jdk_42_method_149_code (6 : Nat) (Option.none : Option Jvm.ClassFile.FieldType)).before args0 about1 = true := code_word (m := ⟨7, 5⟩) (meth := k7m5) (c := k7c5) (by decide +kernel) rfl rfl rfl (by decide +kernel)
set_option maxRecDepth 65536 in
theorem w_c3 : (Jvm.Cond.code ({ cls := "java/lang/Object", name := "<init>", desc := "()V" } : Jvm.MethodName) object_method_1_code (1 : Nat) (Option.none : Option Jvm.ClassFile.FieldType)).before args0 about1 = true := code_word (m := ⟨0, 0⟩) (meth := k0m0) (c := k0c0) (by decide +kernel) rfl rfl rfl (by decide +kernel)
set_option maxRecDepth 65536 in
theorem w_c4 : (Jvm.Cond.code ({ cls := "java/lang/StringUTF16", name := "compress", desc := "([CII)[B" } : Jvm.MethodName) jdk_52_method_16_code (6 : Nat) (Option.some (Jvm.ClassFile.FieldType.array Jvm.ClassFile.FieldType.byte))).before args0 about1 = true := code_word (m := ⟨8, 2⟩) (meth := k8m2) (c := k8c2) (by decide +kernel) rfl rfl rfl (by decide +kernel)
set_option maxRecDepth 65536 in
theorem w_c5 : (Jvm.Cond.code ({ cls := "java/lang/StringUTF16", name := "compress", desc := "([CI[BII)I" } : Jvm.MethodName) jdk_52_method_21_code (7 : Nat) (Option.some Jvm.ClassFile.FieldType.int)).before args0 about1 = true := code_word (m := ⟨8, 3⟩) (meth := k8m3) (c := k8c3) (by decide +kernel) rfl rfl rfl (by decide +kernel)
set_option maxRecDepth 65536 in
theorem w_c6 : (Jvm.Cond.code ({ cls := "java/lang/StringUTF16", name := "coderFromArrayLen", desc := "([BI)B" } : Jvm.MethodName) jdk_52_method_15_code (2 : Nat) (Option.some Jvm.ClassFile.FieldType.byte)).before args0 about1 = true := code_word (m := ⟨8, 1⟩) (meth := k8m1) (c := k8c1) (by decide +kernel) rfl rfl rfl (by decide +kernel)
set_option maxRecDepth 65536 in
theorem w_c7 : (Jvm.Cond.code ({ cls := "com/example/resolvent/resolvent/SourceLocation", name := "<init>", desc := "(II)V" } : Jvm.MethodName) prog_107_method_1_code (3 : Nat) (Option.none : Option Jvm.ClassFile.FieldType)).before args0 about1 = true := code_word (m := ⟨12, 0⟩) (meth := k12m0) (c := k12c0) (by decide +kernel) rfl rfl rfl (by decide +kernel)
set_option maxRecDepth 65536 in
theorem w_c8 : (Jvm.Cond.code ({ cls := "java/lang/Record", name := "<init>", desc := "()V" } : Jvm.MethodName) jdk_30_method_1_code (1 : Nat) (Option.none : Option Jvm.ClassFile.FieldType)).before args0 about1 = true := code_word (m := ⟨9, 0⟩) (meth := k9m0) (c := k9c0) (by decide +kernel) rfl rfl rfl (by decide +kernel)
set_option maxRecDepth 65536 in
theorem w_c9 : (Jvm.Cond.code ({ cls := "java/util/ArrayList", name := "<init>", desc := "()V" } : Jvm.MethodName) jdk_38_method_2_code (1 : Nat) (Option.none : Option Jvm.ClassFile.FieldType)).before args0 about1 = true := code_word (m := ⟨21, 0⟩) (meth := k21m0) (c := k21c0) (by decide +kernel) rfl rfl rfl (by decide +kernel)
set_option maxRecDepth 65536 in
theorem w_c10 : (Jvm.Cond.code ({ cls := "java/util/AbstractList", name := "<init>", desc := "()V" } : Jvm.MethodName) jdk_39_method_1_code (1 : Nat) (Option.none : Option Jvm.ClassFile.FieldType)).before args0 about1 = true := code_word (m := ⟨18, 0⟩) (meth := k18m0) (c := k18c0) (by decide +kernel) rfl rfl rfl (by decide +kernel)
set_option maxRecDepth 65536 in
theorem w_c11 : (Jvm.Cond.code ({ cls := "java/util/AbstractCollection", name := "<init>", desc := "()V" } : Jvm.MethodName) jdk_22_method_1_code (1 : Nat) (Option.none : Option Jvm.ClassFile.FieldType)).before args0 about1 = true := code_word (m := ⟨15, 0⟩) (meth := k15m0) (c := k15c0) (by decide +kernel) rfl rfl rfl (by decide +kernel)
set_option maxRecDepth 65536 in
theorem w_c12 : (Jvm.Cond.code ({ cls := "com/example/resolvent/resolvent/Ast$Field", name := "<init>", desc := "(Lcom/example/resolvent/resolvent/SourceLocation;Ljava/lang/String;Ljava/lang/String;Ljava/util/List;Ljava/util/List;Ljava/util/List;)V" } : Jvm.MethodName) prog_14_method_1_code (7 : Nat) (Option.none : Option Jvm.ClassFile.FieldType)).before args0 about1 = true := code_word (m := ⟨11, 0⟩) (meth := k11m0) (c := k11c0) (by decide +kernel) rfl rfl rfl (by decide +kernel)
set_option maxRecDepth 65536 in
theorem w_c13 : (Jvm.Cond.code ({ cls := "com/example/resolvent/resolvent/Ast$Field", name := "responseKey", desc := "()Ljava/lang/String;" } : Jvm.MethodName) prog_14_method_2_code (1 : Nat) (Option.some (Jvm.ClassFile.FieldType.object "java/lang/String"))).before args0 about1 = true := code_word (m := ⟨11, 1⟩) (meth := k11m1) (c := k11c1) (by decide +kernel) rfl rfl rfl (by decide +kernel)
set_option maxRecDepth 65536 in
theorem w_c14 : (Jvm.Cond.code ({ cls := "com/example/resolvent/resolvent/FieldResponseKeyPinLaw", name := "sameAs", desc := "(Ljava/lang/String;ZCC)Z" } : Jvm.MethodName) method_2_code (4 : Nat) (Option.some Jvm.ClassFile.FieldType.boolean)).before args0 about1 = true := code_word (m := ⟨1, 1⟩) (meth := k1m1) (c := k1c1) (by decide +kernel) rfl rfl rfl (by decide +kernel)
set_option maxRecDepth 65536 in
theorem w_c15 : (Jvm.Cond.code ({ cls := "java/lang/String", name := "length", desc := "()I" } : Jvm.MethodName) jdk_42_method_54_code (1 : Nat) (Option.some Jvm.ClassFile.FieldType.int)).before args0 about1 = true := code_word (m := ⟨7, 2⟩) (meth := k7m2) (c := k7c2) (by decide +kernel) rfl rfl rfl (by decide +kernel)
set_option maxRecDepth 65536 in
theorem w_c16 : (Jvm.Cond.code ({ cls := "java/lang/String", name := "coder", desc := "()B" } : Jvm.MethodName) jdk_42_method_152_code (1 : Nat) (Option.some Jvm.ClassFile.FieldType.byte)).before args0 about1 = true := code_word (m := ⟨7, 6⟩) (meth := k7m6) (c := k7c6) (by decide +kernel) rfl rfl rfl (by decide +kernel)
set_option maxRecDepth 65536 in
theorem w_c17 : (Jvm.Cond.code ({ cls := "java/lang/String", name := "charAt", desc := "(I)C" } : Jvm.MethodName) jdk_42_method_56_code (2 : Nat) (Option.some Jvm.ClassFile.FieldType.char)).before args0 about1 = true := code_word (m := ⟨7, 4⟩) (meth := k7m4) (c := k7c4) (by decide +kernel) rfl rfl rfl (by decide +kernel)
set_option maxRecDepth 65536 in
theorem w_c18 : (Jvm.Cond.code ({ cls := "java/lang/String", name := "isLatin1", desc := "()Z" } : Jvm.MethodName) jdk_42_method_154_code (1 : Nat) (Option.some Jvm.ClassFile.FieldType.boolean)).before args0 about1 = true := code_word (m := ⟨7, 7⟩) (meth := k7m7) (c := k7c7) (by decide +kernel) rfl rfl rfl (by decide +kernel)
set_option maxRecDepth 65536 in
theorem w_c19 : (Jvm.Cond.code ({ cls := "java/lang/StringLatin1", name := "charAt", desc := "([BI)C" } : Jvm.MethodName) jdk_43_method_2_code (2 : Nat) (Option.some Jvm.ClassFile.FieldType.char)).before args0 about1 = true := code_word (m := ⟨22, 1⟩) (meth := k22m1) (c := k22c1) (by decide +kernel) rfl rfl rfl (by decide +kernel)
set_option maxRecDepth 65536 in
theorem w_c20 : (Jvm.Cond.code ({ cls := "java/lang/String", name := "checkIndex", desc := "(II)V" } : Jvm.MethodName) jdk_42_method_155_code (2 : Nat) (Option.none : Option Jvm.ClassFile.FieldType)).before args0 about1 = true := code_word (m := ⟨7, 8⟩) (meth := k7m8) (c := k7c8) (by decide +kernel) rfl rfl rfl (by decide +kernel)
set_option maxRecDepth 65536 in
theorem w_c21 : (Jvm.Cond.code ({ cls := "jdk/internal/util/Preconditions", name := "checkIndex", desc := "(IILjava/util/function/BiFunction;)I" } : Jvm.MethodName) jdk_41_method_11_code (3 : Nat) (Option.some Jvm.ClassFile.FieldType.int)).before args0 about1 = true := code_word (m := ⟨23, 1⟩) (meth := k23m1) (c := k23c1) (by decide +kernel) rfl rfl rfl (by decide +kernel)
set_option maxRecDepth 65536 in
theorem w_c22 : (Jvm.Cond.code ({ cls := "java/lang/String", name := "isEmpty", desc := "()Z" } : Jvm.MethodName) jdk_42_method_55_code (1 : Nat) (Option.some Jvm.ClassFile.FieldType.boolean)).before args0 about1 = true := code_word (m := ⟨7, 3⟩) (meth := k7m3) (c := k7c3) (by decide +kernel) rfl rfl rfl (by decide +kernel)
def codes1 : List Jvm.Cond := [Jvm.Cond.code x code maxLocals ret, Jvm.Cond.code ({ cls := "java/lang/String", name := "<init>", desc := "([C)V" } : Jvm.MethodName) jdk_42_method_3_code (2 : Nat) (Option.none : Option Jvm.ClassFile.FieldType), Jvm.Cond.code ({ cls := "java/lang/String", name := "<init>", desc := "([CIILjava/lang/Void;)V" } : Jvm.MethodName) jdk_42_method_149_code (6 : Nat) (Option.none : Option Jvm.ClassFile.FieldType), Jvm.Cond.code ({ cls := "java/lang/Object", name := "<init>", desc := "()V" } : Jvm.MethodName) object_method_1_code (1 : Nat) (Option.none : Option Jvm.ClassFile.FieldType), Jvm.Cond.code ({ cls := "java/lang/StringUTF16", name := "compress", desc := "([CII)[B" } : Jvm.MethodName) jdk_52_method_16_code (6 : Nat) (Option.some (Jvm.ClassFile.FieldType.array Jvm.ClassFile.FieldType.byte)), Jvm.Cond.code ({ cls := "java/lang/StringUTF16", name := "compress", desc := "([CI[BII)I" } : Jvm.MethodName) jdk_52_method_21_code (7 : Nat) (Option.some Jvm.ClassFile.FieldType.int), Jvm.Cond.code ({ cls := "java/lang/StringUTF16", name := "coderFromArrayLen", desc := "([BI)B" } : Jvm.MethodName) jdk_52_method_15_code (2 : Nat) (Option.some Jvm.ClassFile.FieldType.byte), Jvm.Cond.code ({ cls := "com/example/resolvent/resolvent/SourceLocation", name := "<init>", desc := "(II)V" } : Jvm.MethodName) prog_107_method_1_code (3 : Nat) (Option.none : Option Jvm.ClassFile.FieldType), Jvm.Cond.code ({ cls := "java/lang/Record", name := "<init>", desc := "()V" } : Jvm.MethodName) jdk_30_method_1_code (1 : Nat) (Option.none : Option Jvm.ClassFile.FieldType), Jvm.Cond.code ({ cls := "java/util/ArrayList", name := "<init>", desc := "()V" } : Jvm.MethodName) jdk_38_method_2_code (1 : Nat) (Option.none : Option Jvm.ClassFile.FieldType), Jvm.Cond.code ({ cls := "java/util/AbstractList", name := "<init>", desc := "()V" } : Jvm.MethodName) jdk_39_method_1_code (1 : Nat) (Option.none : Option Jvm.ClassFile.FieldType), Jvm.Cond.code ({ cls := "java/util/AbstractCollection", name := "<init>", desc := "()V" } : Jvm.MethodName) jdk_22_method_1_code (1 : Nat) (Option.none : Option Jvm.ClassFile.FieldType), Jvm.Cond.code ({ cls := "com/example/resolvent/resolvent/Ast$Field", name := "<init>", desc := "(Lcom/example/resolvent/resolvent/SourceLocation;Ljava/lang/String;Ljava/lang/String;Ljava/util/List;Ljava/util/List;Ljava/util/List;)V" } : Jvm.MethodName) prog_14_method_1_code (7 : Nat) (Option.none : Option Jvm.ClassFile.FieldType), Jvm.Cond.code ({ cls := "com/example/resolvent/resolvent/Ast$Field", name := "responseKey", desc := "()Ljava/lang/String;" } : Jvm.MethodName) prog_14_method_2_code (1 : Nat) (Option.some (Jvm.ClassFile.FieldType.object "java/lang/String")), Jvm.Cond.code ({ cls := "com/example/resolvent/resolvent/FieldResponseKeyPinLaw", name := "sameAs", desc := "(Ljava/lang/String;ZCC)Z" } : Jvm.MethodName) method_2_code (4 : Nat) (Option.some Jvm.ClassFile.FieldType.boolean), Jvm.Cond.code ({ cls := "java/lang/String", name := "length", desc := "()I" } : Jvm.MethodName) jdk_42_method_54_code (1 : Nat) (Option.some Jvm.ClassFile.FieldType.int), Jvm.Cond.code ({ cls := "java/lang/String", name := "coder", desc := "()B" } : Jvm.MethodName) jdk_42_method_152_code (1 : Nat) (Option.some Jvm.ClassFile.FieldType.byte), Jvm.Cond.code ({ cls := "java/lang/String", name := "charAt", desc := "(I)C" } : Jvm.MethodName) jdk_42_method_56_code (2 : Nat) (Option.some Jvm.ClassFile.FieldType.char), Jvm.Cond.code ({ cls := "java/lang/String", name := "isLatin1", desc := "()Z" } : Jvm.MethodName) jdk_42_method_154_code (1 : Nat) (Option.some Jvm.ClassFile.FieldType.boolean), Jvm.Cond.code ({ cls := "java/lang/StringLatin1", name := "charAt", desc := "([BI)C" } : Jvm.MethodName) jdk_43_method_2_code (2 : Nat) (Option.some Jvm.ClassFile.FieldType.char), Jvm.Cond.code ({ cls := "java/lang/String", name := "checkIndex", desc := "(II)V" } : Jvm.MethodName) jdk_42_method_155_code (2 : Nat) (Option.none : Option Jvm.ClassFile.FieldType), Jvm.Cond.code ({ cls := "jdk/internal/util/Preconditions", name := "checkIndex", desc := "(IILjava/util/function/BiFunction;)I" } : Jvm.MethodName) jdk_41_method_11_code (3 : Nat) (Option.some Jvm.ClassFile.FieldType.int), Jvm.Cond.code ({ cls := "java/lang/String", name := "isEmpty", desc := "()Z" } : Jvm.MethodName) jdk_42_method_55_code (1 : Nat) (Option.some Jvm.ClassFile.FieldType.boolean)]
set_option maxRecDepth 65536 in
theorem codes_eq : words1.filter isCode = codes1 := rfl
theorem w_codes : ∀ c ∈ words1.filter isCode, c.before args0 about1 = true := by
  rw [codes_eq]
  intro c hc
  simp only [codes1, List.mem_cons, List.not_mem_nil, or_false] at hc
  rcases hc with rfl | rfl | rfl | rfl | rfl | rfl | rfl | rfl | rfl | rfl | rfl | rfl | rfl | rfl | rfl | rfl | rfl | rfl | rfl | rfl | rfl | rfl | rfl
  · exact w_c0
  · exact w_c1
  · exact w_c2
  · exact w_c3
  · exact w_c4
  · exact w_c5
  · exact w_c6
  · exact w_c7
  · exact w_c8
  · exact w_c9
  · exact w_c10
  · exact w_c11
  · exact w_c12
  · exact w_c13
  · exact w_c14
  · exact w_c15
  · exact w_c16
  · exact w_c17
  · exact w_c18
  · exact w_c19
  · exact w_c20
  · exact w_c21
  · exact w_c22
set_option maxRecDepth 65536 in
theorem w_t1 : (words1.take 24).all (fun c => isCode c || c.before args0 about1) = true := by decide +kernel
set_option maxRecDepth 65536 in
theorem w_t2 : ((words1.drop 24).take 24).all (fun c => isCode c || c.before args0 about1) = true := by decide +kernel
set_option maxRecDepth 65536 in
theorem w_t3 : (((words1.drop 24).drop 24).take 24).all (fun c => isCode c || c.before args0 about1) = true := by decide +kernel
set_option maxRecDepth 65536 in
theorem w_t4 : ((((words1.drop 24).drop 24).drop 24).take 24).all (fun c => isCode c || c.before args0 about1) = true := by decide +kernel
set_option maxRecDepth 65536 in
theorem w_t5 : (((((words1.drop 24).drop 24).drop 24).drop 24).take 24).all (fun c => isCode c || c.before args0 about1) = true := by decide +kernel
set_option maxRecDepth 65536 in
theorem w_t6 : (((((words1.drop 24).drop 24).drop 24).drop 24).drop 24).all (fun c => isCode c || c.before args0 about1) = true := by decide +kernel
theorem w_tables : (allAtoms (Jvm.Cond.code x code maxLocals ret :: tables_1)).before args0 about1 = true := by
  rw [allAtoms_all]
  show words1.all (fun c => c.before args0 about1) = true
  refine all_split ?_ w_codes
  rw [← List.take_append_drop 24 words1, List.all_append, w_t1, ← List.take_append_drop 24 (words1.drop 24), List.all_append, w_t2, ← List.take_append_drop 24 ((words1.drop 24).drop 24), List.all_append, w_t3, ← List.take_append_drop 24 (((words1.drop 24).drop 24).drop 24), List.all_append, w_t4, ← List.take_append_drop 24 ((((words1.drop 24).drop 24).drop 24).drop 24), List.all_append, w_t5, w_t6]
  rfl
set_option maxRecDepth 65536 in
theorem w_rest : rest_1_c.before args0 about1 = true := by decide +kernel
set_option maxRecDepth 65536 in
theorem w_case : (Jvm.Cond.and given_1 narrow_1).before args0 about1 = true := by decide +kernel
set_option maxRecDepth 65536 in
theorem w_consts : constsHeld consts_1 about1 := Jvm.Lit.constsHeldB_iff.mp (by decide +kernel)
theorem w_applies : (headSpec (Jvm.Cond.code x code maxLocals ret :: tables_1) room_1).applies x e0.platform about1 = true :=
  (Spec.applies_iff w_frames).mpr ⟨w_running, w_runnable, w_alone, w_named, w_hears, w_ripe, w_room, w_tables⟩
theorem atStart : AtStart classFile x code maxLocals ret World_1 tables_1 room_1 Calls_1 rest_1 Pre_1 launch0 p0 e0 about1 theMethod args0 below0 :=
  ⟨lists_1, trivial, launch0.admits_env _ _ _, launch0.least_env, fairChoices_fair.cas, fairChoices_fair.clock, w_frames, w_args, w_heap, w_applies, ⟨w_consts, trivial⟩, w_rest, w_case⟩
end start1
theorem witness_1 : WitnessClaimed_1 := ⟨start1.p0, start1.e0, start1.about1, start1.theMethod, start1.args0, start1.below0, start1.atStart⟩
end Jvm.Pilot.@@N@@
