import JvmDerived
import JvmDerived.Pilot.@@N@@Statement
import JvmDerived.Pilot.@@N@@Code
set_option linter.unusedVariables false
set_option linter.unusedSimpArgs false
namespace Jvm.OwnW
open Jvm Jvm.ClassFile Sem Op Lib Jvm.Free Jvm.Stand Jvm.LawKit Jvm.RoadKit Bundle
/-- the walk stands at pc, over the heap h; k cells and n slots have come; nothing that stood at the start is written -/
def At0 (p : Program) (l : Launch) (e : Env) (R : Room) (s : State) (m : MethodId) (args : Array Value) (below : List Frame) (meth : Method) (c : Code) (n0 : Nat) (S0 : State) (h : Heap) (k n pc : Nat) (Ls : Array Slot) (st : List Value) : Prop :=
  ∃ (T : State) (locs : List Loc), Stand p l e R s m args below meth c T locs k n ∧ T.heap = h ∧ Fr n0 locs ∧ ∀ t, Steps p.tables e below (T.setTop (mkF m pc Ls st)) t → Steps p.tables e below S0 t
/-- the walk has returned v, over the heap h -/
def End0 (p : Program) (e : Env) (R : Room) (s : State) (below : List Frame) (n0 : Nat) (S0 : State) (v : Option Value) (h : Heap) : Prop :=
  ∃ (s₂ : State) (L : List Loc), Steps p.tables e below S0 s₂ ∧ s₂.status = .running ∧ Ended s₂ below (.returned v) ∧ s₂.heap = h ∧ Fr n0 L ∧ FrameEnd s (.returned v) s₂ L R.cells R.slots
abbrev WT := Heap → Nat → Nat → Nat → Array Slot → List Value → Prop
abbrev VT := Option Value → Heap → Prop
/-- W and V are of one walk of the body of y -/
def Wk (l : Launch) (Z : State) (y : MethodName) (code : ByteArray) (mx : Nat) (ret : Option FieldType) (R : Room) (n0 : Nat) (W : WT) (V : VT) : Prop :=
  ∃ (p : Program) (e : Env) (s : State) (m : MethodId) (args : Array Value) (below : List Frame) (meth : Method) (c : Code) (S0 : State),
    p.tables.exec = Jvm.exec ∧ c.code = code ∧ c.maxLocals = mx ∧ s.vm.findClass y.cls = some m.cls ∧ Z.Warmed39 s.vm ∧ meth.name = y.name ∧ meth.sig.returnType = ret ∧ meth.locks = false ∧
    W = At0 p l e R s m args below meth c n0 S0 ∧ V = End0 p e R s below n0 S0
/-- a contract: called with 'as' over the heap h the method returns v and leaves h' with Q v h' -/
def Ct (l : Launch) (Z : State) (y : MethodName) (bytes : ByteArray) (mx : Nat) (ret : Option FieldType) (rm : Room) (n0 : Nat) (as : Array Value) (h : Heap) (Q : Option Value → Heap → Prop) : Prop :=
  ∀ ws : List Jvm.Cond, MetFree l y (head1 (Jvm.Cond.code y bytes mx ret :: ws) rm) (fun a U => a = as ∧ Z.Warmed39 U.vm ∧ U.heap = h) (fun _ _ _ _ _ => True) (fun _ U o U' => ∃ v L, o = .returned v ∧ (Q v U'.heap ∧ Fr n0 L) ∧ FrameEnd U o U' L rm.cells rm.slots)
theorem Ct.of {l : Launch} {Z : State} {y : MethodName} {bytes : ByteArray} {mx : Nat} {ret : Option FieldType} {rm : Room} {n0 : Nat} {as : Array Value} {h : Heap} {Q : Option Value → Heap → Prop} {Ls : Array Slot} (hpn : plainFor y = true) (hef : ∀ m, entryFrame m as mx = mkF m 0 Ls [])
    (body : ∀ W V, Wk l Z y bytes mx ret rm n0 W V → W h 0 0 0 Ls [] → ∃ v h', V v h' ∧ Q v h') : Ct l Z y bytes mx ret rm n0 as h Q := by
  intro ws
  refine MetFree.of_bodySF hpn hisR ?_
  intro p e s m args below meth c s₁ Bd hml0 hP hK
  obtain ⟨rfl, hZ, hh⟩ := hP
  have X0 : Stand p l e rm s m args below meth c s₁ [] 0 0 := Stand.of_body Bd
  have e0 : s₁.heap = h := by rw [← hh, Bd.state]; rfl
  obtain ⟨v, h', ⟨s₂, L, g1, g2, g3, g4, g5, g6⟩, hQ⟩ := body _ _ ⟨p, e, s, m, args, below, meth, c, s₁.setTop (entryFrame m args mx), Bd.exec, Bd.bytes, hml0, findClass_of_methodNamed Bd.named, hZ, (name_of_methodNamed Bd.named Bd.method).1, Bd.returns, Bd.notSynchronized, rfl, rfl⟩
    ⟨s₁, [], X0, e0, Fr.nil n0, fun t k => castTop (hef m) k⟩
  exact ⟨s₂, _, g1, g2, g3, v, L, rfl, ⟨by rw [g4]; exact hQ, g5⟩, g6⟩
theorem Ct.imp {l : Launch} {Z : State} {y : MethodName} {bytes : ByteArray} {mx : Nat} {ret : Option FieldType} {rm : Room} {n0 : Nat} {as : Array Value} {h : Heap} {Q Q' : Option Value → Heap → Prop} (hM : Ct l Z y bytes mx ret rm n0 as h Q) (hi : ∀ v h', Q v h' → Q' v h') : Ct l Z y bytes mx ret rm n0 as h Q' := by
  intro ws p e ha hc hk s m args below hf happ hP hK
  obtain ⟨n, o, h1, h2, h3, v, L, g1, ⟨g2, g3⟩, g4⟩ := hM ws p e ha hc hk s m args below hf happ hP hK
  exact ⟨n, o, h1, h2, h3, v, L, g1, ⟨hi _ _ g2, g3⟩, g4⟩
/-- the class that declares z is no interface, by a word of the sheet -/
def NF (Z : State) (a0 : Array Value) (z : MethodName) : Prop := (∃ C z2, (Jvm.Cond.selects C z2 z2).before a0 Z = true ∧ z2.cls = z.cls) ∨ (∃ S, (Jvm.Cond.superclass z.cls S).before a0 Z = true) ∨ (Jvm.Cond.noSuperclass z.cls).before a0 Z = true
theorem NF.at {Z s : State} {a0 : Array Value} {z : MethodName} (hZ : Z.Warmed39 s.vm) (f : NF Z a0 z) : NotFace s z := by
  rcases f with ⟨C, z2, w, e⟩ | ⟨S, w⟩ | w
  · intro r0 h0
    obtain ⟨c2, r2, m2, q1, q2, q3, q4, kP, hkP, hkPi⟩ := Cond.selects_spec (mvT (args := #[]) hZ w)
    have a := findClass_of_methodNamed h0
    have b := findClass_of_methodNamed q3
    rw [e] at b
    have d : r0.cls = m2.cls := Option.some.inj (a.symm.trans b)
    exact ⟨kP, by rw [d]; exact hkP, hkPi⟩
  · exact nf_super (args := #[]) (mvT hZ w)
  · exact nf_top (args := #[]) (mvT hZ w)
section Steps
variable {l : Launch} {Z : State} {y : MethodName} {code : ByteArray} {mx : Nat} {ret : Option FieldType} {R : Room} {n0 : Nat} {W : WT} {V : VT} {h : Heap} {k n pc pc' : Nat} {Ls Ls' : Array Slot} {st st' : List Value} {a0 : Array Value}
/-- a plain step, by the library's law for it -/
theorem Wk.step (H : Wk l Z y code mx ret R n0 W V) (r : W h k n pc Ls st)
    (f : ∀ {tb : Tables} [Ours tb] {e : Env} {below : List Frame} {T t : State} {m : MethodId} {c : Code}, At T m c below → tb.exec = Jvm.exec → c.code = code → Steps tb e below (T.setTop (mkF m pc' Ls' st')) t → Steps tb e below (T.setTop (mkF m pc Ls st)) t) : W h k n pc' Ls' st' := by
  obtain ⟨p, e, s, m, args, below, meth, c, S0, hx, hby, hml, hown, hZ, hnm, hret, hlk, rfl, rfl⟩ := H
  obtain ⟨T, locs, X, eh, N, sp⟩ := r
  exact ⟨T, locs, X, eh, N, fun t q => sp t (f X.here hx hby q)⟩
/-- the account of cells and slots may be widened -/
theorem Wk.more (H : Wk l Z y code mx ret R n0 W V) {k' n' : Nat} (hk : k ≤ k') (hn : n ≤ n') (r : W h k n pc Ls st) : W h k' n' pc Ls st := by
  obtain ⟨p, e, s, m, args, below, meth, c, S0, hx, hby, hml, hown, hZ, hnm, hret, hlk, rfl, rfl⟩ := H
  obtain ⟨T, locs, X, eh, N, sp⟩ := r
  exact ⟨T, locs, X.mono hk hn, eh, N, sp⟩
/-- a step that reads the tables or the heap -/
theorem Wk.stepX (H : Wk l Z y code mx ret R n0 W V) (r : W h k n pc Ls st)
    (f : ∀ {p : Program} {e : Env} {s : State} {m : MethodId} {args : Array Value} {below : List Frame} {meth : Method} {c : Code} {T : State} {locs : List Loc}, Stand p l e R s m args below meth c T locs k n → p.tables.exec = Jvm.exec → c.code = code → c.maxLocals = mx → s.vm.findClass y.cls = some m.cls → Z.Warmed39 s.vm → T.heap = h → ∃ T', Stand p l e R s m args below meth c T' locs k n ∧ T'.heap = h ∧ ∀ t, Steps p.tables e below (T'.setTop (mkF m pc' Ls' st')) t → Steps p.tables e below (T.setTop (mkF m pc Ls st)) t) : W h k n pc' Ls' st' := by
  obtain ⟨p, e, s, m, args, below, meth, c, S0, hx, hby, hml, hown, hZ, hnm, hret, hlk, rfl, rfl⟩ := H
  obtain ⟨T, locs, X, eh, N, sp⟩ := r
  obtain ⟨T', X', e', q⟩ := f X hx hby hml hown hZ eh
  exact ⟨T', locs, X', e', N, fun t u => sp t (q t u)⟩
theorem Wk.aloadN (H : Wk l Z y code mx ret R n0 W V) {i : Fin 4} {v : Value} (hd : decode code pc = .ok (.aload_n i, 1)) (r : W h k n pc Ls (st)) (hl : Ls[i.val]? = some (.val v)) (hv : v.isRef = true) : W h k n (pc + 1) Ls (v :: st) :=
  H.step r fun A hx hby q => XS.aloadN A hx rfl (hb hby hd) hl hv q
theorem Wk.aload (H : Wk l Z y code mx ret R n0 W V) {i : Nat} {v : Value} (hd : decode code pc = .ok (.aload i, 2)) (r : W h k n pc Ls (st)) (hl : Ls[i]? = some (.val v)) (hv : v.isRef = true) : W h k n (pc + 2) Ls (v :: st) :=
  H.step r fun A hx hby q => XS.aload A hx rfl (hb hby hd) hl hv q
theorem Wk.iloadN (H : Wk l Z y code mx ret R n0 W V) {i : Fin 4} {v : Int32} (hd : decode code pc = .ok (.iload_n i, 1)) (r : W h k n pc Ls (st)) (hl : Ls[i.val]? = some (.val (.int v))) : W h k n (pc + 1) Ls (.int v :: st) :=
  H.step r fun A hx hby q => XS.iloadN A hx rfl (hb hby hd) hl q
theorem Wk.iload (H : Wk l Z y code mx ret R n0 W V) {i : Nat} {v : Int32} (hd : decode code pc = .ok (.iload i, 2)) (r : W h k n pc Ls (st)) (hl : Ls[i]? = some (.val (.int v))) : W h k n (pc + 2) Ls (.int v :: st) :=
  H.step r fun A hx hby q => XS.iload A hx rfl (hb hby hd) hl q
theorem Wk.lloadN (H : Wk l Z y code mx ret R n0 W V) {i : Fin 4} {v : Int64} (hd : decode code pc = .ok (.lload_n i, 1)) (r : W h k n pc Ls (st)) (hl : Ls[i.val]? = some (.val (.long v))) : W h k n (pc + 1) Ls (.long v :: st) :=
  H.step r fun A hx hby q => XS.lloadN A hx rfl (hb hby hd) hl q
theorem Wk.lload (H : Wk l Z y code mx ret R n0 W V) {i : Nat} {v : Int64} (hd : decode code pc = .ok (.lload i, 2)) (r : W h k n pc Ls (st)) (hl : Ls[i]? = some (.val (.long v))) : W h k n (pc + 2) Ls (.long v :: st) :=
  H.step r fun A hx hby q => XS.lload A hx rfl (hb hby hd) hl q
theorem Wk.floadN (H : Wk l Z y code mx ret R n0 W V) {i : Fin 4} {v : UInt32} (hd : decode code pc = .ok (.fload_n i, 1)) (r : W h k n pc Ls (st)) (hl : Ls[i.val]? = some (.val (.float v))) : W h k n (pc + 1) Ls (.float v :: st) :=
  H.step r fun A hx hby q => XS.floadN A hx rfl (hb hby hd) hl q
theorem Wk.iconst (H : Wk l Z y code mx ret R n0 W V) {i : Int} {z : Int32} (hd : decode code pc = .ok (.iconst i, 1)) (r : W h k n pc Ls st) (hz : Int32.ofInt i = z) : W h k n (pc + 1) Ls (.int z :: st) := by
  subst hz
  exact H.step r fun A hx hby q => XS.iconst A hx rfl (hb hby hd) q
theorem Wk.bipush (H : Wk l Z y code mx ret R n0 W V) {i : Int} {z : Int32} (hd : decode code pc = .ok (.bipush i, 2)) (r : W h k n pc Ls st) (hz : (Int8.ofInt i).toInt32 = z) : W h k n (pc + 2) Ls (.int z :: st) := by
  subst hz
  exact H.step r fun A hx hby q => XS.bipush A hx rfl (hb hby hd) q
theorem Wk.sipush (H : Wk l Z y code mx ret R n0 W V) {i : Int} {z : Int32} (hd : decode code pc = .ok (.sipush i, 3)) (r : W h k n pc Ls st) (hz : (Int16.ofInt i).toInt32 = z) : W h k n (pc + 3) Ls (.int z :: st) := by
  subst hz
  exact H.step r fun A hx hby q => XS.sipush A hx rfl (hb hby hd) q
theorem Wk.lconst (H : Wk l Z y code mx ret R n0 W V) {i : Fin 2} {z : Int64} (hd : decode code pc = .ok (.lconst i, 1)) (r : W h k n pc Ls st) (hz : Int64.ofNat i = z) : W h k n (pc + 1) Ls (.long z :: st) := by
  subst hz
  exact H.step r fun A hx hby q => XS.lconst A hx rfl (hb hby hd) q
theorem Wk.fconst0 (H : Wk l Z y code mx ret R n0 W V) {v : UInt32} (hd : decode code pc = .ok (.fconst 0, 1)) (r : W h k n pc Ls st) (hv : FP.fconst0 = v) : W h k n (pc + 1) Ls (.float v :: st) :=
  H.step r fun A hx hby q => XS.fconst0 A hx rfl (hb hby hd) hv q
theorem Wk.fcmp (H : Wk l Z y code mx ret R n0 W V) {o : CmpOp} {x z : UInt32} {v : Int32} (hd : decode code pc = .ok (.fcmp o, 1)) (r : W h k n pc Ls (.float z :: .float x :: st)) (hv : cmpValue (FP.fcmp x z) o = v) : W h k n (pc + 1) Ls (.int v :: st) :=
  H.step r fun A hx hby q => XS.fcmpS A hx rfl (hb hby hd) rfl hv q
theorem Wk.aconstNull (H : Wk l Z y code mx ret R n0 W V) (hd : decode code pc = .ok (.aconst_null, 1)) (r : W h k n pc Ls (st)) : W h k n (pc + 1) Ls (.null :: st) :=
  H.step r fun A hx hby q => XS.aconstNull A hx rfl (hb hby hd)  q
theorem Wk.iadd (H : Wk l Z y code mx ret R n0 W V) {a b : Int32} (hd : decode code pc = .ok (.iadd, 1)) (r : W h k n pc Ls (.int b :: .int a :: st)) : W h k n (pc + 1) Ls (.int (a + b) :: st) :=
  H.step r fun A hx hby q => XS.iadd A hx rfl (hb hby hd) rfl q
theorem Wk.isub (H : Wk l Z y code mx ret R n0 W V) {a b : Int32} (hd : decode code pc = .ok (.isub, 1)) (r : W h k n pc Ls (.int b :: .int a :: st)) : W h k n (pc + 1) Ls (.int (a - b) :: st) :=
  H.step r fun A hx hby q => XS.isub A hx rfl (hb hby hd) rfl q
theorem Wk.iand (H : Wk l Z y code mx ret R n0 W V) {a b : Int32} (hd : decode code pc = .ok (.iand, 1)) (r : W h k n pc Ls (.int b :: .int a :: st)) : W h k n (pc + 1) Ls (.int (a &&& b) :: st) :=
  H.step r fun A hx hby q => XS.iand A hx rfl (hb hby hd) rfl q
theorem Wk.imul (H : Wk l Z y code mx ret R n0 W V) {a b : Int32} (hd : decode code pc = .ok (.imul, 1)) (r : W h k n pc Ls (.int b :: .int a :: st)) : W h k n (pc + 1) Ls (.int (a * b) :: st) :=
  H.step r fun A hx hby q => XS.imul A hx rfl (hb hby hd) rfl q
theorem Wk.ior (H : Wk l Z y code mx ret R n0 W V) {a b : Int32} (hd : decode code pc = .ok (.ior, 1)) (r : W h k n pc Ls (.int b :: .int a :: st)) : W h k n (pc + 1) Ls (.int (a ||| b) :: st) :=
  H.step r fun A hx hby q => XS.ior A hx rfl (hb hby hd) rfl q
theorem Wk.ixor (H : Wk l Z y code mx ret R n0 W V) {a b : Int32} (hd : decode code pc = .ok (.ixor, 1)) (r : W h k n pc Ls (.int b :: .int a :: st)) : W h k n (pc + 1) Ls (.int (a ^^^ b) :: st) :=
  H.step r fun A hx hby q => XS.ixor A hx rfl (hb hby hd) rfl q
theorem Wk.ishl (H : Wk l Z y code mx ret R n0 W V) {a b : Int32} (hd : decode code pc = .ok (.ishl, 1)) (r : W h k n pc Ls (.int b :: .int a :: st)) : W h k n (pc + 1) Ls (.int (a <<< (b &&& 31)) :: st) :=
  H.step r fun A hx hby q => XS.ishl A hx rfl (hb hby hd) rfl q
theorem Wk.ishr (H : Wk l Z y code mx ret R n0 W V) {a b : Int32} (hd : decode code pc = .ok (.ishr, 1)) (r : W h k n pc Ls (.int b :: .int a :: st)) : W h k n (pc + 1) Ls (.int (a >>> (b &&& 31)) :: st) :=
  H.step r fun A hx hby q => XS.ishr A hx rfl (hb hby hd) rfl q
theorem Wk.iushr (H : Wk l Z y code mx ret R n0 W V) {a b : Int32} (hd : decode code pc = .ok (.iushr, 1)) (r : W h k n pc Ls (.int b :: .int a :: st)) : W h k n (pc + 1) Ls (.int ((a.toUInt32 >>> (b &&& 31).toUInt32).toInt32) :: st) :=
  H.step r fun A hx hby q => XS.iushr A hx rfl (hb hby hd) rfl q
theorem Wk.ladd (H : Wk l Z y code mx ret R n0 W V) {a b : Int64} (hd : decode code pc = .ok (.ladd, 1)) (r : W h k n pc Ls (.long b :: .long a :: st)) : W h k n (pc + 1) Ls (.long (a + b) :: st) :=
  H.step r fun A hx hby q => XS.ladd A hx rfl (hb hby hd) rfl q
theorem Wk.lsub (H : Wk l Z y code mx ret R n0 W V) {a b : Int64} (hd : decode code pc = .ok (.lsub, 1)) (r : W h k n pc Ls (.long b :: .long a :: st)) : W h k n (pc + 1) Ls (.long (a - b) :: st) :=
  H.step r fun A hx hby q => XS.lsub A hx rfl (hb hby hd) rfl q
theorem Wk.lmul (H : Wk l Z y code mx ret R n0 W V) {a b : Int64} (hd : decode code pc = .ok (.lmul, 1)) (r : W h k n pc Ls (.long b :: .long a :: st)) : W h k n (pc + 1) Ls (.long (a * b) :: st) :=
  H.step r fun A hx hby q => XS.lmul A hx rfl (hb hby hd) rfl q
theorem Wk.land (H : Wk l Z y code mx ret R n0 W V) {a b : Int64} (hd : decode code pc = .ok (.land, 1)) (r : W h k n pc Ls (.long b :: .long a :: st)) : W h k n (pc + 1) Ls (.long (a &&& b) :: st) :=
  H.step r fun A hx hby q => XS.land A hx rfl (hb hby hd) rfl q
theorem Wk.lor (H : Wk l Z y code mx ret R n0 W V) {a b : Int64} (hd : decode code pc = .ok (.lor, 1)) (r : W h k n pc Ls (.long b :: .long a :: st)) : W h k n (pc + 1) Ls (.long (a ||| b) :: st) :=
  H.step r fun A hx hby q => XS.lor A hx rfl (hb hby hd) rfl q
theorem Wk.lxor (H : Wk l Z y code mx ret R n0 W V) {a b : Int64} (hd : decode code pc = .ok (.lxor, 1)) (r : W h k n pc Ls (.long b :: .long a :: st)) : W h k n (pc + 1) Ls (.long (a ^^^ b) :: st) :=
  H.step r fun A hx hby q => XS.lxor A hx rfl (hb hby hd) rfl q
theorem Wk.lshl (H : Wk l Z y code mx ret R n0 W V) {a : Int64} {b : Int32} (hd : decode code pc = .ok (.lshl, 1)) (r : W h k n pc Ls (.int b :: .long a :: st)) : W h k n (pc + 1) Ls (.long (a <<< (b &&& 0x3f).toInt64) :: st) :=
  H.step r fun A hx hby q => XS.lshl A hx rfl (hb hby hd) rfl q
theorem Wk.lshr (H : Wk l Z y code mx ret R n0 W V) {a : Int64} {b : Int32} (hd : decode code pc = .ok (.lshr, 1)) (r : W h k n pc Ls (.int b :: .long a :: st)) : W h k n (pc + 1) Ls (.long (a >>> (b &&& 0x3f).toInt64) :: st) :=
  H.step r fun A hx hby q => XS.lshr A hx rfl (hb hby hd) rfl q
theorem Wk.lushr (H : Wk l Z y code mx ret R n0 W V) {a : Int64} {b : Int32} (hd : decode code pc = .ok (.lushr, 1)) (r : W h k n pc Ls (.int b :: .long a :: st)) : W h k n (pc + 1) Ls (.long ((a.toUInt64 >>> (b &&& 0x3f).toInt64.toUInt64).toInt64) :: st) :=
  H.step r fun A hx hby q => XS.lushr A hx rfl (hb hby hd) rfl q
theorem Wk.ldiv (H : Wk l Z y code mx ret R n0 W V) {a b : Int64} (hd : decode code pc = .ok (.ldiv, 1)) (r : W h k n pc Ls (.long b :: .long a :: st)) (hy : b ≠ 0) : W h k n (pc + 1) Ls (.long (a / b) :: st) :=
  H.step r fun A hx hby q => XS.ldiv A hx rfl (hb hby hd) rfl hy q
theorem Wk.idiv (H : Wk l Z y code mx ret R n0 W V) {a b : Int32} (hd : decode code pc = .ok (.idiv, 1)) (r : W h k n pc Ls (.int b :: .int a :: st)) (hy : b ≠ 0) : W h k n (pc + 1) Ls (.int (a / b) :: st) :=
  H.step r fun A hx hby q => XS.idiv A hx rfl (hb hby hd) rfl hy q
theorem Wk.lrem (H : Wk l Z y code mx ret R n0 W V) {a b : Int64} (hd : decode code pc = .ok (.lrem, 1)) (r : W h k n pc Ls (.long b :: .long a :: st)) (hy : b ≠ 0) : W h k n (pc + 1) Ls (.long (a % b) :: st) := by
  rw [← lrem_mod a b]
  exact H.step r fun A hx hby q => XS.lrem A hx rfl (hb hby hd) rfl hy q
theorem Wk.irem (H : Wk l Z y code mx ret R n0 W V) {a b : Int32} (hd : decode code pc = .ok (.irem, 1)) (r : W h k n pc Ls (.int b :: .int a :: st)) (hy : b ≠ 0) : W h k n (pc + 1) Ls (.int (a % b) :: st) :=
  H.stepX r fun X hx hby hml hown hZ eT => ⟨_, X, eT, fun t q => iremM X hx rfl (hb hby hd) rfl hy q⟩
theorem Wk.i2b (H : Wk l Z y code mx ret R n0 W V) {a : Int32} (hd : decode code pc = .ok (.i2b, 1)) (r : W h k n pc Ls (.int a :: st)) : W h k n (pc + 1) Ls (.int (a.toInt8.toInt32) :: st) :=
  H.step r fun A hx hby q => XS.i2b A hx rfl (hb hby hd) rfl q
theorem Wk.i2c (H : Wk l Z y code mx ret R n0 W V) {a : Int32} (hd : decode code pc = .ok (.i2c, 1)) (r : W h k n pc Ls (.int a :: st)) : W h k n (pc + 1) Ls (.int (a.toUInt32.toUInt16.toUInt32.toInt32) :: st) :=
  H.step r fun A hx hby q => XS.i2c A hx rfl (hb hby hd) rfl q
theorem Wk.i2s (H : Wk l Z y code mx ret R n0 W V) {a : Int32} (hd : decode code pc = .ok (.i2s, 1)) (r : W h k n pc Ls (.int a :: st)) : W h k n (pc + 1) Ls (.int (a.toInt16.toInt32) :: st) :=
  H.step r fun A hx hby q => XS.i2s A hx rfl (hb hby hd) rfl q
theorem Wk.i2l (H : Wk l Z y code mx ret R n0 W V) {a : Int32} (hd : decode code pc = .ok (.i2l, 1)) (r : W h k n pc Ls (.int a :: st)) : W h k n (pc + 1) Ls (.long (a.toInt64) :: st) :=
  H.step r fun A hx hby q => XS.i2l A hx rfl (hb hby hd) rfl q
theorem Wk.l2i (H : Wk l Z y code mx ret R n0 W V) {a : Int64} (hd : decode code pc = .ok (.l2i, 1)) (r : W h k n pc Ls (.long a :: st)) : W h k n (pc + 1) Ls (.int (a.toInt32) :: st) :=
  H.step r fun A hx hby q => XS.l2i A hx rfl (hb hby hd) rfl q
theorem Wk.ineg (H : Wk l Z y code mx ret R n0 W V) {a : Int32} (hd : decode code pc = .ok (.ineg, 1)) (r : W h k n pc Ls (.int a :: st)) : W h k n (pc + 1) Ls (.int (-a) :: st) :=
  H.step r fun A hx hby q => XS.ineg A hx rfl (hb hby hd) rfl q
theorem Wk.lcmp (H : Wk l Z y code mx ret R n0 W V) {a b : Int64} (hd : decode code pc = .ok (.lcmp, 1)) (r : W h k n pc Ls (.long b :: .long a :: st)) : W h k n (pc + 1) Ls (.int (lcmpW a b) :: st) :=
  H.step r fun A hx hby q => XS.lcmp A hx rfl (hb hby hd) rfl q
theorem Wk.dup (H : Wk l Z y code mx ret R n0 W V) {v : Value} (hd : decode code pc = .ok (.dup, 1)) (r : W h k n pc Ls (v :: st)) (hc : v.category = 1) : W h k n (pc + 1) Ls (v :: v :: st) :=
  H.step r fun A hx hby q => XS.dup A hx rfl (hb hby hd) rfl hc q
theorem Wk.pop (H : Wk l Z y code mx ret R n0 W V) {v : Value} (hd : decode code pc = .ok (.pop, 1)) (r : W h k n pc Ls (v :: st)) (hc : v.category = 1) : W h k n (pc + 1) Ls (st) :=
  H.step r fun A hx hby q => XS.pop A hx rfl (hb hby hd) rfl hc q
theorem Wk.dupX1 (H : Wk l Z y code mx ret R n0 W V) {v w : Value} (hd : decode code pc = .ok (.dup_x1, 1)) (r : W h k n pc Ls (v :: w :: st)) (hc : v.category = 1) (hc2 : w.category = 1) : W h k n (pc + 1) Ls (v :: w :: v :: st) :=
  H.step r fun A hx hby q => XS.dupX1 A hx rfl (hb hby hd) rfl hc hc2 q
theorem Wk.istoreN (H : Wk l Z y code mx ret R n0 W V) {i : Fin 4} {v : Int32} (hd : decode code pc = .ok (.istore_n i, 1)) (r : W h k n pc Ls (.int v :: st)) (hl : storeLocals Ls i.val (.int v) = some Ls') : W h k n (pc + 1) Ls' (st) :=
  H.step r fun A hx hby q => XS.istoreN A hx rfl (hb hby hd) rfl hl q
theorem Wk.istore (H : Wk l Z y code mx ret R n0 W V) {i : Nat} {v : Int32} (hd : decode code pc = .ok (.istore i, 2)) (r : W h k n pc Ls (.int v :: st)) (hl : storeLocals Ls i (.int v) = some Ls') : W h k n (pc + 2) Ls' (st) :=
  H.step r fun A hx hby q => XS.istore A hx rfl (hb hby hd) rfl hl q
theorem Wk.lstoreN (H : Wk l Z y code mx ret R n0 W V) {i : Fin 4} {v : Int64} (hd : decode code pc = .ok (.lstore_n i, 1)) (r : W h k n pc Ls (.long v :: st)) (hl : storeLocals Ls i.val (.long v) = some Ls') : W h k n (pc + 1) Ls' (st) :=
  H.step r fun A hx hby q => XS.lstoreN A hx rfl (hb hby hd) rfl hl q
theorem Wk.lstore (H : Wk l Z y code mx ret R n0 W V) {i : Nat} {v : Int64} (hd : decode code pc = .ok (.lstore i, 2)) (r : W h k n pc Ls (.long v :: st)) (hl : storeLocals Ls i (.long v) = some Ls') : W h k n (pc + 2) Ls' (st) :=
  H.step r fun A hx hby q => XS.lstore A hx rfl (hb hby hd) rfl hl q
theorem Wk.astoreN (H : Wk l Z y code mx ret R n0 W V) {i : Fin 4} {v : Value} (hd : decode code pc = .ok (.astore_n i, 1)) (r : W h k n pc Ls (v :: st)) (hv : v.isRef = true) (hl : storeLocals Ls i.val v = some Ls') : W h k n (pc + 1) Ls' (st) :=
  H.step r fun A hx hby q => XS.astoreN A hx rfl (hb hby hd) rfl hv hl q
theorem Wk.astore (H : Wk l Z y code mx ret R n0 W V) {i : Nat} {v : Value} (hd : decode code pc = .ok (.astore i, 2)) (r : W h k n pc Ls (v :: st)) (hv : v.isRef = true) (hl : storeLocals Ls i v = some Ls') : W h k n (pc + 2) Ls' (st) :=
  H.step r fun A hx hby q => XS.astore A hx rfl (hb hby hd) rfl hv hl q
theorem Wk.istoreNS (H : Wk l Z y code mx ret R n0 W V) {i : Fin 4} {v : Int32} {o : Slot} (hd : decode code pc = .ok (.istore_n i, 1)) (r : W h k n pc Ls (.int v :: st)) (hold : Ls[i.val]? = some o) (ho : One o) : W h k n (pc + 1) (Ls.setIfInBounds i.val (.val (.int v))) st :=
  H.step r fun A hx hby q => XS.istoreNS A hx rfl (hb hby hd) rfl hold ho q
theorem Wk.istoreS (H : Wk l Z y code mx ret R n0 W V) {i : Nat} {v : Int32} {o : Slot} (hd : decode code pc = .ok (.istore i, 2)) (r : W h k n pc Ls (.int v :: st)) (hold : Ls[i]? = some o) (ho : One o) : W h k n (pc + 2) (Ls.setIfInBounds i (.val (.int v))) st :=
  H.step r fun A hx hby q => XS.istoreS A hx rfl (hb hby hd) rfl hold ho q
theorem Wk.iinc (H : Wk l Z y code mx ret R n0 W V) {i : Nat} {cst : Int} {v z : Int32} (hd : decode code pc = .ok (.iinc i cst, 3)) (r : W h k n pc Ls (st)) (hz : v + Int32.ofInt cst = z) (hl : Ls[i]? = some (.val (.int v))) (hl' : storeLocals Ls i (.int z) = some Ls') : W h k n (pc + 3) Ls' (st) :=
  H.step r fun A hx hby q => XS.iinc A hx rfl (hb hby hd) hl (hz ▸ hl') q
theorem Wk.goto (H : Wk l Z y code mx ret R n0 W V) {o : Int} (hd : decode code pc = .ok (.goto o, 3)) (r : W h k n pc Ls st) (ho : 0 ≤ (pc : Int) + o) (hp : ((pc : Int) + o).toNat = pc') : W h k n pc' Ls st :=
  H.step r fun A hx hby q => XS.goto A hx rfl rfl (hb hby hd) ho hp q
theorem Wk.ifYes (H : Wk l Z y code mx ret R n0 W V) {cd : ClassFile.Cond} {a : Int32} {o : Int} (hd : decode code pc = .ok (.ifCond cd o, 3)) (r : W h k n pc Ls (.int a :: st)) (ho : 0 ≤ (pc : Int) + o) (hp : ((pc : Int) + o).toNat = pc') (hc : if_icmp.holds cd a 0 = true) : W h k n pc' Ls st :=
  H.step r fun A hx hby q => XS.ifYes A hx rfl rfl (hb hby hd) rfl ((if0 cd a).trans hc) ho hp q
theorem Wk.ifNo (H : Wk l Z y code mx ret R n0 W V) {cd : ClassFile.Cond} {a : Int32} {o : Int} (hd : decode code pc = .ok (.ifCond cd o, 3)) (r : W h k n pc Ls (.int a :: st)) (hc : if_icmp.holds cd a 0 = false) : W h k n (pc + 3) Ls st :=
  H.step r fun A hx hby q => XS.ifNo A hx rfl (hb hby hd) rfl ((if0 cd a).trans hc) q
theorem Wk.icmpYes (H : Wk l Z y code mx ret R n0 W V) {cd : ClassFile.Cond} {a b : Int32} {o : Int} (hd : decode code pc = .ok (.if_icmp cd o, 3)) (r : W h k n pc Ls (.int b :: .int a :: st)) (ho : 0 ≤ (pc : Int) + o) (hp : ((pc : Int) + o).toNat = pc') (hc : if_icmp.holds cd a b = true) : W h k n pc' Ls st :=
  H.step r fun A hx hby q => XS.icmpYes A hx rfl rfl (hb hby hd) rfl hc ho hp q
theorem Wk.icmpNo (H : Wk l Z y code mx ret R n0 W V) {cd : ClassFile.Cond} {a b : Int32} {o : Int} (hd : decode code pc = .ok (.if_icmp cd o, 3)) (r : W h k n pc Ls (.int b :: .int a :: st)) (hc : if_icmp.holds cd a b = false) : W h k n (pc + 3) Ls st :=
  H.step r fun A hx hby q => XS.icmpNo A hx rfl (hb hby hd) rfl hc q
theorem Wk.ifnullYes (H : Wk l Z y code mx ret R n0 W V) {o : Int} (hd : decode code pc = .ok (.ifnull o, 3)) (r : W h k n pc Ls (.null :: st)) (ho : 0 ≤ (pc : Int) + o) (hp : ((pc : Int) + o).toNat = pc') : W h k n pc' Ls st :=
  H.step r fun A hx hby q => XS.ifnullYes A hx rfl rfl (hb hby hd) rfl ho hp q
theorem Wk.ifnullNo (H : Wk l Z y code mx ret R n0 W V) {a : Addr} {o : Int} (hd : decode code pc = .ok (.ifnull o, 3)) (r : W h k n pc Ls (.ref a :: st)) : W h k n (pc + 3) Ls st :=
  H.step r fun A hx hby q => XS.ifnullNo A hx rfl (hb hby hd) rfl q
theorem Wk.ifnonnullYes (H : Wk l Z y code mx ret R n0 W V) {a : Addr} {o : Int} (hd : decode code pc = .ok (.ifnonnull o, 3)) (r : W h k n pc Ls (.ref a :: st)) (ho : 0 ≤ (pc : Int) + o) (hp : ((pc : Int) + o).toNat = pc') : W h k n pc' Ls st :=
  H.step r fun A hx hby q => XS.ifnonnullYes A hx rfl rfl (hb hby hd) rfl ho hp q
theorem Wk.ifnonnullNo (H : Wk l Z y code mx ret R n0 W V) {o : Int} (hd : decode code pc = .ok (.ifnonnull o, 3)) (r : W h k n pc Ls (.null :: st)) : W h k n (pc + 3) Ls st :=
  H.step r fun A hx hby q => XS.ifnonnullNo A hx rfl (hb hby hd) rfl q
theorem Wk.acmpYes (H : Wk l Z y code mx ret R n0 W V) {cd : ClassFile.ACond} {a b : Value} {o : Int} (hd : decode code pc = .ok (.if_acmp cd o, 3)) (r : W h k n pc Ls (b :: a :: st)) (ho : 0 ≤ (pc : Int) + o) (hp : ((pc : Int) + o).toNat = pc') (ha : a.isRef = true) (hb' : b.isRef = true) (hc : XT.acmp cd a b = true) : W h k n pc' Ls st :=
  H.step r fun A hx hby q => XT.acmpYes A hx rfl rfl (hb hby hd) rfl ha hb' hc ho hp q
theorem Wk.acmpNo (H : Wk l Z y code mx ret R n0 W V) {cd : ClassFile.ACond} {a b : Value} {o : Int} (hd : decode code pc = .ok (.if_acmp cd o, 3)) (r : W h k n pc Ls (b :: a :: st)) (ha : a.isRef = true) (hb' : b.isRef = true) (hc : XT.acmp cd a b = false) : W h k n (pc + 3) Ls st :=
  H.step r fun A hx hby q => XT.acmpNo A hx rfl (hb hby hd) rfl ha hb' hc q
theorem Wk.lookHit (H : Wk l Z y code mx ret R n0 W V) {z : Int32} {dflt : Int} {pairs : Array (Int × Int)} {len : Nat} {a off : Int} (hsorted : (pairs.toList.zip (pairs.toList.drop 1)).all (fun (a, next) => a.1 < next.1) = true) (hfind : pairs.find? (·.1 == z.toInt) = some (a, off)) (ho : 0 ≤ (pc : Int) + off) (hp : ((pc : Int) + off).toNat = pc') (hd : decode code pc = .ok (.lookupswitch dflt pairs, len)) (r : W h k n pc Ls (.int z :: st)) : W h k n pc' Ls st := by
  subst hp
  exact H.stepX r fun X hx hby hml hown hZ eT => ⟨_, X, eT, fun t q => X.lookupswitchHit hx (g := mkF _ pc Ls (.int z :: st)) rfl rfl (hb hby hd) hsorted hfind ho t q⟩
theorem Wk.lookMiss (H : Wk l Z y code mx ret R n0 W V) {z : Int32} {dflt : Int} {pairs : Array (Int × Int)} {len : Nat} (hsorted : (pairs.toList.zip (pairs.toList.drop 1)).all (fun (a, next) => a.1 < next.1) = true) (hfind : pairs.find? (·.1 == z.toInt) = none) (ho : 0 ≤ (pc : Int) + dflt) (hp : ((pc : Int) + dflt).toNat = pc') (hd : decode code pc = .ok (.lookupswitch dflt pairs, len)) (r : W h k n pc Ls (.int z :: st)) : W h k n pc' Ls st := by
  subst hp
  exact H.stepX r fun X hx hby hml hown hZ eT => ⟨_, X, eT, fun t q => X.lookupswitchMiss hx (g := mkF _ pc Ls (.int z :: st)) rfl rfl (hb hby hd) hsorted hfind ho t q⟩
theorem Wk.getS (H : Wk l Z y code mx ret R n0 W V) {i : Nat} {O nm d : String} {v : Value} (w : (Jvm.Cond.fieldLink y.cls i O nm d).before a0 Z = true) (F : Sta Z h O nm d v) (hd : decode code pc = .ok (.getstatic i, 3)) (r : W h k n pc Ls st) : W h k n (pc + 3) Ls (v :: st) :=
  H.stepX r fun X hx hby hml hown hZ eT => RoadKit.getS X hx hZ (host := "") hown w Via.refl eT F (g := mkF _ pc Ls st) rfl (hb hby hd)
theorem Wk.instY (H : Wk l Z y code mx ret R n0 W V) {i : Nat} {K : String} {a : Addr} (w : (Jvm.Cond.classLink y.cls i K).before a0 Z = true) (F : Ins Z h a K true) (hd : decode code pc = .ok (.instanceof i, 3)) (r : W h k n pc Ls (.ref a :: st)) : W h k n (pc + 3) Ls (.int 1 :: st) :=
  H.stepX r fun X hx hby hml hown hZ eT => RoadKit.instY X hx hZ hown w eT F (g := mkF _ pc Ls (.ref a :: st)) rfl rfl (hb hby hd)
theorem Wk.instNo (H : Wk l Z y code mx ret R n0 W V) {i : Nat} {K C : String} {a : Addr} (w : (Jvm.Cond.classLink y.cls i K).before a0 Z = true) (E : Exa Z h a C) (F : ∃ c t, Z.vm.findClass C = some c ∧ Z.vm.findClass K = some t ∧ Z.vm.assignable c t = false) (hd : decode code pc = .ok (.instanceof i, 3)) (r : W h k n pc Ls (.ref a :: st)) : W h k n (pc + 3) Ls (.int 0 :: st) :=
  H.stepX r fun X hx hby hml hown hZ eT => RoadKit.instNo X hx hZ hown w eT E F (g := mkF _ pc Ls (.ref a :: st)) rfl rfl (hb hby hd)
theorem Wk.instNull (H : Wk l Z y code mx ret R n0 W V) {i : Nat} (hd : decode code pc = .ok (.instanceof i, 3)) (r : W h k n pc Ls (.null :: st)) : W h k n (pc + 3) Ls (.int 0 :: st) :=
  H.stepX r fun X hx hby hml hown hZ eT => ⟨_, X, eT, X.instanceofNull hx (g := mkF _ pc Ls (.null :: st)) rfl rfl (hb hby hd)⟩
theorem Wk.castY (H : Wk l Z y code mx ret R n0 W V) {i : Nat} {K : String} {a : Addr} (w : (Jvm.Cond.classLink y.cls i K).before a0 Z = true) (F : Ins Z h a K true) (hd : decode code pc = .ok (.checkcast i, 3)) (r : W h k n pc Ls (.ref a :: st)) : W h k n (pc + 3) Ls (.ref a :: st) :=
  H.stepX r fun X hx hby hml hown hZ eT => RoadKit.castY X hx hZ hown w eT F (g := mkF _ pc Ls (.ref a :: st)) rfl rfl (hb hby hd)
theorem Wk.castNull (H : Wk l Z y code mx ret R n0 W V) {i : Nat} (hd : decode code pc = .ok (.checkcast i, 3)) (r : W h k n pc Ls (.null :: st)) : W h k n (pc + 3) Ls (.null :: st) :=
  H.stepX r fun X hx hby hml hown hZ eT => ⟨_, X, eT, X.checkcastNull hx (g := mkF _ pc Ls (.null :: st)) rfl rfl (hb hby hd)⟩
theorem Wk.ldcInt (H : Wk l Z y code mx ret R n0 W V) {i : Nat} {v : Int32} (hd : decode code pc = .ok (.ldc i, 2)) (r : W h k n pc Ls st) (w : (Jvm.Cond.constant y.cls i v).before a0 Z = true) : W h k n (pc + 2) Ls (.int v :: st) :=
  H.stepX r fun X hx hby hml hown hZ eT => ⟨_, X, eT, X.ldcInt hx hown (mvT hZ w) (g := mkF _ pc Ls st) rfl (hb hby hd)⟩
theorem Wk.ldcWInt (H : Wk l Z y code mx ret R n0 W V) {i : Nat} {v : Int32} (hd : decode code pc = .ok (.ldc_w i, 3)) (r : W h k n pc Ls st) (w : (Jvm.Cond.constant y.cls i v).before a0 Z = true) : W h k n (pc + 3) Ls (.int v :: st) :=
  H.stepX r fun {p e s m args below meth c T locs} X hx hby hml hown hZ eT => ⟨T, X, eT, fun t q => by
    obtain ⟨kc, cf, bytes, hk, hcf, hcp, hb'⟩ := Cond.constant_spec hown (mvT (args := args) hZ w)
    obtain ⟨k', hk', he⟩ := X.warmed.alike.2.2 _ _ hk
    have hdg := hb hby hd
    show Steps p.tables e below (T.setTop (mkF m pc Ls st)) t
    jvm_step X.here [hx, hdg, ldc_w.wp_int (s := T) (f := mkF m pc Ls st) X.here.top hk' (by rw [he]; exact hcf) hcp, hb']
    exact q⟩
theorem Wk.ldcFloat (H : Wk l Z y code mx ret R n0 W V) {i : Nat} {v : UInt32} (w : (Jvm.Cond.constantFloat y.cls i v).before a0 Z = true) (hd : decode code pc = .ok (.ldc i, 2)) (r : W h k n pc Ls st) : W h k n (pc + 2) Ls (.float v :: st) :=
  H.stepX r fun X hx hby hml hown hZ eT => ⟨_, X, eT, X.ldcFloatC hx hown (mvT hZ w) (g := mkF _ pc Ls st) rfl (hb hby hd)⟩
theorem Wk.ldcLong (H : Wk l Z y code mx ret R n0 W V) {i : Nat} {v : Int64} (hd : decode code pc = .ok (.ldc2_w i, 3)) (r : W h k n pc Ls st) (w : (Jvm.Cond.constantLong y.cls i v).before a0 Z = true) : W h k n (pc + 3) Ls (.long v :: st) :=
  H.stepX r fun X hx hby hml hown hZ eT => ⟨_, X, eT, X.ldc2Long hx hown (mvT hZ w) (g := mkF _ pc Ls st) rfl (hb hby hd)⟩
theorem Wk.getF (H : Wk l Z y code mx ret R n0 W V) {i : Nat} {R0 O nm d host : String} {a : Addr} {v : Value} (w : (Jvm.Cond.fieldLink y.cls i R0 nm d).before a0 Z = true ∨ (Jvm.Cond.fieldLinkNest y.cls i R0 nm d host).before a0 Z = true) (via : Via Z R0 O nm d) (F : Fld Z h a O nm d v) (hd : decode code pc = .ok (.getfield i, 3)) (r : W h k n pc Ls (.ref a :: st)) : W h k n (pc + 3) Ls (v :: st) :=
  H.stepX r fun X hx hby hml hown hZ eT => RoadKit.getF X hx hZ hown w via eT F (g := mkF _ pc Ls (.ref a :: st)) rfl rfl (hb hby hd)
theorem Wk.getF' (H : Wk l Z y code mx ret R n0 W V) {i : Nat} {O nm d : String} {a : Addr} {v : Value} (w : (Jvm.Cond.fieldLink y.cls i O nm d).before a0 Z = true) (F : Fld Z h a O nm d v) (hd : decode code pc = .ok (.getfield i, 3)) (r : W h k n pc Ls (.ref a :: st)) : W h k n (pc + 3) Ls (v :: st) :=
  H.getF (host := "") (Or.inl w) Via.refl F hd r
theorem Wk.putF (H : Wk l Z y code mx ret R n0 W V) {i kk : Nat} {R0 O nm d host C : String} {ty : FieldType} {a : Addr} {v old : Value} (w : (Jvm.Cond.fieldLink y.cls i R0 nm d).before a0 Z = true ∨ (Jvm.Cond.fieldLinkNest y.cls i R0 nm d host).before a0 Z = true) (via : Via Z R0 O nm d) (F : Fld Z h a O nm d old) (E : Exa Z h a C) (L : (Jvm.Cond.lays C O nm d).before a0 Z = true ∨ ((Jvm.Cond.laysFinal C O nm d).before a0 Z = true ∧ y.cls = O ∧ y.name = "<init>")) (wi : (Jvm.Cond.instantiable C kk).before a0 Z = true)
    (hty : parseFieldDescriptor d = some ty) (hn : narrow ty v = v) (hf : fits ty v = true) (hn0 : n0 ≤ a) (hd : decode code pc = .ok (.putfield i, 3)) (r : W h k n pc Ls (v :: .ref a :: st)) : ∃ h', Wr h h' a (Jvm.RoadKit.slotOf Z O nm d) v ∧ W h' k n (pc + 3) Ls st := by
  obtain ⟨p, e, s, m, args, below, meth, c, S0, hx, hby, hml, hown, hZ, hnm, hret, hlk, rfl, rfl⟩ := H
  obtain ⟨T, locs, X, eh, N, sp⟩ := r
  obtain ⟨T', h', X', e', W', q⟩ := RoadKit.putF X hx hZ hown w via eh F E (L.imp id fun u => ⟨u.1, u.2.1, by rw [hnm]; exact u.2.2⟩) wi hty hn hf (g := mkF m pc Ls (v :: .ref a :: st)) rfl rfl (hb hby hd)
  exact ⟨h', W', T', _, X', e', Fr.snoc X' N hn0, fun t u => sp t (q t u)⟩
theorem Wk.newO (H : Wk l Z y code mx ret R n0 W V) {i q : Nat} {C : String} (w : (Jvm.Cond.classLink y.cls i C).before a0 Z = true) (wi : (Jvm.Cond.instantiable C q).before a0 Z = true) (wz : (Jvm.Cond.initialized C).before a0 Z = true) (hc : k + 1 ≤ R.cells) (hl : n + q ≤ R.slots) (hd : decode code pc = .ok (.new i, 3)) (r : W h k n pc Ls st) :
    ∃ h' a, a = h.size ∧ Ext h h' ∧ Exa Z h' a C ∧ (∀ {O nm d : String} {ty : FieldType}, Laid Z a0 C O nm d → parseFieldDescriptor d = some ty → Fld Z h' a O nm d (defaultValue ty)) ∧ (∃ cell : Cell, h'[a]? = some cell ∧ cell.vm = .none ∧ cell.monitor = {}) ∧ W h' (k + 1) (n + q) (pc + 3) Ls (.ref a :: st) := by
  obtain ⟨p, e, s, m, args, below, meth, c, S0, hx, hby, hml, hown, hZ, hnm, hret, hlk, rfl, rfl⟩ := H
  obtain ⟨T, locs, X, eh, N, sp⟩ := r
  obtain ⟨T', h', X', e', E', A', D', U', q'⟩ := RoadKit.newO X hx hZ hown w wi wz eh (g := mkF m pc Ls st) rfl (hb hby hd) hc hl
  exact ⟨h', _, rfl, E', A', D', U', T', _, X', e', N, fun t u => sp t (q' t u)⟩
theorem Wk.newP (H : Wk l Z y code mx ret R n0 W V) {aty : ArrayType} {ty : FieldType} {z : Int32} {cap : Nat} (hty : newarray.typeOf aty = ty) (w : (Jvm.Cond.arrayClass ty).before a0 Z = true) (hn : ¬ z < 0) (hcap : z.toNatClampNeg ≤ cap) (hb8 : cap * 8 ≤ 536870912) (hc : k + 1 ≤ R.cells) (hl : n + cap ≤ R.slots) (hd : decode code pc = .ok (.newarray aty, 2)) (r : W h k n pc Ls (.int z :: st)) :
    ∃ h' a cA, a = h.size ∧ Ext h h' ∧ Arr Z h' a (newA cA ty z) ty ∧ W h' (k + 1) (n + cap) (pc + 2) Ls (.ref a :: st) := by
  subst hty
  obtain ⟨p, e, s, m, args, below, meth, c, S0, hx, hby, hml, hown, hZ, hnm, hret, hlk, rfl, rfl⟩ := H
  obtain ⟨T, locs, X, eh, N, sp⟩ := r
  obtain ⟨T', h', cA, X', e', E', A', q'⟩ := RoadKit.newP X hx hZ w eh (g := mkF m pc Ls (.int z :: st)) rfl (hb hby hd) rfl hn hcap hb8 hc hl
  exact ⟨h', _, cA, rfl, E', A', T', _, X', e', N, fun t u => sp t (q' t u)⟩
theorem Wk.arrLen (H : Wk l Z y code mx ret R n0 W V) {a : Addr} {cl : Cell} {ty : FieldType} {z : Int32} (A : Arr Z h a cl ty) (hz : cl.slots.size.toInt32 = z) (hd : decode code pc = .ok (.arraylength, 1)) (r : W h k n pc Ls (.ref a :: st)) : W h k n (pc + 1) Ls (.int z :: st) := by
  subst hz
  exact H.stepX r fun X hx hby hml hown hZ eT => ⟨_, X, eT, X.arraylength hx (by rw [eT]; exact A.1) (State.isArrayOf_alike hZ.alike A.2.1) (g := mkF _ pc Ls (.ref a :: st)) rfl rfl (hb hby hd)⟩
theorem Wk.iaload (H : Wk l Z y code mx ret R n0 W V) {a : Addr} {cl : Cell} {j : Int32} {v : Value} (A : Arr Z h a cl .int) (hin : ¬ (j < 0 ∨ cl.slots.size ≤ j.toNatClampNeg)) (hv : cl.slots[j.toNatClampNeg]? = some v) (hd : decode code pc = .ok (.iaload, 1)) (r : W h k n pc Ls (.int j :: .ref a :: st)) : W h k n (pc + 1) Ls (v :: st) :=
  H.stepX r fun X hx hby hml hown hZ eT => ⟨_, X, eT, X.iaload hx (by rw [eT]; exact A.1) (State.isArrayOf_alike hZ.alike A.2.1) A.2.2 hin hv (g := mkF _ pc Ls (.int j :: .ref a :: st)) rfl rfl (hb hby hd)⟩
theorem Wk.laload (H : Wk l Z y code mx ret R n0 W V) {a : Addr} {cl : Cell} {j : Int32} {v : Value} (A : Arr Z h a cl .long) (hin : ¬ (j < 0 ∨ cl.slots.size ≤ j.toNatClampNeg)) (hv : cl.slots[j.toNatClampNeg]? = some v) (hd : decode code pc = .ok (.laload, 1)) (r : W h k n pc Ls (.int j :: .ref a :: st)) : W h k n (pc + 1) Ls (v :: st) :=
  H.stepX r fun X hx hby hml hown hZ eT => ⟨_, X, eT, X.laload hx (by rw [eT]; exact A.1) (State.isArrayOf_alike hZ.alike A.2.1) A.2.2 hin hv (g := mkF _ pc Ls (.int j :: .ref a :: st)) rfl rfl (hb hby hd)⟩
theorem Wk.caload (H : Wk l Z y code mx ret R n0 W V) {a : Addr} {cl : Cell} {j : Int32} {v : Value} (A : Arr Z h a cl .char) (hin : ¬ (j < 0 ∨ cl.slots.size ≤ j.toNatClampNeg)) (hv : cl.slots[j.toNatClampNeg]? = some v) (hd : decode code pc = .ok (.caload, 1)) (r : W h k n pc Ls (.int j :: .ref a :: st)) : W h k n (pc + 1) Ls (v :: st) :=
  H.stepX r fun X hx hby hml hown hZ eT => ⟨_, X, eT, X.caload hx (by rw [eT]; exact A.1) (State.isArrayOf_alike hZ.alike A.2.1) A.2.2 hin hv (g := mkF _ pc Ls (.int j :: .ref a :: st)) rfl rfl (hb hby hd)⟩
theorem Wk.baload (H : Wk l Z y code mx ret R n0 W V) {a : Addr} {cl : Cell} {j : Int32} {v : Value} (A : Arr Z h a cl .byte) (hin : ¬ (j < 0 ∨ cl.slots.size ≤ j.toNatClampNeg)) (hv : cl.slots[j.toNatClampNeg]? = some v) (hd : decode code pc = .ok (.baload, 1)) (r : W h k n pc Ls (.int j :: .ref a :: st)) : W h k n (pc + 1) Ls (v :: st) :=
  H.stepX r fun X hx hby hml hown hZ eT => ⟨_, X, eT, X.baloadBytes hx (by rw [eT]; exact A.1) (State.isArrayOf_alike hZ.alike A.2.1) A.2.2 hin hv (g := mkF _ pc Ls (.int j :: .ref a :: st)) rfl rfl (hb hby hd)⟩
theorem Wk.aaload (H : Wk l Z y code mx ret R n0 W V) {a : Addr} {cl : Cell} {ty : FieldType} {j : Int32} {v : Value} (A : Arr Z h a cl ty) (hty : ty.isReference = true) (hin : ¬ (j < 0 ∨ cl.slots.size ≤ j.toNatClampNeg)) (hv : cl.slots[j.toNatClampNeg]? = some v) (hd : decode code pc = .ok (.aaload, 1)) (r : W h k n pc Ls (.int j :: .ref a :: st)) : W h k n (pc + 1) Ls (v :: st) :=
  H.stepX r fun X hx hby hml hown hZ eT => ⟨_, X, eT, X.aaload hx (by rw [eT]; exact A.1) (State.isArrayOf_alike hZ.alike A.2.1) hty A.2.2 hin hv (g := mkF _ pc Ls (.int j :: .ref a :: st)) rfl rfl (hb hby hd)⟩
theorem Wk.stI (H : Wk l Z y code mx ret R n0 W V) {a : Addr} {cl : Cell} {j : Int32} {x : Int32} (A : Arr Z h a cl .int) (hin : ¬ (j < 0 ∨ cl.slots.size ≤ j.toNatClampNeg)) (hn0 : n0 ≤ a) (hd : decode code pc = .ok (.iastore, 1)) (r : W h k n pc Ls (.int x :: .int j :: .ref a :: st)) : ∃ h', Wr h h' a j.toNatClampNeg (.int x) ∧ W h' k n (pc + 1) Ls st := by
  obtain ⟨p, e, s, m, args, below, meth, c, S0, hx, hby, hml, hown, hZ, hnm, hret, hlk, rfl, rfl⟩ := H
  obtain ⟨T, locs, X, eh, N, sp⟩ := r
  obtain ⟨T', h', X', e', W', q⟩ := RoadKit.stI X hx hZ eh A hin (g := mkF m pc Ls (.int x :: .int j :: .ref a :: st)) rfl rfl (hb hby hd)
  exact ⟨h', W', T', _, X', e', Fr.snoc X' N hn0, fun t u => sp t (q t u)⟩
theorem Wk.stJ (H : Wk l Z y code mx ret R n0 W V) {a : Addr} {cl : Cell} {j : Int32} {x : Int64} (A : Arr Z h a cl .long) (hin : ¬ (j < 0 ∨ cl.slots.size ≤ j.toNatClampNeg)) (hn0 : n0 ≤ a) (hd : decode code pc = .ok (.lastore, 1)) (r : W h k n pc Ls (.long x :: .int j :: .ref a :: st)) : ∃ h', Wr h h' a j.toNatClampNeg (.long x) ∧ W h' k n (pc + 1) Ls st := by
  obtain ⟨p, e, s, m, args, below, meth, c, S0, hx, hby, hml, hown, hZ, hnm, hret, hlk, rfl, rfl⟩ := H
  obtain ⟨T, locs, X, eh, N, sp⟩ := r
  obtain ⟨T', h', X', e', W', q⟩ := RoadKit.stJ X hx hZ eh A hin (g := mkF m pc Ls (.long x :: .int j :: .ref a :: st)) rfl rfl (hb hby hd)
  exact ⟨h', W', T', _, X', e', Fr.snoc X' N hn0, fun t u => sp t (q t u)⟩
theorem Wk.stC (H : Wk l Z y code mx ret R n0 W V) {a : Addr} {cl : Cell} {j : Int32} {x : Int32} (A : Arr Z h a cl .char) (hin : ¬ (j < 0 ∨ cl.slots.size ≤ j.toNatClampNeg)) (hn0 : n0 ≤ a) (hd : decode code pc = .ok (.castore, 1)) (r : W h k n pc Ls (.int x :: .int j :: .ref a :: st)) : ∃ h', Wr h h' a j.toNatClampNeg (.int (nar .char x)) ∧ W h' k n (pc + 1) Ls st := by
  obtain ⟨p, e, s, m, args, below, meth, c, S0, hx, hby, hml, hown, hZ, hnm, hret, hlk, rfl, rfl⟩ := H
  obtain ⟨T, locs, X, eh, N, sp⟩ := r
  obtain ⟨T', h', X', e', W', q⟩ := RoadKit.stC X hx hZ eh A hin (g := mkF m pc Ls (.int x :: .int j :: .ref a :: st)) rfl rfl (hb hby hd)
  exact ⟨h', W', T', _, X', e', Fr.snoc X' N hn0, fun t u => sp t (q t u)⟩
theorem Wk.stB (H : Wk l Z y code mx ret R n0 W V) {a : Addr} {cl : Cell} {j : Int32} {x : Int32} (A : Arr Z h a cl .byte) (hin : ¬ (j < 0 ∨ cl.slots.size ≤ j.toNatClampNeg)) (hn0 : n0 ≤ a) (hd : decode code pc = .ok (.bastore, 1)) (r : W h k n pc Ls (.int x :: .int j :: .ref a :: st)) : ∃ h', Wr h h' a j.toNatClampNeg (.int (nar .byte x)) ∧ W h' k n (pc + 1) Ls st := by
  obtain ⟨p, e, s, m, args, below, meth, c, S0, hx, hby, hml, hown, hZ, hnm, hret, hlk, rfl, rfl⟩ := H
  obtain ⟨T, locs, X, eh, N, sp⟩ := r
  obtain ⟨T', h', X', e', W', q⟩ := RoadKit.stB X hx hZ eh A hin (g := mkF m pc Ls (.int x :: .int j :: .ref a :: st)) rfl rfl (hb hby hd)
  exact ⟨h', W', T', _, X', e', Fr.snoc X' N hn0, fun t u => sp t (q t u)⟩
theorem Wk.initO (H : Wk l Z y code mx ret R n0 W V) {i w : Nat} {a : Addr} (w1 : (Jvm.Cond.methodLink y.cls i Lib.objectInit).before a0 Z = true) (w2 : (Jvm.Cond.instanceMethod Lib.objectInit).before a0 Z = true) (w3 : (Jvm.Cond.code Lib.objectInit ⟨#[0xb1]⟩ 1 none).before a0 Z = true) (hsz : Ls.size = mx) (hf : 1 ≤ R.frames) (hw : (st.map fun v => v.category).sum ≤ w) (hl : w + 12 ≤ R.locals) (hd : decode code pc = .ok (.invokespecial i, 3)) (r : W h k n pc Ls (.ref a :: st)) : W h k n (pc + 3) Ls st :=
  H.stepX r fun X hx hby hml hown hZ eT => RoadKit.initO X hx hZ hown w1 w2 w3 eT (g := mkF _ pc Ls (.ref a :: st)) rfl (by rw [hml]; exact hsz) rfl (hb hby hd) hf (by show 2 * 0 + _ ≤ _; omega) hl
variable {y' : MethodName} {bytes' : ByteArray} {mx' : Nat} {ret' : Option FieldType} {rm' : Room} {as' : Array Value} {Q : Option Value → Heap → Prop} {i w : Nat} {ps : List FieldType} {rt : Option FieldType} {argsL rest : List Value}
theorem Wk.callS (H : Wk l Z y code mx ret R n0 W V) (w1 : (Jvm.Cond.methodLink y.cls i y').before a0 Z = true) (w2 : (Jvm.Cond.static y').before a0 Z = true) (w3 : (Jvm.Cond.initialized y'.cls).before a0 Z = true) (w4 : (Jvm.Cond.code y' bytes' mx' ret').before a0 Z = true) (hy : y'.cls ≠ "java/lang/invoke/MethodHandle" ∧ y'.cls ≠ "java/lang/invoke/VarHandle")
    (hpd : parseMethodDescriptor y'.desc = some ⟨ps, rt⟩) (hf : rm'.frames + 1 ≤ R.frames) (hl : w + (mx' + 11) + rm'.locals ≤ R.locals) (hc : k + rm'.cells ≤ R.cells) (hn : n + rm'.slots ≤ R.slots) (hM : Ct l Z y' bytes' mx' ret' rm' n0 argsL.toArray h Q) (hlen : argsL.length = ps.length) (hsz : Ls.size = mx) (hw : (rest.map fun v => v.category).sum ≤ w) (hst : st = argsL.reverse ++ rest) (hd : decode code pc = .ok (.invokestatic i, 3)) (r : W h k n pc Ls st) :
    ∃ v h', Q v h' ∧ W h' (k + rm'.cells) (n + rm'.slots) (pc + 3) Ls (v.toList ++ rest) := by
  subst hst
  obtain ⟨p, e, s, m, args, below, meth, c, S0, hx, hby, hml, hown, hZ, hnm, hret, hlk, rfl, rfl⟩ := H
  obtain ⟨T, locs, X, eh, N, sp⟩ := r
  obtain ⟨v, _, ⟨T1, L1, k1, n1⟩, -, X1, ⟨Lc, hQ, g1, g2, g3⟩, st1⟩ := Jvm.LawKit.callS X hx (y := y') hown (mvT hZ w1) (mvT hZ w2) (mvT hZ w3) (mvT hZ w4) hy (backOf (W := w) (Q := fun v hh L => Q v hh ∧ Fr n0 L) (hM []) hZ w4 w3 hf hl) (g := mkF m pc Ls (argsL.reverse ++ rest)) rfl (by rw [hml]; exact hsz) (argsL := argsL) (rest := rest) (lenOf hpd hlen) rfl (by show 2 * 0 + _ ≤ _; omega) (hb hby hd) (fun _ _ => ⟨rfl, eh, hc, hn⟩)
  dsimp only [Pt.U, Pt.locs, Pt.cells, Pt.slots] at X1 g1 g2 g3 st1 hQ
  subst g1 g2 g3
  exact ⟨v, T1.heap, hQ.1, T1, _, X1, rfl, Fr.app N hQ.2, fun t u => sp t (st1 t u)⟩
theorem Wk.callI (H : Wk l Z y code mx ret R n0 W V) {a : Addr} (hi : y'.name = "<init>") (w1 : (Jvm.Cond.methodLink y.cls i y').before a0 Z = true) (w2 : (Jvm.Cond.instanceMethod y').before a0 Z = true) (w3 : (Jvm.Cond.initialized y'.cls).before a0 Z = true) (w4 : (Jvm.Cond.code y' bytes' mx' none).before a0 Z = true) (hy : y'.cls ≠ "java/lang/invoke/MethodHandle" ∧ y'.cls ≠ "java/lang/invoke/VarHandle")
    (hpd : parseMethodDescriptor y'.desc = some ⟨ps, rt⟩) (hf : rm'.frames + 1 ≤ R.frames) (hl : w + (mx' + 11) + rm'.locals ≤ R.locals) (hc : k + rm'.cells ≤ R.cells) (hn : n + rm'.slots ≤ R.slots) (hM : Ct l Z y' bytes' mx' none rm' n0 (.ref a :: argsL).toArray h Q) (hlen : argsL.length = ps.length) (hsz : Ls.size = mx) (hw : (rest.map fun v => v.category).sum ≤ w) (hst : st = argsL.reverse ++ .ref a :: rest) (hd : decode code pc = .ok (.invokespecial i, 3)) (r : W h k n pc Ls st) :
    ∃ v h', Q v h' ∧ W h' (k + rm'.cells) (n + rm'.slots) (pc + 3) Ls (v.toList ++ rest) := by
  subst hst
  obtain ⟨p, e, s, m, args, below, meth, c, S0, hx, hby, hml, hown, hZ, hnm, hret, hlk, rfl, rfl⟩ := H
  obtain ⟨T, locs, X, eh, N, sp⟩ := r
  obtain ⟨v, _, ⟨T1, L1, k1, n1⟩, -, X1, ⟨Lc, hQ, g1, g2, g3⟩, st1⟩ := X.specialBack hx (y := y') hi hown (mvT hZ w1) (mvT hZ w2) (mvT hZ w4) hy (backOf (W := w) (Q := fun v hh L => Q v hh ∧ Fr n0 L) (hM []) hZ w4 w3 hf hl) (g := mkF m pc Ls (argsL.reverse ++ .ref a :: rest)) rfl (by rw [hml]; exact hsz) (Steps.refl _) (a := a) (argsL := argsL) (rest := rest) (lenOf hpd hlen) rfl (by show 2 * 0 + _ ≤ _; omega) (hb hby hd) (fun _ _ => ⟨rfl, eh, hc, hn⟩)
  dsimp only [Pt.U, Pt.locs, Pt.cells, Pt.slots] at X1 g1 g2 g3 st1 hQ
  subst g1 g2 g3
  exact ⟨v, T1.heap, hQ.1, T1, _, X1, rfl, Fr.app N hQ.2, fun t u => sp t (st1.trans u)⟩
theorem Wk.callV (H : Wk l Z y code mx ret R n0 W V) {a : Addr} {C : String} {z' : MethodName} (w1 : (Jvm.Cond.methodLink y.cls i z').before a0 Z = true) (w2 : (Jvm.Cond.declares z').before a0 Z = true) (nf : NF Z a0 z') (w5 : (Jvm.Cond.selects C z' y').before a0 Z = true) (w6 : (Jvm.Cond.instanceMethod y').before a0 Z = true) (w3 : (Jvm.Cond.initialized y'.cls).before a0 Z = true) (w4 : (Jvm.Cond.code y' bytes' mx' ret').before a0 Z = true) (hy : z'.cls ≠ "java/lang/invoke/MethodHandle" ∧ z'.cls ≠ "java/lang/invoke/VarHandle")
    (hpd : parseMethodDescriptor z'.desc = some ⟨ps, rt⟩) (hf : rm'.frames + 1 ≤ R.frames) (hl : w + (mx' + 11) + rm'.locals ≤ R.locals) (hc : k + rm'.cells ≤ R.cells) (hn : n + rm'.slots ≤ R.slots) (E : Exa Z h a C) (hM : Ct l Z y' bytes' mx' ret' rm' n0 (.ref a :: argsL).toArray h Q) (hlen : argsL.length = ps.length) (hsz : Ls.size = mx) (hw : (rest.map fun v => v.category).sum ≤ w) (hst : st = argsL.reverse ++ .ref a :: rest) (hd : decode code pc = .ok (.invokevirtual i, 3)) (r : W h k n pc Ls st) :
    ∃ v h', Q v h' ∧ W h' (k + rm'.cells) (n + rm'.slots) (pc + 3) Ls (v.toList ++ rest) := by
  subst hst
  obtain ⟨p, e, s, m, args, below, meth, c, S0, hx, hby, hml, hown, hZ, hnm, hret, hlk, rfl, rfl⟩ := H
  obtain ⟨T, locs, X, eh, N, sp⟩ := r
  obtain ⟨cq, kq, qa, qb, qc⟩ := isOf (s := s) (T := T) hZ eh E
  obtain ⟨v, _, ⟨T1, L1, k1, n1⟩, -, X1, ⟨Lc, hQ, g1, g2, g3⟩, st1⟩ := X.virtualBack hx (y := z') (z := y') hown (mvT hZ w1) (mvT hZ w2) (nf.at hZ) (mvT hZ w5) (mvT hZ w6) hy (backOf (W := w) (Q := fun v hh L => Q v hh ∧ Fr n0 L) (hM []) hZ w4 w3 hf hl) qa qc (g := mkF m pc Ls (argsL.reverse ++ .ref a :: rest)) rfl (by rw [hml]; exact hsz) (Steps.refl _) (argsL := argsL) (rest := rest) (lenOf hpd hlen) rfl (by show 2 * 0 + _ ≤ _; omega) (hb hby hd) (fun _ _ => ⟨rfl, eh, hc, hn⟩)
  dsimp only [Pt.U, Pt.locs, Pt.cells, Pt.slots] at X1 g1 g2 g3 st1 hQ
  subst g1 g2 g3
  exact ⟨v, T1.heap, hQ.1, T1, _, X1, rfl, Fr.app N hQ.2, fun t u => sp t (st1.trans u)⟩
theorem Wk.callSP (H : Wk l Z y code mx ret R n0 W V) {v0 : Option Value} (w1 : (Jvm.Cond.methodLink y.cls i y').before a0 Z = true) (w2 : (Jvm.Cond.static y').before a0 Z = true) (w3 : (Jvm.Cond.initialized y'.cls).before a0 Z = true) (w4 : (Jvm.Cond.code y' bytes' mx' ret').before a0 Z = true) (hy : y'.cls ≠ "java/lang/invoke/MethodHandle" ∧ y'.cls ≠ "java/lang/invoke/VarHandle")
    (hpd : parseMethodDescriptor y'.desc = some ⟨ps, rt⟩) (hf : rm'.frames + 1 ≤ R.frames) (hl : w + (mx' + 11) + rm'.locals ≤ R.locals) (hc : k + rm'.cells ≤ R.cells) (hn : n + rm'.slots ≤ R.slots) (hM : Ct l Z y' bytes' mx' ret' rm' n0 argsL.toArray h (fun v h' => v = v0 ∧ h' = h)) (hlen : argsL.length = ps.length) (hsz : Ls.size = mx) (hw : (rest.map fun v => v.category).sum ≤ w) (hst : st = argsL.reverse ++ rest) (hd : decode code pc = .ok (.invokestatic i, 3)) (r : W h k n pc Ls st) :
    W h (k + rm'.cells) (n + rm'.slots) (pc + 3) Ls (v0.toList ++ rest) := by
  obtain ⟨v, h', ⟨e1, e2⟩, r'⟩ := H.callS w1 w2 w3 w4 hy hpd hf hl hc hn hM hlen hsz hw hst hd r
  rw [← e1, ← e2]
  rw [e2] at r' ⊢
  exact r'
theorem Wk.callVP (H : Wk l Z y code mx ret R n0 W V) {v0 : Option Value} {a : Addr} {C : String} {z' : MethodName} (w1 : (Jvm.Cond.methodLink y.cls i z').before a0 Z = true) (w2 : (Jvm.Cond.declares z').before a0 Z = true) (nf : NF Z a0 z') (w5 : (Jvm.Cond.selects C z' y').before a0 Z = true) (w6 : (Jvm.Cond.instanceMethod y').before a0 Z = true) (w3 : (Jvm.Cond.initialized y'.cls).before a0 Z = true) (w4 : (Jvm.Cond.code y' bytes' mx' ret').before a0 Z = true) (hy : z'.cls ≠ "java/lang/invoke/MethodHandle" ∧ z'.cls ≠ "java/lang/invoke/VarHandle")
    (hpd : parseMethodDescriptor z'.desc = some ⟨ps, rt⟩) (hf : rm'.frames + 1 ≤ R.frames) (hl : w + (mx' + 11) + rm'.locals ≤ R.locals) (hc : k + rm'.cells ≤ R.cells) (hn : n + rm'.slots ≤ R.slots) (E : Exa Z h a C) (hM : Ct l Z y' bytes' mx' ret' rm' n0 (.ref a :: argsL).toArray h (fun v h' => v = v0 ∧ h' = h)) (hlen : argsL.length = ps.length) (hsz : Ls.size = mx) (hw : (rest.map fun v => v.category).sum ≤ w) (hst : st = argsL.reverse ++ .ref a :: rest) (hd : decode code pc = .ok (.invokevirtual i, 3)) (r : W h k n pc Ls st) :
    W h (k + rm'.cells) (n + rm'.slots) (pc + 3) Ls (v0.toList ++ rest) := by
  obtain ⟨v, h', ⟨e1, e2⟩, r'⟩ := H.callV w1 w2 nf w5 w6 w3 w4 hy hpd hf hl hc hn E hM hlen hsz hw hst hd r
  rw [← e1, ← e2]
  rw [e2] at r' ⊢
  exact r'
theorem Wk.retV (H : Wk l Z y code mx ret R n0 W V) {v : Value} {t : FieldType} {ins : Instr} (ht : ret = some t) (hn' : narrow t v = v) (hi : (ins = .ireturn ∧ (t = .int ∨ t = .boolean ∨ t = .byte ∨ t = .char ∨ t = .short) ∧ ∃ z, v = .int z) ∨ (ins = .lreturn ∧ t = .long ∧ ∃ z, v = .long z) ∨ (ins = .dreturn ∧ t = .double ∧ ∃ z, v = .double z) ∨ (ins = .freturn ∧ t = .float ∧ ∃ z, v = .float z) ∨ (ins = .areturn ∧ t.isReference = true ∧ v.isRef = true))
    (hk : k ≤ R.cells) (hn : n ≤ R.slots) (hd : decode code pc = .ok (ins, 1)) (r : W h k n pc Ls (v :: st)) : V (some v) h := by
  obtain ⟨p, e, s, m, args, below, meth, c, S0, hx, hby, hml, hown, hZ, hnm, hret, hlk, rfl, rfl⟩ := H
  obtain ⟨T, locs, X, eh, N, sp⟩ := r
  have hrt : meth.sig.returnType = some t := hret.trans ht
  obtain ⟨fs, hr, hrun, hended, hW, hsame⟩ := X.leave (v := some v) (fun q => by rw [hrt] at q; cases q) hlk
  exact ⟨_, locs, sp _ (retOut X hx hrt hn' hi (hb hby hd) hr), hrun, hended, eh, N, ⟨_, rfl⟩, hW, hsame.mono hk hn⟩
theorem Wk.retI (H : Wk l Z y code mx ret R n0 W V) {z : Int32} (ht : ret = some .int) (hk : k ≤ R.cells) (hn : n ≤ R.slots) (hd : decode code pc = .ok (.ireturn, 1)) (r : W h k n pc Ls (.int z :: st)) : V (some (.int z)) h :=
  H.retV ht rfl (Or.inl ⟨rfl, Or.inl rfl, z, rfl⟩) hk hn hd r
theorem Wk.retJ (H : Wk l Z y code mx ret R n0 W V) {z : Int64} (ht : ret = some .long) (hk : k ≤ R.cells) (hn : n ≤ R.slots) (hd : decode code pc = .ok (.lreturn, 1)) (r : W h k n pc Ls (.long z :: st)) : V (some (.long z)) h :=
  H.retV ht rfl (Or.inr (Or.inl ⟨rfl, rfl, z, rfl⟩)) hk hn hd r
theorem Wk.retZ (H : Wk l Z y code mx ret R n0 W V) {z z' : Int32} (hz : z &&& 1 = z') (ht : ret = some .boolean) (hk : k ≤ R.cells) (hn : n ≤ R.slots) (hd : decode code pc = .ok (.ireturn, 1)) (r : W h k n pc Ls (.int z :: st)) : V (some (.int z')) h := by
  subst hz
  obtain ⟨p, e, s, m, args, below, meth, c, S0, hx, hby, hml, hown, hZ, hnm, hret, hlk, rfl, rfl⟩ := H
  obtain ⟨T, locs, X, eh, N, sp⟩ := r
  have hrt : meth.sig.returnType = some .boolean := hret.trans ht
  obtain ⟨fs, hr, hrun, hended, hW, hsame⟩ := X.leave (v := some (.int (nar .boolean z))) (fun q => by rw [hrt] at q; cases q) hlk
  exact ⟨_, locs, sp _ (retN X hx hrt (by simp) (hb hby hd) hr), hrun, hended, eh, N, ⟨_, rfl⟩, hW, hsame.mono hk hn⟩
theorem Wk.retB (H : Wk l Z y code mx ret R n0 W V) {z z' : Int32} (hz : z.toInt8.toInt32 = z') (ht : ret = some .byte) (hk : k ≤ R.cells) (hn : n ≤ R.slots) (hd : decode code pc = .ok (.ireturn, 1)) (r : W h k n pc Ls (.int z :: st)) : V (some (.int z')) h := by
  subst hz
  obtain ⟨p, e, s, m, args, below, meth, c, S0, hx, hby, hml, hown, hZ, hnm, hret, hlk, rfl, rfl⟩ := H
  obtain ⟨T, locs, X, eh, N, sp⟩ := r
  have hrt : meth.sig.returnType = some .byte := hret.trans ht
  obtain ⟨fs, hr, hrun, hended, hW, hsame⟩ := X.leave (v := some (.int (nar .byte z))) (fun q => by rw [hrt] at q; cases q) hlk
  exact ⟨_, locs, sp _ (retN X hx hrt (by simp) (hb hby hd) hr), hrun, hended, eh, N, ⟨_, rfl⟩, hW, hsame.mono hk hn⟩
theorem Wk.retC (H : Wk l Z y code mx ret R n0 W V) {z z' : Int32} (hz : z.toUInt32.toUInt16.toUInt32.toInt32 = z') (ht : ret = some .char) (hk : k ≤ R.cells) (hn : n ≤ R.slots) (hd : decode code pc = .ok (.ireturn, 1)) (r : W h k n pc Ls (.int z :: st)) : V (some (.int z')) h := by
  subst hz
  obtain ⟨p, e, s, m, args, below, meth, c, S0, hx, hby, hml, hown, hZ, hnm, hret, hlk, rfl, rfl⟩ := H
  obtain ⟨T, locs, X, eh, N, sp⟩ := r
  have hrt : meth.sig.returnType = some .char := hret.trans ht
  obtain ⟨fs, hr, hrun, hended, hW, hsame⟩ := X.leave (v := some (.int (nar .char z))) (fun q => by rw [hrt] at q; cases q) hlk
  exact ⟨_, locs, sp _ (retN X hx hrt (by simp) (hb hby hd) hr), hrun, hended, eh, N, ⟨_, rfl⟩, hW, hsame.mono hk hn⟩
theorem Wk.retR (H : Wk l Z y code mx ret R n0 W V) {v : Value} {t : FieldType} (ht : ret = some t) (htr : t.isReference = true) (hv : v.isRef = true) (hk : k ≤ R.cells) (hn : n ≤ R.slots) (hd : decode code pc = .ok (.areturn, 1)) (r : W h k n pc Ls (v :: st)) : V (some v) h :=
  H.retV ht (by cases v <;> simp [Value.isRef] at hv <;> cases t <;> simp [FieldType.isReference] at htr <;> rfl) (Or.inr (Or.inr (Or.inr (Or.inr ⟨rfl, htr, hv⟩)))) hk hn hd r
theorem Wk.retN (H : Wk l Z y code mx ret R n0 W V) (ht : ret = none) (hk : k ≤ R.cells) (hn : n ≤ R.slots) (hd : decode code pc = .ok (.return_, 1)) (r : W h k n pc Ls []) : V none h := by
  obtain ⟨p, e, s, m, args, below, meth, c, S0, hx, hby, hml, hown, hZ, hnm, hret, hlk, rfl, rfl⟩ := H
  obtain ⟨T, locs, X, eh, N, sp⟩ := r
  have hrt : meth.sig.returnType = none := hret.trans ht
  obtain ⟨fs, hr, hrun, hended, hW, hsame⟩ := X.leave (v := none) (fun _ => rfl) hlk
  exact ⟨_, locs, sp _ (X.returnOut hx hrt (hb hby hd) hr), hrun, hended, eh, N, ⟨_, rfl⟩, hW, hsame.mono hk hn⟩
end Steps
end Jvm.OwnW
namespace Jvm.OwnW
open Jvm Jvm.ClassFile Sem Op Lib Jvm.Free Jvm.Stand Jvm.LawKit Jvm.RoadKit Bundle
/-- an array at a, of components ty, that holds just vs -/
def Ary (Z : State) (h : Heap) (a : Addr) (ty : FieldType) (vs : List Value) : Prop := ∃ c : Cell, Arr Z h a c ty ∧ c.slots = vs.toArray
section Arrays
variable {l : Launch} {Z : State} {y : MethodName} {code : ByteArray} {mx : Nat} {ret : Option FieldType} {R : Room} {n0 : Nat} {W : WT} {V : VT} {h h' : Heap} {k n pc : Nat} {Ls : Array Slot} {st : List Value} {a0 : Array Value} {a b : Addr} {ty : FieldType} {vs : List Value} {ws : List Addr} {sl : Nat} {v : Value}
theorem Ary.lt (A : Ary Z h a ty vs) : a < h.size := by obtain ⟨c, A, -⟩ := A; exact A.lt
theorem Ary.ext (A : Ary Z h a ty vs) (E : Ext h h') : Ary Z h' a ty vs := by obtain ⟨c, A, q⟩ := A; exact ⟨c, A.ext E, q⟩
theorem Ary.other (A : Ary Z h b ty vs) (w : Wr h h' a sl v) (ne : b ≠ a) : Ary Z h' b ty vs := by obtain ⟨c, A, q⟩ := A; exact ⟨c, A.other w ne, q⟩
theorem Ary.keep (A : Ary Z h a ty vs) (K : Keep h h' ws) (q : a ∉ ws) : Ary Z h' a ty vs := by obtain ⟨c, A, r⟩ := A; exact ⟨c, ⟨K.2.1 a c A.1 q, A.2⟩, r⟩
theorem Ary.same (A : Ary Z h a ty vs) (w : Wr h h' a sl v) : Ary Z h' a ty (vs.set sl v) := by
  obtain ⟨c, A, q⟩ := A
  refine ⟨_, A.same w, ?_⟩
  show c.slots.setIfInBounds sl v = _
  rw [q, List.setIfInBounds_toArray]
theorem idx_ok {j : Int32} {i : Nat} (hj : j.toInt = i) : j.toNatClampNeg = i ∧ ¬ j < 0 := by
  refine ⟨?_, ?_⟩
  · show j.toInt.toNat = i
    rw [hj]; rfl
  · rw [Int32.lt_iff_toInt_lt, hj, Int32.toInt_zero]
    omega
theorem idx_in' {j : Int32} {i : Nat} (hj : j.toInt = i) {c : Cell} (q : c.slots = vs.toArray) (hi : i < vs.length) : ¬ (j < 0 ∨ c.slots.size ≤ j.toNatClampNeg) := by
  obtain ⟨h1, h2⟩ := idx_ok hj
  rw [h1, q, List.size_toArray]
  exact fun u => u.elim h2 (fun u => by omega)
theorem Wk.newA (H : Wk l Z y code mx ret R n0 W V) {aty : ArrayType} {z : Int32} {cap i : Nat} {d : Value} (hty : newarray.typeOf aty = ty) (hdv : defaultValue ty = d) (w : (Jvm.Cond.arrayClass ty).before a0 Z = true) (hz : z.toInt = i) (hcap : i ≤ cap) (hb8 : cap * 8 ≤ 536870912) (hc : k + 1 ≤ R.cells) (hl : n + cap ≤ R.slots) (hd : decode code pc = .ok (.newarray aty, 2)) (r : W h k n pc Ls (.int z :: st)) :
    ∃ h' a, a = h.size ∧ Ext h h' ∧ Ary Z h' a ty (List.replicate i d) ∧ W h' (k + 1) (n + cap) (pc + 2) Ls (.ref a :: st) := by
  obtain ⟨h1, h2⟩ := idx_ok hz
  obtain ⟨h', a, cA, e, E, A, r'⟩ := H.newP hty w h2 (by rw [h1]; exact hcap) hb8 hc hl hd r
  refine ⟨h', a, e, E, ⟨_, A, ?_⟩, r'⟩
  show Array.replicate z.toNatClampNeg (defaultValue ty) = _
  rw [h1, hdv, List.toArray_replicate]
theorem Wk.newAE (H : Wk l Z y code mx ret R n0 W V) {aty : ArrayType} {z : Int32} {cap i : Nat} {d : Value} {ad : String} (hty : newarray.typeOf aty = ty) (hdv : defaultValue ty = d) (had : "[" ++ ty.toString = ad) (w : (Jvm.Cond.arrayClass ty).before a0 Z = true) (hz : z.toInt = i) (hcap : i ≤ cap) (hb8 : cap * 8 ≤ 536870912) (hc : k + 1 ≤ R.cells) (hl : n + cap ≤ R.slots) (hd : decode code pc = .ok (.newarray aty, 2)) (r : W h k n pc Ls (.int z :: st)) :
    ∃ h' a, a = h.size ∧ Ext h h' ∧ Ary Z h' a ty (List.replicate i d) ∧ Exa Z h' a ad ∧ W h' (k + 1) (n + cap) (pc + 2) Ls (.ref a :: st) := by
  obtain ⟨h1, h2⟩ := idx_ok hz
  subst hty
  obtain ⟨p, e, s, m, args, below, meth, c, S0, hx, hby, hml, hown, hZ, hnm, hret, hlk, rfl, rfl⟩ := H
  obtain ⟨T, locs, X, eh, N, sp⟩ := r
  obtain ⟨T', h', cA, X', e', E', A', EX, q'⟩ := RoadKit.newPE X hx hZ w eh (g := mkF m pc Ls (.int z :: st)) rfl (hb hby hd) rfl h2 (by rw [h1]; exact hcap) hb8 hc hl had
  refine ⟨h', _, rfl, E', ⟨_, A', ?_⟩, EX, T', _, X', e', N, fun t u => sp t (q' t u)⟩
  show Array.replicate z.toNatClampNeg (defaultValue (newarray.typeOf aty)) = _
  rw [h1, hdv, List.toArray_replicate]
theorem Wk.cloneA (H : Wk l Z y code mx ret R n0 W V) {i w cap : Nat} {ad : String} (w1 : (Jvm.Cond.methodLink y.cls i ⟨ad, "clone", "()Ljava/lang/Object;"⟩).before a0 Z = true) (w2 : (Jvm.Cond.sameMethod ad "java/lang/Object" "clone" "()Ljava/lang/Object;").before a0 Z = true) (w3 : (Jvm.Cond.native ⟨"java/lang/Object", "clone", "()Ljava/lang/Object;"⟩).before a0 Z = true)
    (w4 : (Jvm.Cond.instanceMethod ⟨"java/lang/Object", "clone", "()Ljava/lang/Object;"⟩).before a0 Z = true) (w5 : (Jvm.Cond.selects ad ⟨ad, "clone", "()Ljava/lang/Object;"⟩ ⟨"java/lang/Object", "clone", "()Ljava/lang/Object;"⟩).before a0 Z = true) (w6 : (Jvm.Cond.castable ad "java/lang/Cloneable").before a0 Z = true)
    (A : Ary Z h a ty vs) (E : Exa Z h a ad) (hfit : ∀ v ∈ vs, fits ty v = true) (hsz : Ls.size = mx) (hf : 1 ≤ R.frames) (hw : (st.map fun v => v.category).sum ≤ w) (hl : w + 14 ≤ R.locals) (hcap : vs.length ≤ cap) (hc : k + 1 ≤ R.cells) (hsl : n + cap ≤ R.slots) (hd : decode code pc = .ok (.invokevirtual i, 3)) (r : W h k n pc Ls (.ref a :: st)) :
    ∃ h' b, b = h.size ∧ Ext h h' ∧ Ary Z h' b ty vs ∧ Exa Z h' b ad ∧ W h' (k + 1) (n + cap) (pc + 3) Ls (.ref b :: st) := by
  obtain ⟨p, e, s, m, args, below, meth, c, S0, hx, hby, hml, hown, hZ, hnm, hret, hlk, rfl, rfl⟩ := H
  obtain ⟨T, locs, X, eh, N, sp⟩ := r
  obtain ⟨cl, Ar, q⟩ := A
  have hF : FitC Z cl := fitC_of Ar (fun j hj v hv => hfit v (by rw [q, List.getElem?_toArray] at hv; exact List.mem_of_getElem? hv))
  obtain ⟨T', h', X', e', E', A', EX, q'⟩ := RoadKit.cloneA X hx hZ hown w1 w2 w3 w4 w5 w6 eh Ar E hF (g := mkF m pc Ls (.ref a :: st)) rfl (by rw [hml]; exact hsz) rfl (hb hby hd) hf (by show 2 * 0 + _ ≤ _; omega) hl (by rw [q, List.size_toArray]; exact hcap) hc hsl
  exact ⟨h', _, rfl, E', ⟨_, A', q⟩, EX, T', _, X', e', N, fun t u => sp t (q' t u)⟩
theorem Wk.lenA (H : Wk l Z y code mx ret R n0 W V) {z : Int32} (A : Ary Z h a ty vs) (hz : vs.length.toInt32 = z) (hd : decode code pc = .ok (.arraylength, 1)) (r : W h k n pc Ls (.ref a :: st)) : W h k n (pc + 1) Ls (.int z :: st) := by
  obtain ⟨c, A, q⟩ := A
  exact H.arrLen A (by rw [q, List.size_toArray]; exact hz) hd r
theorem Wk.ldI (H : Wk l Z y code mx ret R n0 W V) {j : Int32} {i : Nat} (A : Ary Z h a .int vs) (hj : j.toInt = i) (hv : vs[i]? = some v) (hd : decode code pc = .ok (.iaload, 1)) (r : W h k n pc Ls (.int j :: .ref a :: st)) : W h k n (pc + 1) Ls (v :: st) := by
  obtain ⟨c, A, q⟩ := A
  obtain ⟨h1, h2⟩ := idx_ok hj
  exact H.iaload A (idx_in' hj q (List.getElem?_eq_some_iff.mp hv).1) (by rw [h1, q, List.getElem?_toArray]; exact hv) hd r
theorem Wk.ldJ (H : Wk l Z y code mx ret R n0 W V) {j : Int32} {i : Nat} (A : Ary Z h a .long vs) (hj : j.toInt = i) (hv : vs[i]? = some v) (hd : decode code pc = .ok (.laload, 1)) (r : W h k n pc Ls (.int j :: .ref a :: st)) : W h k n (pc + 1) Ls (v :: st) := by
  obtain ⟨c, A, q⟩ := A
  obtain ⟨h1, h2⟩ := idx_ok hj
  exact H.laload A (idx_in' hj q (List.getElem?_eq_some_iff.mp hv).1) (by rw [h1, q, List.getElem?_toArray]; exact hv) hd r
theorem Wk.ldC (H : Wk l Z y code mx ret R n0 W V) {j : Int32} {i : Nat} (A : Ary Z h a .char vs) (hj : j.toInt = i) (hv : vs[i]? = some v) (hd : decode code pc = .ok (.caload, 1)) (r : W h k n pc Ls (.int j :: .ref a :: st)) : W h k n (pc + 1) Ls (v :: st) := by
  obtain ⟨c, A, q⟩ := A
  obtain ⟨h1, h2⟩ := idx_ok hj
  exact H.caload A (idx_in' hj q (List.getElem?_eq_some_iff.mp hv).1) (by rw [h1, q, List.getElem?_toArray]; exact hv) hd r
theorem Wk.ldB (H : Wk l Z y code mx ret R n0 W V) {j : Int32} {i : Nat} (A : Ary Z h a .byte vs) (hj : j.toInt = i) (hv : vs[i]? = some v) (hd : decode code pc = .ok (.baload, 1)) (r : W h k n pc Ls (.int j :: .ref a :: st)) : W h k n (pc + 1) Ls (v :: st) := by
  obtain ⟨c, A, q⟩ := A
  obtain ⟨h1, h2⟩ := idx_ok hj
  exact H.baload A (idx_in' hj q (List.getElem?_eq_some_iff.mp hv).1) (by rw [h1, q, List.getElem?_toArray]; exact hv) hd r
theorem Wk.putI (H : Wk l Z y code mx ret R n0 W V) {j : Int32} {i : Nat} {x : Int32} (A : Ary Z h a .int vs) (hj : j.toInt = i) (hi : i < vs.length) (hn0 : n0 ≤ a) (hd : decode code pc = .ok (.iastore, 1)) (r : W h k n pc Ls (.int x :: .int j :: .ref a :: st)) : ∃ h', Wr h h' a i (.int x) ∧ Ary Z h' a .int (vs.set i (.int x)) ∧ W h' k n (pc + 1) Ls st := by
  obtain ⟨h1, h2⟩ := idx_ok hj
  obtain ⟨c, A', q⟩ := id A
  obtain ⟨h', w, r'⟩ := H.stI A' (idx_in' hj q hi) hn0 hd r
  rw [h1] at w
  exact ⟨h', w, A.same w, r'⟩
theorem Wk.putJ (H : Wk l Z y code mx ret R n0 W V) {j : Int32} {i : Nat} {x : Int64} (A : Ary Z h a .long vs) (hj : j.toInt = i) (hi : i < vs.length) (hn0 : n0 ≤ a) (hd : decode code pc = .ok (.lastore, 1)) (r : W h k n pc Ls (.long x :: .int j :: .ref a :: st)) : ∃ h', Wr h h' a i (.long x) ∧ Ary Z h' a .long (vs.set i (.long x)) ∧ W h' k n (pc + 1) Ls st := by
  obtain ⟨h1, h2⟩ := idx_ok hj
  obtain ⟨c, A', q⟩ := id A
  obtain ⟨h', w, r'⟩ := H.stJ A' (idx_in' hj q hi) hn0 hd r
  rw [h1] at w
  exact ⟨h', w, A.same w, r'⟩
theorem Wk.putC (H : Wk l Z y code mx ret R n0 W V) {j : Int32} {i : Nat} {x : Int32} {z : Int32} (hz : x.toUInt32.toUInt16.toUInt32.toInt32 = z) (A : Ary Z h a .char vs) (hj : j.toInt = i) (hi : i < vs.length) (hn0 : n0 ≤ a) (hd : decode code pc = .ok (.castore, 1)) (r : W h k n pc Ls (.int x :: .int j :: .ref a :: st)) : ∃ h', Wr h h' a i (.int z) ∧ Ary Z h' a .char (vs.set i (.int z)) ∧ W h' k n (pc + 1) Ls st := by
  subst hz
  obtain ⟨h1, h2⟩ := idx_ok hj
  obtain ⟨c, A', q⟩ := id A
  obtain ⟨h', w, r'⟩ := H.stC A' (idx_in' hj q hi) hn0 hd r
  rw [h1] at w
  exact ⟨h', w, A.same w, r'⟩
theorem Wk.putB (H : Wk l Z y code mx ret R n0 W V) {j : Int32} {i : Nat} {x : Int32} {z : Int32} (hz : x.toInt8.toInt32 = z) (A : Ary Z h a .byte vs) (hj : j.toInt = i) (hi : i < vs.length) (hn0 : n0 ≤ a) (hd : decode code pc = .ok (.bastore, 1)) (r : W h k n pc Ls (.int x :: .int j :: .ref a :: st)) : ∃ h', Wr h h' a i (.int z) ∧ Ary Z h' a .byte (vs.set i (.int z)) ∧ W h' k n (pc + 1) Ls st := by
  subst hz
  obtain ⟨h1, h2⟩ := idx_ok hj
  obtain ⟨c, A', q⟩ := id A
  obtain ⟨h', w, r'⟩ := H.stB A' (idx_in' hj q hi) hn0 hd r
  rw [h1] at w
  exact ⟨h', w, A.same w, r'⟩
end Arrays
theorem ns_root {Z : State} {a0 : Array Value} {O K : String} {q : Nat} (w : (Jvm.Cond.noSuperclass O).before a0 Z = true) (wk : (Jvm.Cond.instantiable K q).before a0 Z = true) (hn : O ≠ K) : NS Z O K := by
  obtain ⟨c, k, h1, h2, h3, -, -⟩ := Cond.noSuperclass_spec w
  obtain ⟨t, k', g1, g2, -⟩ := Cond.instantiable_spec wk
  have ne := ids_ne h1 g1 hn
  refine ⟨c, t, h1, g1, fun fuel => ?_⟩
  cases fuel with
  | zero => rfl
  | succ f => simp [Vm.isSubclassAux, ne, h2, h3]
theorem ns_no {Z : State} {a0 : Array Value} {C S K : String} {q : Nat} (w : (Jvm.Cond.superclass C S).before a0 Z = true) (wk : (Jvm.Cond.instantiable K q).before a0 Z = true) (n : NS Z C K) (hn : C ≠ K) : ∃ c t, Z.vm.findClass C = some c ∧ Z.vm.findClass K = some t ∧ Z.vm.assignable c t = false := by
  obtain ⟨c, t, h0, g0, n3⟩ := n
  obtain ⟨p, k, kp, h1, h2, h3, h4, h5, -, h7⟩ := Cond.superclass_spec h0 w
  obtain ⟨t', k', g1, g2, g5, g7, -⟩ := Cond.instantiable_spec wk
  cases g0.symm.trans g1
  have ne := ids_ne h0 g0 hn
  have g8 : k'.isInterface = false := by cases hh : k'.isInterface <;> simp [hh] at g7 ⊢
  refine ⟨c, t, h0, g0, ?_⟩
  show Z.vm.assignableAux (255 + 1) c t = false
  simp [Vm.assignableAux, ne, h2, g2, h5, g5, g8, Vm.isSubclass, n3]
/-- (k & 0x7fffffff) % m as a natural -/
theorem own_modn (k : Int32) (m : Nat) (h0 : 0 < m) (hm : m < 2147483648) : ∃ i : Nat, i < m ∧ (k &&& (2147483647 : Int32)) % Int32.ofNat m = Int32.ofNat i := by
  have h1 : (k &&& (2147483647 : Int32)).toInt = k.toInt % (2 ^ 31 : Nat) := c_mask k _ 31 (by decide) (by decide)
  have hM : (Int32.ofNat m).toInt = (m : Int) := Int32.toInt_ofNat_of_lt (by omega)
  have h2 := (c_irem (k &&& (2147483647 : Int32)) (Int32.ofNat m) m hM).1 (by rw [h1]; omega)
  have h3 : 0 ≤ (k &&& (2147483647 : Int32)).toInt % (m : Int) := Int.emod_nonneg _ (by omega)
  have h4 : (k &&& (2147483647 : Int32)).toInt % (m : Int) < m := Int.emod_lt_of_pos _ (by omega)
  refine ⟨((k &&& (2147483647 : Int32)) % Int32.ofNat m).toInt.toNat, by omega, ?_⟩
  apply Int32.toInt_inj.mp
  rw [Int32.toInt_ofNat_of_lt (by omega)]
  omega
theorem own_ofNat {i : Nat} (hi : i < 2147483648) : (Int32.ofNat i).toInt = (i : Int) := Int32.toInt_ofNat_of_lt (by omega)
theorem own_ltN {i j : Nat} (hi : i < 2147483648) (hj : j < 2147483648) : Int32.ofNat i < Int32.ofNat j ↔ i < j := by
  rw [Int32.lt_iff_toInt_lt, own_ofNat hi, own_ofNat hj]
  omega
theorem own_eqN {i j : Nat} (hi : i < 2147483648) (hj : j < 2147483648) : Int32.ofNat i = Int32.ofNat j ↔ i = j := by
  rw [← Int32.toInt_inj, own_ofNat hi, own_ofNat hj]
  omega
theorem own_nn {n : Nat} (hn : n < 2147483648) : ¬ Int32.ofNat n < 0 := by
  rw [Int32.lt_iff_toInt_lt, own_ofNat hn, show (0 : Int32).toInt = 0 from rfl]
  omega
theorem own_pred {n : Nat} (hp : 0 < n) (hn : n < 2147483648) : (Int32.ofNat n - (1 : Int32)).toInt = ((n - 1 : Nat) : Int) := by
  have h2 := c_isub (Int32.ofNat n) (1 : Int32)
  have r2 := rng32 (Int32.ofNat n - (1 : Int32))
  rw [own_ofNat hn, show (1 : Int32).toInt = 1 from rfl] at h2
  omega
theorem own_succ (i : Nat) : Int32.ofNat i + (1 : Int32) = Int32.ofNat (i + 1) := (Int32.ofNat_add i 1).symm
end Jvm.OwnW

namespace Jvm.Pilot.@@N@@
open Jvm Jvm.ClassFile Sem Op Lib Jvm.Free Jvm.Stand Jvm.LawKit Jvm.RoadKit Bundle Jvm.OwnW Jvm.Pilot.@@N@@.Jvm.D
def own_find (xs : List Int32) (q : Int32) (i : Nat) : Int32 := if h : i < xs.length then (if xs[i]'h = q then Int32.ofNat i else own_find xs q (i + 1)) else -1
termination_by xs.length - i
theorem own_find_lt {xs : List Int32} {q : Int32} {i : Nat} (h : i < xs.length) : own_find xs q i = if xs[i]'h = q then Int32.ofNat i else own_find xs q (i + 1) := by rw [own_find, dif_pos h]
theorem own_find_ge {xs : List Int32} {q : Int32} {i : Nat} (h : ¬ i < xs.length) : own_find xs q i = -1 := by rw [own_find, dif_neg h]
theorem own_fits (xs : List Int32) : ∀ v ∈ xs.map Value.int, fits .int v = true := by
  intro v hv
  obtain ⟨x, -, rfl⟩ := List.mem_map.mp hv
  rfl
theorem own_m3 (x : Int32) : ∃ n : Nat, n < 4 ∧ (x &&& (3 : Int32)) = Int32.ofNat n := by
  refine ⟨(x &&& 3).toBitVec.toNat, ?_, ?_⟩
  · simp only [Int32.toBitVec_and, BitVec.toNat_and]
    exact Nat.lt_succ_of_le Nat.and_le_right
  · apply Int32.toBitVec_inj.mp
    show _ = BitVec.ofNat 32 _
    rw [BitVec.ofNat_toNat]; simp
theorem d1_0 : decode prog_97_method_1_code 0 = .ok (.aload_n 0, 1) := by decide +kernel
theorem d1_1 : decode prog_97_method_1_code 1 = .ok (.invokespecial 1, 3) := by decide +kernel
theorem d1_4 : decode prog_97_method_1_code 4 = .ok (.aload_n 0, 1) := by decide +kernel
theorem d1_5 : decode prog_97_method_1_code 5 = .ok (.new 7, 3) := by decide +kernel
theorem d1_8 : decode prog_97_method_1_code 8 = .ok (.dup, 1) := by decide +kernel
theorem d1_9 : decode prog_97_method_1_code 9 = .ok (.invokespecial 9, 3) := by decide +kernel
theorem d1_12 : decode prog_97_method_1_code 12 = .ok (.putfield 10, 3) := by decide +kernel
theorem d1_15 : decode prog_97_method_1_code 15 = .ok (.aload_n 0, 1) := by decide +kernel
theorem d1_16 : decode prog_97_method_1_code 16 = .ok (.aload_n 1, 1) := by decide +kernel
theorem d1_17 : decode prog_97_method_1_code 17 = .ok (.invokevirtual 16, 3) := by decide +kernel
theorem d1_20 : decode prog_97_method_1_code 20 = .ok (.checkcast 17, 3) := by decide +kernel
theorem d1_23 : decode prog_97_method_1_code 23 = .ok (.putfield 22, 3) := by decide +kernel
theorem d1_26 : decode prog_97_method_1_code 26 = .ok (.return_, 1) := by decide +kernel
theorem d3_0 : decode jdk_69_method_7_code 0 = .ok (.aload_n 0, 1) := by decide +kernel
theorem d3_1 : decode jdk_69_method_7_code 1 = .ok (.invokespecial 43, 3) := by decide +kernel
theorem d3_4 : decode jdk_69_method_7_code 4 = .ok (.aload_n 0, 1) := by decide +kernel
theorem d3_5 : decode jdk_69_method_7_code 5 = .ok (.ldc 92, 2) := by decide +kernel
theorem d3_7 : decode jdk_69_method_7_code 7 = .ok (.putfield 81, 3) := by decide +kernel
theorem d3_10 : decode jdk_69_method_7_code 10 = .ok (.return_, 1) := by decide +kernel
theorem d4_0 : decode jdk_71_method_1_code 0 = .ok (.aload_n 0, 1) := by decide +kernel
theorem d4_1 : decode jdk_71_method_1_code 1 = .ok (.invokespecial 1, 3) := by decide +kernel
theorem d4_4 : decode jdk_71_method_1_code 4 = .ok (.return_, 1) := by decide +kernel
theorem d5_0 : decode prog_97_method_5_code 0 = .ok (.iconst 0, 1) := by decide +kernel
theorem d5_1 : decode prog_97_method_5_code 1 = .ok (.istore_n 2, 1) := by decide +kernel
theorem d5_2 : decode prog_97_method_5_code 2 = .ok (.iload_n 2, 1) := by decide +kernel
theorem d5_3 : decode prog_97_method_5_code 3 = .ok (.aload_n 0, 1) := by decide +kernel
theorem d5_4 : decode prog_97_method_5_code 4 = .ok (.getfield 22, 3) := by decide +kernel
theorem d5_7 : decode prog_97_method_5_code 7 = .ok (.arraylength, 1) := by decide +kernel
theorem d5_8 : decode prog_97_method_5_code 8 = .ok (.if_icmp .ge 21, 3) := by decide +kernel
theorem d5_11 : decode prog_97_method_5_code 11 = .ok (.aload_n 0, 1) := by decide +kernel
theorem d5_12 : decode prog_97_method_5_code 12 = .ok (.getfield 22, 3) := by decide +kernel
theorem d5_15 : decode prog_97_method_5_code 15 = .ok (.iload_n 2, 1) := by decide +kernel
theorem d5_16 : decode prog_97_method_5_code 16 = .ok (.iaload, 1) := by decide +kernel
theorem d5_17 : decode prog_97_method_5_code 17 = .ok (.iload_n 1, 1) := by decide +kernel
theorem d5_18 : decode prog_97_method_5_code 18 = .ok (.if_icmp .ne 5, 3) := by decide +kernel
theorem d5_21 : decode prog_97_method_5_code 21 = .ok (.iload_n 2, 1) := by decide +kernel
theorem d5_22 : decode prog_97_method_5_code 22 = .ok (.ireturn, 1) := by decide +kernel
theorem d5_23 : decode prog_97_method_5_code 23 = .ok (.iinc 2 1, 3) := by decide +kernel
theorem d5_26 : decode prog_97_method_5_code 26 = .ok (.goto (-24), 3) := by decide +kernel
theorem d5_29 : decode prog_97_method_5_code 29 = .ok (.iconst (-1), 1) := by decide +kernel
theorem d5_30 : decode prog_97_method_5_code 30 = .ok (.ireturn, 1) := by decide +kernel
theorem d6_0 : decode method_2_code 0 = .ok (.iload_n 0, 1) := by decide +kernel
theorem d6_1 : decode method_2_code 1 = .ok (.ifCond .le 11, 3) := by decide +kernel
theorem d6_4 : decode method_2_code 4 = .ok (.iload 4, 2) := by decide +kernel
theorem d6_6 : decode method_2_code 6 = .ok (.iload_n 1, 1) := by decide +kernel
theorem d6_7 : decode method_2_code 7 = .ok (.if_icmp .ne 5, 3) := by decide +kernel
theorem d6_10 : decode method_2_code 10 = .ok (.iconst 0, 1) := by decide +kernel
theorem d6_11 : decode method_2_code 11 = .ok (.ireturn, 1) := by decide +kernel
theorem d6_12 : decode method_2_code 12 = .ok (.iload_n 0, 1) := by decide +kernel
theorem d6_13 : decode method_2_code 13 = .ok (.iconst 1, 1) := by decide +kernel
theorem d6_14 : decode method_2_code 14 = .ok (.if_icmp .le 11, 3) := by decide +kernel
theorem d6_17 : decode method_2_code 17 = .ok (.iload 4, 2) := by decide +kernel
theorem d6_19 : decode method_2_code 19 = .ok (.iload_n 2, 1) := by decide +kernel
theorem d6_20 : decode method_2_code 20 = .ok (.if_icmp .ne 5, 3) := by decide +kernel
theorem d6_23 : decode method_2_code 23 = .ok (.iconst 1, 1) := by decide +kernel
theorem d6_24 : decode method_2_code 24 = .ok (.ireturn, 1) := by decide +kernel
theorem d6_25 : decode method_2_code 25 = .ok (.iload_n 0, 1) := by decide +kernel
theorem d6_26 : decode method_2_code 26 = .ok (.iconst 2, 1) := by decide +kernel
theorem d6_27 : decode method_2_code 27 = .ok (.if_icmp .le 11, 3) := by decide +kernel
theorem d6_30 : decode method_2_code 30 = .ok (.iload 4, 2) := by decide +kernel
theorem d6_32 : decode method_2_code 32 = .ok (.iload_n 3, 1) := by decide +kernel
theorem d6_33 : decode method_2_code 33 = .ok (.if_icmp .ne 5, 3) := by decide +kernel
theorem d6_36 : decode method_2_code 36 = .ok (.iconst 2, 1) := by decide +kernel
theorem d6_37 : decode method_2_code 37 = .ok (.ireturn, 1) := by decide +kernel
theorem d6_38 : decode method_2_code 38 = .ok (.iconst (-1), 1) := by decide +kernel
theorem d6_39 : decode method_2_code 39 = .ok (.ireturn, 1) := by decide +kernel
theorem pd_0 : parseMethodDescriptor "()V" = some ⟨[], none⟩ := by decide +kernel
theorem pd_1 : parseMethodDescriptor "([I)V" = some ⟨[(.array .int)], none⟩ := by decide +kernel
theorem pd_2 : parseMethodDescriptor "(I)I" = some ⟨[.int], some .int⟩ := by decide +kernel
theorem pd_3 : parseMethodDescriptor "(IIIII)I" = some ⟨[.int, .int, .int, .int, .int], some .int⟩ := by decide +kernel
theorem pn_0 : plainName "java/util/AbstractMap" = true := by first | (simp [plainName, overriddenIn]; done) | decide +kernel
theorem pn_1 : plainName "java/util/HashMap" = true := by first | (simp [plainName, overriddenIn]; done) | decide +kernel
theorem pn_2 : plainName "com/example/noethnitz/noethnitz/queries/Join$Table" = true := by first | (simp [plainName, overriddenIn]; done) | decide +kernel
theorem pn_3 : plainName "com/example/noethnitz/noethnitz/queries/TablePositionPinLaw" = true := by first | (simp [plainName, overriddenIn]; done) | decide +kernel
theorem ef_am (x0 : Addr) (m : MethodId) : entryFrame m #[(.ref x0)] 1 = mkF m 0 #[.val (.ref x0)] [] := by first | (simp [entryFrame, mkF, argsToLocals, Value.category]; done) | rfl
theorem ef_hm (x0 : Addr) (m : MethodId) : entryFrame m #[(.ref x0)] 1 = mkF m 0 #[.val (.ref x0)] [] := by first | (simp [entryFrame, mkF, argsToLocals, Value.category]; done) | rfl
theorem ef_t (x0 : Addr) (x1 : Addr) (m : MethodId) : entryFrame m #[(.ref x0), (.ref x1)] 2 = mkF m 0 #[.val (.ref x0), .val (.ref x1)] [] := by first | (simp [entryFrame, mkF, argsToLocals, Value.category]; done) | rfl
theorem ef_p (x0 : Addr) (x1 : Int32) (m : MethodId) : entryFrame m #[(.ref x0), (.int x1)] 3 = mkF m 0 #[.val (.ref x0), .val (.int x1), .unset] [] := by first | (simp [entryFrame, mkF, argsToLocals, Value.category]; done) | rfl
theorem ef_x (x0 : Int32) (x1 : Int32) (x2 : Int32) (x3 : Int32) (x4 : Int32) (m : MethodId) : entryFrame m #[(.int x0), (.int x1), (.int x2), (.int x3), (.int x4)] 5 = mkF m 0 #[.val (.int x0), .val (.int x1), .val (.int x2), .val (.int x3), .val (.int x4)] [] := by first | (simp [entryFrame, mkF, argsToLocals, Value.category]; done) | rfl
theorem ef_0 (x0 : Int32) (x1 : Int32) (x2 : Int32) (x3 : Int32) (x4 : Int32) (x5 : Int32) (m : MethodId) : entryFrame m #[(.int x0), (.int x1), (.int x2), (.int x3), (.int x4), (.int x5)] maxLocals = mkF m 0 #[.val (.int x0), .val (.int x1), .val (.int x2), .val (.int x3), .val (.int x4), .val (.int x5), .unset, .unset, .unset, .unset, .unset, .unset, .unset] [] := by first | (simp [entryFrame, mkF, argsToLocals, Value.category, maxLocals]; done) | rfl
set_option maxRecDepth 65536 in
set_option maxHeartbeats 40000000 in
theorem am_ct {l : Launch} {Z : State} {a0 : Array Value} (hw : ∀ d ∈ tables_1, d.before a0 Z = true) (a : Addr) (h0 : Heap) (n0 : Nat) :
    Ct l Z (⟨"java/util/AbstractMap", "<init>", "()V"⟩ : MethodName) jdk_71_method_1_code 1 none ({ frames := 1, cells := 0, slots := 0, locals := 12 } : Room) n0 #[(.ref a)] h0 (fun v h' => v = none ∧ h' = h0) := by
  refine Ct.of (plainFor_of_name pn_0) (fun m => ef_am a m) ?_
  intro W V H r0
  have r1 : W h0 0 0 1 #[.val (.ref a)] [(.ref a)] := (H.aloadN d4_0 r0 rfl rfl)
  have r2 : W h0 0 0 4 #[.val (.ref a)] [] := H.initO (w := 0) (hw _ (List.mem_of_getElem? (i := 22) rfl)) (hw _ (List.mem_of_getElem? (i := 8) rfl)) (hw _ (List.mem_of_getElem? (i := 9) rfl)) rfl (by decide) (Nat.le_of_eq rfl) (by decide) d4_1 r1
  exact ⟨_, _, H.retN rfl (Nat.le_refl _) (Nat.le_refl _) d4_4 r2, rfl, rfl⟩
set_option maxRecDepth 65536 in
set_option maxHeartbeats 40000000 in
theorem hm_ct {l : Launch} {Z : State} {a0 : Array Value} (hw : ∀ d ∈ tables_1, d.before a0 Z = true) (a : Addr) (h0 : Heap) (n0 : Nat) (Z0 : n0 ≤ h0.size) (N0 : n0 ≤ a) (X0 : Exa Z h0 a "java/util/HashMap") (F0 : Fld Z h0 a "java/util/HashMap" "loadFactor" "F" (.float 0)) :
    Ct l Z (⟨"java/util/HashMap", "<init>", "()V"⟩ : MethodName) jdk_69_method_7_code 1 none ({ frames := 2, cells := 0, slots := 0, locals := 24 } : Room) n0 #[(.ref a)] h0 (fun v h' => v = none ∧ Keep h0 h' [a]) := by
  refine Ct.of (plainFor_of_name pn_1) (fun m => ef_hm a m) ?_
  intro W V H r0
  have r3 : W h0 0 0 1 #[.val (.ref a)] [(.ref a)] := (H.aloadN d3_0 r0 rfl rfl)
  obtain ⟨_, hn1, ⟨rfl, eh1⟩, r4⟩ := H.callI (w := 0) (argsL := []) (rest := []) rfl (hw _ (List.mem_of_getElem? (i := 16) rfl)) (hw _ (List.mem_of_getElem? (i := 17) rfl)) (hw _ (List.mem_of_getElem? (i := 20) rfl)) (hw _ (List.mem_of_getElem? (i := 21) rfl)) (by decide) pd_0 (by decide) (by decide) (by decide) (by decide) (am_ct hw a h0 n0) rfl rfl (Nat.le_of_eq rfl) rfl d3_1 r3
  replace r4 : W hn1 0 0 4 #[.val (.ref a)] [] := r4
  rw [eh1] at r4
  have r5 : W h0 0 0 5 #[.val (.ref a)] [(.ref a)] := (H.aloadN d3_4 r4 rfl rfl)
  have r6 : W h0 0 0 7 #[.val (.ref a)] [(.float (1061158912 : UInt32)), (.ref a)] := H.ldcFloat (hw _ (List.mem_of_getElem? (i := 23) rfl)) d3_5 r5
  obtain ⟨h7, w8, r9⟩ := H.putF (ty := .float) (host := "") (Or.inl (hw _ (List.mem_of_getElem? (i := 24) rfl))) Via.refl F0 X0 (Or.inr ⟨(hw _ (List.mem_of_getElem? (i := 25) rfl)), rfl, rfl⟩) (hw _ (List.mem_of_getElem? (i := 11) rfl)) (by decide +kernel) rfl rfl N0 d3_7 r6
  have Z10 : n0 ≤ h7.size := by rw [w8.size]; exact Z0
  have G11 : Fld Z h7 a "java/util/HashMap" "loadFactor" "F" (.float (1061158912 : UInt32)) := F0.same w8
  replace r9 : W h7 0 0 10 #[.val (.ref a)] [] := r9
  exact ⟨_, _, H.retN rfl (Nat.le_refl _) (Nat.le_refl _) d3_10 r9, rfl, (Keep.refl _ _).wr w8 (Or.inl (List.mem_of_getElem? (i := 0) rfl))⟩
set_option maxRecDepth 65536 in
set_option maxHeartbeats 40000000 in
theorem ini_ct {l : Launch} {Z : State} {a0 : Array Value} (hw : ∀ d ∈ tables_1, d.before a0 Z = true) {vs : List Value} (t va : Addr) (hlen : vs.length ≤ 3) (hfit : ∀ v ∈ vs, fits .int v = true) (h0 : Heap) (n0 : Nat) (Z0 : n0 ≤ h0.size) (N0 : n0 ≤ t) (hne : va ≠ t) (X0 : Exa Z h0 t "com/example/noethnitz/noethnitz/queries/Join$Table") (F0 : Fld Z h0 t "com/example/noethnitz/noethnitz/queries/Join$Table" "rows" "Ljava/util/Map;" .null) (G0 : Fld Z h0 t "com/example/noethnitz/noethnitz/queries/Join$Table" "variables" "[I" (.null)) (A0 : Ary Z h0 va .int vs) (XA : Exa Z h0 va "[I") :
    Ct l Z (⟨"com/example/noethnitz/noethnitz/queries/Join$Table", "<init>", "([I)V"⟩ : MethodName) prog_97_method_1_code 2 none ({ frames := 3, cells := 2, slots := 11, locals := 40 } : Room) n0 #[(.ref t), (.ref va)] h0 (fun v h' => v = none ∧ Keep h0 h' [t] ∧ Exa Z h' t "com/example/noethnitz/noethnitz/queries/Join$Table" ∧ ∃ cv : Addr, Fld Z h' t "com/example/noethnitz/noethnitz/queries/Join$Table" "variables" "[I" (.ref cv) ∧ Ary Z h' cv .int vs) := by
  refine Ct.of (plainFor_of_name pn_2) (fun m => ef_t t va m) ?_
  intro W V H r0
  have r12 : W h0 0 0 1 #[.val (.ref t), .val (.ref va)] [(.ref t)] := (H.aloadN d1_0 r0 rfl rfl)
  have r13 : W h0 0 0 4 #[.val (.ref t), .val (.ref va)] [] := H.initO (w := 0) (hw _ (List.mem_of_getElem? (i := 7) rfl)) (hw _ (List.mem_of_getElem? (i := 8) rfl)) (hw _ (List.mem_of_getElem? (i := 9) rfl)) rfl (by decide) (Nat.le_of_eq rfl) (by decide) d1_1 r12
  have r14 : W h0 0 0 5 #[.val (.ref t), .val (.ref va)] [(.ref t)] := (H.aloadN d1_4 r13 rfl rfl)
  obtain ⟨h15, m, ea16, E17, X18, D19, U20, r21⟩ := H.newO (hw _ (List.mem_of_getElem? (i := 10) rfl)) (hw _ (List.mem_of_getElem? (i := 11) rfl)) (hw _ (List.mem_of_getElem? (i := 12) rfl)) (by decide) (by decide) d1_5 r14
  have ne22 : t ≠ m := Nat.ne_of_lt (by rw [ea16]; exact X0.lt)
  have ne23 : va ≠ m := Nat.ne_of_lt (by rw [ea16]; exact A0.lt)
  have N24 : n0 ≤ m := by rw [ea16]; exact Z0
  have Y25 : h0.size ≤ m := by rw [ea16]; exact (Nat.le_refl _)
  have Z26 : n0 ≤ h15.size := Nat.le_trans Z0 E17.1
  have Y27 : h0.size ≤ h15.size := Nat.le_trans (Nat.le_refl _) E17.1
  have G28 : Fld Z h15 m "java/util/HashMap" "loadFactor" "F" (.float 0) := D19 (ty := .float) (Or.inr (hw _ (List.mem_of_getElem? (i := 25) rfl))) (by decide +kernel)
  replace r21 : W h15 1 8 8 #[.val (.ref t), .val (.ref va)] [(.ref m), (.ref t)] := r21
  have r29 : W h15 1 8 9 #[.val (.ref t), .val (.ref va)] [(.ref m), (.ref m), (.ref t)] := (H.dup d1_8 r21 rfl)
  obtain ⟨_, hc1, ⟨rfl, K1⟩, r30⟩ := H.callI (w := 2) (argsL := []) (rest := [(.ref m), (.ref t)]) rfl (hw _ (List.mem_of_getElem? (i := 13) rfl)) (hw _ (List.mem_of_getElem? (i := 14) rfl)) (hw _ (List.mem_of_getElem? (i := 12) rfl)) (hw _ (List.mem_of_getElem? (i := 15) rfl)) (by decide) pd_0 (by decide) (by decide) (by decide) (by decide) (hm_ct hw m h15 n0 Z26 N24 X18 G28) rfl rfl (Nat.le_of_eq rfl) rfl d1_9 r29
  have Z31 : n0 ≤ hc1.size := Nat.le_trans Z26 K1.1
  have Y32 : h0.size ≤ hc1.size := Nat.le_trans Y27 K1.1
  replace r30 : W hc1 1 8 12 #[.val (.ref t), .val (.ref va)] [(.ref m), (.ref t)] := r30
  have F33 := Fld.ext E17 F0
  have F34 := F33.keep K1 (ninS ne22 nin0)
  have F35 := Exa.ext E17 X0
  have F36 := F35.keep K1
  obtain ⟨h37, w38, r39⟩ := H.putF (ty := (.object "java/util/Map")) (host := "") (Or.inl (hw _ (List.mem_of_getElem? (i := 26) rfl))) Via.refl F34 F36 (Or.inr ⟨(hw _ (List.mem_of_getElem? (i := 27) rfl)), rfl, rfl⟩) (hw _ (List.mem_of_getElem? (i := 2) rfl)) (by decide +kernel) rfl rfl N0 d1_12 r30
  have Z40 : n0 ≤ h37.size := by rw [w38.size]; exact Z31
  have Y41 : h0.size ≤ h37.size := by rw [w38.size]; exact Y32
  have G42 : Fld Z h37 t "com/example/noethnitz/noethnitz/queries/Join$Table" "rows" "Ljava/util/Map;" (.ref m) := F34.same w38
  replace r39 : W h37 1 8 15 #[.val (.ref t), .val (.ref va)] [] := r39
  have r43 : W h37 1 8 17 #[.val (.ref t), .val (.ref va)] [(.ref va), (.ref t)] := (H.aloadN d1_16 (H.aloadN d1_15 r39 rfl rfl) rfl rfl)
  have F44 := A0.ext E17
  have F45 := F44.keep K1 (ninS ne23 nin0)
  have F46 := F45.other w38 hne
  have F47 := Exa.ext E17 XA
  have F48 := F47.keep K1
  have F49 := Exa.wr w38 F48
  have F50 := Exa.wr w38 F36
  have F51 := Fld.ext E17 G0
  have F52 := F51.keep K1 (ninS ne22 nin0)
  have F53 := Fld.other w38 F52 (Or.inr (slot_ne (a0 := a0) (C := "com/example/noethnitz/noethnitz/queries/Join$Table") (Or.inr (hw _ (List.mem_of_getElem? (i := 38) rfl))) (Or.inr (hw _ (List.mem_of_getElem? (i := 27) rfl))) (by decide) (t := (.array .int)) (t' := (.object "java/util/Map")) (by decide +kernel) (by decide +kernel)))
  obtain ⟨hcl, cv, ecv, Ecv, Acv, Xcv, rcl⟩ := H.cloneA (w := 1) (cap := 3) (hw _ (List.mem_of_getElem? (i := 28) rfl)) (hw _ (List.mem_of_getElem? (i := 29) rfl)) (hw _ (List.mem_of_getElem? (i := 33) rfl)) (hw _ (List.mem_of_getElem? (i := 31) rfl)) (hw _ (List.mem_of_getElem? (i := 32) rfl)) (hw _ (List.mem_of_getElem? (i := 34) rfl)) F46 F49 hfit rfl (by decide) (Nat.le_of_eq rfl) (by decide) hlen (by decide) (by decide) d1_17 r43
  have ne54 : t ≠ cv := Nat.ne_of_lt (by rw [ecv]; exact F50.lt)
  have ne55 : va ≠ cv := Nat.ne_of_lt (by rw [ecv]; exact F46.lt)
  have N56 : n0 ≤ cv := by rw [ecv]; exact Z40
  have Y57 : h0.size ≤ cv := by rw [ecv]; exact Y41
  have Z58 : n0 ≤ hcl.size := Nat.le_trans Z40 Ecv.1
  have Y59 : h0.size ≤ hcl.size := Nat.le_trans Y41 Ecv.1
  replace rcl : W hcl 2 11 20 #[.val (.ref t), .val (.ref va)] [(.ref cv), (.ref t)] := rcl
  have r60 : W hcl 2 11 23 #[.val (.ref t), .val (.ref va)] [(.ref cv), (.ref t)] := H.castY (hw _ (List.mem_of_getElem? (i := 35) rfl)) (Ins.self Xcv) d1_20 rcl
  have F61 := Fld.ext Ecv F53
  have F62 := Exa.ext Ecv F50
  obtain ⟨h63, w64, r65⟩ := H.putF (ty := (.array .int)) (host := "") (Or.inl (hw _ (List.mem_of_getElem? (i := 37) rfl))) Via.refl F61 F62 (Or.inr ⟨(hw _ (List.mem_of_getElem? (i := 38) rfl)), rfl, rfl⟩) (hw _ (List.mem_of_getElem? (i := 2) rfl)) (by decide +kernel) rfl rfl N0 d1_23 r60
  have Z66 : n0 ≤ h63.size := by rw [w64.size]; exact Z58
  have Y67 : h0.size ≤ h63.size := by rw [w64.size]; exact Y59
  have G68 : Fld Z h63 t "com/example/noethnitz/noethnitz/queries/Join$Table" "variables" "[I" (.ref cv) := F61.same w64
  replace r65 : W h63 2 11 26 #[.val (.ref t), .val (.ref va)] [] := r65
  have F69 := Exa.wr w64 F62
  have F70 := Acv.other w64 (Ne.symm ne54)
  exact ⟨_, _, H.retN rfl (by decide) (by decide) d1_26 r65, rfl, ((((((Keep.refl _ _).ext E17).trans K1 (allS (Or.inr Y25) all0)).wr w38 (Or.inl (List.mem_of_getElem? (i := 0) rfl))).ext Ecv).wr w64 (Or.inl (List.mem_of_getElem? (i := 0) rfl))), F69, cv, G68, F70⟩
set_option maxRecDepth 65536 in
set_option maxHeartbeats 40000000 in
theorem pos_loop {l : Launch} {Z : State} {a0 : Array Value} (hw : ∀ d ∈ tables_1, d.before a0 Z = true) {ret : Option FieldType} {R : Room} {n0 : Nat} {W : WT} {V : VT} {h0 : Heap} {t cv : Addr} (xs : List Int32) (hxs : xs.length ≤ 3) (q : Int32) (H : Wk l Z (⟨"com/example/noethnitz/noethnitz/queries/Join$Table", "position", "(I)I"⟩ : MethodName) prog_97_method_5_code 3 ret R n0 W V) (hret : ret = some .int) (hk0 : 0 ≤ R.cells) (hn0 : 0 ≤ R.slots) (G0 : Fld Z h0 t "com/example/noethnitz/noethnitz/queries/Join$Table" "variables" "[I" (.ref cv)) (A0 : Ary Z h0 cv .int (xs.map Value.int)) :
    ∀ (k i : Nat), i + k = xs.length → W h0 0 0 2 #[.val (.ref t), .val (.int q), .val (.int (Int32.ofNat i))] [] → V (some (.int (own_find xs q i))) h0 := by
  intro k
  induction k with
  | zero =>
    intro i hik r0
    have hge : ¬ Int32.ofNat i < Int32.ofNat xs.length := fun u => absurd ((own_ltN (by omega) (by omega)).mp u) (by omega)
    have r71 : W h0 0 0 4 #[.val (.ref t), .val (.int q), .val (.int (Int32.ofNat i))] [(.ref t), (.int (Int32.ofNat i))] := (H.aloadN d5_3 (H.iloadN d5_2 r0 rfl) rfl rfl)
    have r72 : W h0 0 0 7 #[.val (.ref t), .val (.int q), .val (.int (Int32.ofNat i))] [(.ref cv), (.int (Int32.ofNat i))] := H.getF' (hw _ (List.mem_of_getElem? (i := 37) rfl)) G0 d5_4 r71
    have r73 : W h0 0 0 8 #[.val (.ref t), .val (.int q), .val (.int (Int32.ofNat i))] [(.int (Int32.ofNat xs.length)), (.int (Int32.ofNat i))] := H.lenA (z := (Int32.ofNat xs.length)) A0 (by rw [List.length_map]; first | done | rfl) d5_7 r72
    have r74 : W h0 0 0 29 #[.val (.ref t), .val (.int q), .val (.int (Int32.ofNat i))] [] := (H.icmpYes (pc' := 29) d5_8 r73 (by decide) (by decide) (flt hge).2.1)
    have r75 : W h0 0 0 30 #[.val (.ref t), .val (.int q), .val (.int (Int32.ofNat i))] [(.int (-1 : Int32))] := (H.iconst (z := (-1 : Int32)) d5_29 r74 rfl)
    rw [own_find, dif_neg (by omega)]
    exact H.retI hret hk0 hn0 d5_30 r75
  | succ k ih =>
    intro i hik r0
    have hi : i < xs.length := by omega
    have hlt : Int32.ofNat i < Int32.ofNat xs.length := (own_ltN (by omega) (by omega)).mpr hi
    have r76 : W h0 0 0 4 #[.val (.ref t), .val (.int q), .val (.int (Int32.ofNat i))] [(.ref t), (.int (Int32.ofNat i))] := (H.aloadN d5_3 (H.iloadN d5_2 r0 rfl) rfl rfl)
    have r77 : W h0 0 0 7 #[.val (.ref t), .val (.int q), .val (.int (Int32.ofNat i))] [(.ref cv), (.int (Int32.ofNat i))] := H.getF' (hw _ (List.mem_of_getElem? (i := 37) rfl)) G0 d5_4 r76
    have r78 : W h0 0 0 8 #[.val (.ref t), .val (.int q), .val (.int (Int32.ofNat i))] [(.int (Int32.ofNat xs.length)), (.int (Int32.ofNat i))] := H.lenA (z := (Int32.ofNat xs.length)) A0 (by rw [List.length_map]; first | done | rfl) d5_7 r77
    have r79 : W h0 0 0 11 #[.val (.ref t), .val (.int q), .val (.int (Int32.ofNat i))] [] := (H.icmpNo d5_8 r78 (tlt hlt).2.1)
    have r80 : W h0 0 0 12 #[.val (.ref t), .val (.int q), .val (.int (Int32.ofNat i))] [(.ref t)] := (H.aloadN d5_11 r79 rfl rfl)
    have r81 : W h0 0 0 15 #[.val (.ref t), .val (.int q), .val (.int (Int32.ofNat i))] [(.ref cv)] := H.getF' (hw _ (List.mem_of_getElem? (i := 37) rfl)) G0 d5_12 r80
    have r82 : W h0 0 0 16 #[.val (.ref t), .val (.int q), .val (.int (Int32.ofNat i))] [(.int (Int32.ofNat i)), (.ref cv)] := (H.iloadN d5_15 r81 rfl)
    have r83 : W h0 0 0 17 #[.val (.ref t), .val (.int q), .val (.int (Int32.ofNat i))] [(.int (xs[i]'hi))] := H.ldI (i := i) (v := (.int (xs[i]'hi))) A0 (own_ofNat (by omega)) (by rw [List.getElem?_map, List.getElem?_eq_getElem hi]; rfl) d5_16 r82
    have r84 : W h0 0 0 18 #[.val (.ref t), .val (.int q), .val (.int (Int32.ofNat i))] [(.int q), (.int (xs[i]'hi))] := (H.iloadN d5_17 r83 rfl)
    by_cases h1 : (xs[i]'hi) = q
    · have r85 : W h0 0 0 21 #[.val (.ref t), .val (.int q), .val (.int (Int32.ofNat i))] [] := (H.icmpNo d5_18 r84 (teq h1).2)
      have r87 : W h0 0 0 22 #[.val (.ref t), .val (.int q), .val (.int (Int32.ofNat i))] [(.int (Int32.ofNat i))] := (H.iloadN d5_21 r85 rfl)
      rw [own_find, dif_pos hi, if_pos h1]
      exact H.retI hret hk0 hn0 d5_22 r87
    · have r86 : W h0 0 0 23 #[.val (.ref t), .val (.int q), .val (.int (Int32.ofNat i))] [] := (H.icmpYes (pc' := 23) d5_18 r84 (by decide) (by decide) (feq h1).2)
      have r88 : W h0 0 0 26 #[.val (.ref t), .val (.int q), .val (.int ((Int32.ofNat i) + (1 : Int32)))] [] := (H.iinc (z := ((Int32.ofNat i) + (1 : Int32))) d5_23 r86 rfl rfl rfl)
      rw [own_succ] at r88
      have r89 : W h0 0 0 2 #[.val (.ref t), .val (.int q), .val (.int (Int32.ofNat (i + 1)))] [] := (H.goto (pc' := 2) d5_26 r88 (by decide) (by decide))
      rw [own_find, dif_pos hi, if_neg h1]
      exact ih (i + 1) (by omega) r89
set_option maxRecDepth 65536 in
set_option maxHeartbeats 40000000 in
theorem pos_ct {l : Launch} {Z : State} {a0 : Array Value} (hw : ∀ d ∈ tables_1, d.before a0 Z = true) (t cv : Addr) (xs : List Int32) (hxs : xs.length ≤ 3) (q : Int32) (h0 : Heap) (n0 : Nat) (G0 : Fld Z h0 t "com/example/noethnitz/noethnitz/queries/Join$Table" "variables" "[I" (.ref cv)) (A0 : Ary Z h0 cv .int (xs.map Value.int)) :
    Ct l Z (⟨"com/example/noethnitz/noethnitz/queries/Join$Table", "position", "(I)I"⟩ : MethodName) prog_97_method_5_code 3 (some .int) ({ frames := 0, cells := 0, slots := 0, locals := 0 } : Room) n0 #[(.ref t), (.int q)] h0 (fun v h' => v = some (.int (own_find xs q 0)) ∧ h' = h0) := by
  refine Ct.of (plainFor_of_name pn_2) (fun m => ef_p t q m) ?_
  intro W V H r0
  have r90 : W h0 0 0 2 #[.val (.ref t), .val (.int q), .val (.int (0 : Int32))] [] := (H.istoreN d5_1 (H.iconst (z := (0 : Int32)) d5_0 r0 rfl) rfl)
  exact ⟨_, _, pos_loop hw xs hxs q H rfl (Nat.le_refl _) (Nat.le_refl _) G0 A0 xs.length 0 (by omega) r90, rfl, rfl⟩
set_option maxRecDepth 65536 in
set_option maxHeartbeats 40000000 in
theorem exp0_ct {l : Launch} {Z : State} {a0 : Array Value} (hw : ∀ d ∈ tables_1, d.before a0 Z = true) (a b d q : Int32) (h0 : Heap) (n0 : Nat) :
    Ct l Z (⟨"com/example/noethnitz/noethnitz/queries/TablePositionPinLaw", "expected", "(IIIII)I"⟩ : MethodName) method_2_code 5 (some .int) ({ frames := 0, cells := 0, slots := 0, locals := 0 } : Room) n0 #[(.int (Int32.ofNat 0)), (.int a), (.int b), (.int d), (.int q)] h0 (fun v h' => v = some (.int (-1 : Int32)) ∧ h' = h0) := by
  refine Ct.of (plainFor_of_name pn_3) (fun m => ef_x (Int32.ofNat 0) a b d q m) ?_
  intro W V H r0
  have r91 : W h0 0 0 12 #[.val (.int (Int32.ofNat 0)), .val (.int a), .val (.int b), .val (.int d), .val (.int q)] [] := (H.ifYes (pc' := 12) d6_1 (H.iloadN d6_0 r0 rfl) (by decide) (by decide) (flt (by decide)).2.2.2)
  have r92 : W h0 0 0 25 #[.val (.int (Int32.ofNat 0)), .val (.int a), .val (.int b), .val (.int d), .val (.int q)] [] := (H.icmpYes (pc' := 25) d6_14 (H.iconst (z := (1 : Int32)) d6_13 (H.iloadN d6_12 r91 rfl) rfl) (by decide) (by decide) (flt (by decide)).2.2.2)
  have r93 : W h0 0 0 38 #[.val (.int (Int32.ofNat 0)), .val (.int a), .val (.int b), .val (.int d), .val (.int q)] [] := (H.icmpYes (pc' := 38) d6_27 (H.iconst (z := (2 : Int32)) d6_26 (H.iloadN d6_25 r92 rfl) rfl) (by decide) (by decide) (flt (by decide)).2.2.2)
  have r94 : W h0 0 0 39 #[.val (.int (Int32.ofNat 0)), .val (.int a), .val (.int b), .val (.int d), .val (.int q)] [(.int (-1 : Int32))] := (H.iconst (z := (-1 : Int32)) d6_38 r93 rfl)
  exact ⟨_, _, H.retI rfl (Nat.le_refl _) (Nat.le_refl _) d6_39 r94, rfl, rfl⟩
theorem own_find0 (a b d q : Int32) : own_find [] q 0 = (-1 : Int32) := by
  rw [own_find_ge (xs := []) (q := q) (i := 0) (by decide : ¬ 0 < 0)]
set_option maxRecDepth 65536 in
set_option maxHeartbeats 40000000 in
theorem exp1_ct {l : Launch} {Z : State} {a0 : Array Value} (hw : ∀ d ∈ tables_1, d.before a0 Z = true) (a b d q : Int32) (h0 : Heap) (n0 : Nat) :
    Ct l Z (⟨"com/example/noethnitz/noethnitz/queries/TablePositionPinLaw", "expected", "(IIIII)I"⟩ : MethodName) method_2_code 5 (some .int) ({ frames := 0, cells := 0, slots := 0, locals := 0 } : Room) n0 #[(.int (Int32.ofNat 1)), (.int a), (.int b), (.int d), (.int q)] h0 (fun v h' => v = some (.int (if q = a then (0 : Int32) else (-1 : Int32))) ∧ h' = h0) := by
  refine Ct.of (plainFor_of_name pn_3) (fun m => ef_x (Int32.ofNat 1) a b d q m) ?_
  intro W V H r0
  have r95 : W h0 0 0 4 #[.val (.int (Int32.ofNat 1)), .val (.int a), .val (.int b), .val (.int d), .val (.int q)] [] := (H.ifNo d6_1 (H.iloadN d6_0 r0 rfl) (tlt (by decide)).2.2.2)
  have r96 : W h0 0 0 7 #[.val (.int (Int32.ofNat 1)), .val (.int a), .val (.int b), .val (.int d), .val (.int q)] [(.int a), (.int q)] := (H.iloadN d6_6 (H.iload d6_4 r95 rfl) rfl)
  by_cases g0 : q = a
  · have r97 : W h0 0 0 10 #[.val (.int (Int32.ofNat 1)), .val (.int a), .val (.int b), .val (.int d), .val (.int q)] [] := (H.icmpNo d6_7 r96 (teq g0).2)
    have r99 : W h0 0 0 11 #[.val (.int (Int32.ofNat 1)), .val (.int a), .val (.int b), .val (.int d), .val (.int q)] [(.int (0 : Int32))] := (H.iconst (z := (0 : Int32)) d6_10 r97 rfl)
    exact ⟨_, _, H.retI rfl (Nat.le_refl _) (Nat.le_refl _) d6_11 r99, by rw [if_pos g0], rfl⟩
  · have r98 : W h0 0 0 12 #[.val (.int (Int32.ofNat 1)), .val (.int a), .val (.int b), .val (.int d), .val (.int q)] [] := (H.icmpYes (pc' := 12) d6_7 r96 (by decide) (by decide) (feq g0).2)
    have r100 : W h0 0 0 25 #[.val (.int (Int32.ofNat 1)), .val (.int a), .val (.int b), .val (.int d), .val (.int q)] [] := (H.icmpYes (pc' := 25) d6_14 (H.iconst (z := (1 : Int32)) d6_13 (H.iloadN d6_12 r98 rfl) rfl) (by decide) (by decide) (flt (by decide)).2.2.2)
    have r101 : W h0 0 0 38 #[.val (.int (Int32.ofNat 1)), .val (.int a), .val (.int b), .val (.int d), .val (.int q)] [] := (H.icmpYes (pc' := 38) d6_27 (H.iconst (z := (2 : Int32)) d6_26 (H.iloadN d6_25 r100 rfl) rfl) (by decide) (by decide) (flt (by decide)).2.2.2)
    have r102 : W h0 0 0 39 #[.val (.int (Int32.ofNat 1)), .val (.int a), .val (.int b), .val (.int d), .val (.int q)] [(.int (-1 : Int32))] := (H.iconst (z := (-1 : Int32)) d6_38 r101 rfl)
    exact ⟨_, _, H.retI rfl (Nat.le_refl _) (Nat.le_refl _) d6_39 r102, by rw [if_neg g0], rfl⟩
theorem own_find1 (a b d q : Int32) : own_find [a] q 0 = (if q = a then (0 : Int32) else (-1 : Int32)) := by
  rw [own_find_lt (xs := [a]) (q := q) (i := 0) (by decide : 0 < 1)]
  rw [own_find_ge (xs := [a]) (q := q) (i := 0 + 1) (by decide : ¬ 0 + 1 < 1)]
  show ((if a = q then (0 : Int32) else -1) : Int32) = _
  by_cases g0 : a = q
  · rw [if_pos g0, if_pos (c := q = a) g0.symm]
  · rw [if_neg g0, if_neg (c := q = a) (fun u => g0 u.symm)]
set_option maxRecDepth 65536 in
set_option maxHeartbeats 40000000 in
theorem exp2_ct {l : Launch} {Z : State} {a0 : Array Value} (hw : ∀ d ∈ tables_1, d.before a0 Z = true) (a b d q : Int32) (h0 : Heap) (n0 : Nat) :
    Ct l Z (⟨"com/example/noethnitz/noethnitz/queries/TablePositionPinLaw", "expected", "(IIIII)I"⟩ : MethodName) method_2_code 5 (some .int) ({ frames := 0, cells := 0, slots := 0, locals := 0 } : Room) n0 #[(.int (Int32.ofNat 2)), (.int a), (.int b), (.int d), (.int q)] h0 (fun v h' => v = some (.int (if q = a then (0 : Int32) else (if q = b then (1 : Int32) else (-1 : Int32)))) ∧ h' = h0) := by
  refine Ct.of (plainFor_of_name pn_3) (fun m => ef_x (Int32.ofNat 2) a b d q m) ?_
  intro W V H r0
  have r103 : W h0 0 0 4 #[.val (.int (Int32.ofNat 2)), .val (.int a), .val (.int b), .val (.int d), .val (.int q)] [] := (H.ifNo d6_1 (H.iloadN d6_0 r0 rfl) (tlt (by decide)).2.2.2)
  have r104 : W h0 0 0 7 #[.val (.int (Int32.ofNat 2)), .val (.int a), .val (.int b), .val (.int d), .val (.int q)] [(.int a), (.int q)] := (H.iloadN d6_6 (H.iload d6_4 r103 rfl) rfl)
  by_cases g0 : q = a
  · have r105 : W h0 0 0 10 #[.val (.int (Int32.ofNat 2)), .val (.int a), .val (.int b), .val (.int d), .val (.int q)] [] := (H.icmpNo d6_7 r104 (teq g0).2)
    have r107 : W h0 0 0 11 #[.val (.int (Int32.ofNat 2)), .val (.int a), .val (.int b), .val (.int d), .val (.int q)] [(.int (0 : Int32))] := (H.iconst (z := (0 : Int32)) d6_10 r105 rfl)
    exact ⟨_, _, H.retI rfl (Nat.le_refl _) (Nat.le_refl _) d6_11 r107, by rw [if_pos g0], rfl⟩
  · have r106 : W h0 0 0 12 #[.val (.int (Int32.ofNat 2)), .val (.int a), .val (.int b), .val (.int d), .val (.int q)] [] := (H.icmpYes (pc' := 12) d6_7 r104 (by decide) (by decide) (feq g0).2)
    have r108 : W h0 0 0 17 #[.val (.int (Int32.ofNat 2)), .val (.int a), .val (.int b), .val (.int d), .val (.int q)] [] := (H.icmpNo d6_14 (H.iconst (z := (1 : Int32)) d6_13 (H.iloadN d6_12 r106 rfl) rfl) (tlt (by decide)).2.2.2)
    have r109 : W h0 0 0 20 #[.val (.int (Int32.ofNat 2)), .val (.int a), .val (.int b), .val (.int d), .val (.int q)] [(.int b), (.int q)] := (H.iloadN d6_19 (H.iload d6_17 r108 rfl) rfl)
    by_cases g1 : q = b
    · have r110 : W h0 0 0 23 #[.val (.int (Int32.ofNat 2)), .val (.int a), .val (.int b), .val (.int d), .val (.int q)] [] := (H.icmpNo d6_20 r109 (teq g1).2)
      have r112 : W h0 0 0 24 #[.val (.int (Int32.ofNat 2)), .val (.int a), .val (.int b), .val (.int d), .val (.int q)] [(.int (1 : Int32))] := (H.iconst (z := (1 : Int32)) d6_23 r110 rfl)
      exact ⟨_, _, H.retI rfl (Nat.le_refl _) (Nat.le_refl _) d6_24 r112, by rw [if_neg g0, if_pos g1], rfl⟩
    · have r111 : W h0 0 0 25 #[.val (.int (Int32.ofNat 2)), .val (.int a), .val (.int b), .val (.int d), .val (.int q)] [] := (H.icmpYes (pc' := 25) d6_20 r109 (by decide) (by decide) (feq g1).2)
      have r113 : W h0 0 0 38 #[.val (.int (Int32.ofNat 2)), .val (.int a), .val (.int b), .val (.int d), .val (.int q)] [] := (H.icmpYes (pc' := 38) d6_27 (H.iconst (z := (2 : Int32)) d6_26 (H.iloadN d6_25 r111 rfl) rfl) (by decide) (by decide) (flt (by decide)).2.2.2)
      have r114 : W h0 0 0 39 #[.val (.int (Int32.ofNat 2)), .val (.int a), .val (.int b), .val (.int d), .val (.int q)] [(.int (-1 : Int32))] := (H.iconst (z := (-1 : Int32)) d6_38 r113 rfl)
      exact ⟨_, _, H.retI rfl (Nat.le_refl _) (Nat.le_refl _) d6_39 r114, by rw [if_neg g0, if_neg g1], rfl⟩
theorem own_find2 (a b d q : Int32) : own_find [a, b] q 0 = (if q = a then (0 : Int32) else (if q = b then (1 : Int32) else (-1 : Int32))) := by
  rw [own_find_lt (xs := [a, b]) (q := q) (i := 0) (by decide : 0 < 2)]
  rw [own_find_lt (xs := [a, b]) (q := q) (i := 0 + 1) (by decide : 0 + 1 < 2)]
  rw [own_find_ge (xs := [a, b]) (q := q) (i := 0 + 1 + 1) (by decide : ¬ 0 + 1 + 1 < 2)]
  show ((if a = q then (0 : Int32) else (if b = q then (1 : Int32) else -1)) : Int32) = _
  by_cases g0 : a = q
  · rw [if_pos g0, if_pos (c := q = a) g0.symm]
  · rw [if_neg g0, if_neg (c := q = a) (fun u => g0 u.symm)]
    by_cases g1 : b = q
    · rw [if_pos g1, if_pos (c := q = b) g1.symm]
    · rw [if_neg g1, if_neg (c := q = b) (fun u => g1 u.symm)]
set_option maxRecDepth 65536 in
set_option maxHeartbeats 40000000 in
theorem exp3_ct {l : Launch} {Z : State} {a0 : Array Value} (hw : ∀ d ∈ tables_1, d.before a0 Z = true) (a b d q : Int32) (h0 : Heap) (n0 : Nat) :
    Ct l Z (⟨"com/example/noethnitz/noethnitz/queries/TablePositionPinLaw", "expected", "(IIIII)I"⟩ : MethodName) method_2_code 5 (some .int) ({ frames := 0, cells := 0, slots := 0, locals := 0 } : Room) n0 #[(.int (Int32.ofNat 3)), (.int a), (.int b), (.int d), (.int q)] h0 (fun v h' => v = some (.int (if q = a then (0 : Int32) else (if q = b then (1 : Int32) else (if q = d then (2 : Int32) else (-1 : Int32))))) ∧ h' = h0) := by
  refine Ct.of (plainFor_of_name pn_3) (fun m => ef_x (Int32.ofNat 3) a b d q m) ?_
  intro W V H r0
  have r115 : W h0 0 0 4 #[.val (.int (Int32.ofNat 3)), .val (.int a), .val (.int b), .val (.int d), .val (.int q)] [] := (H.ifNo d6_1 (H.iloadN d6_0 r0 rfl) (tlt (by decide)).2.2.2)
  have r116 : W h0 0 0 7 #[.val (.int (Int32.ofNat 3)), .val (.int a), .val (.int b), .val (.int d), .val (.int q)] [(.int a), (.int q)] := (H.iloadN d6_6 (H.iload d6_4 r115 rfl) rfl)
  by_cases g0 : q = a
  · have r117 : W h0 0 0 10 #[.val (.int (Int32.ofNat 3)), .val (.int a), .val (.int b), .val (.int d), .val (.int q)] [] := (H.icmpNo d6_7 r116 (teq g0).2)
    have r119 : W h0 0 0 11 #[.val (.int (Int32.ofNat 3)), .val (.int a), .val (.int b), .val (.int d), .val (.int q)] [(.int (0 : Int32))] := (H.iconst (z := (0 : Int32)) d6_10 r117 rfl)
    exact ⟨_, _, H.retI rfl (Nat.le_refl _) (Nat.le_refl _) d6_11 r119, by rw [if_pos g0], rfl⟩
  · have r118 : W h0 0 0 12 #[.val (.int (Int32.ofNat 3)), .val (.int a), .val (.int b), .val (.int d), .val (.int q)] [] := (H.icmpYes (pc' := 12) d6_7 r116 (by decide) (by decide) (feq g0).2)
    have r120 : W h0 0 0 17 #[.val (.int (Int32.ofNat 3)), .val (.int a), .val (.int b), .val (.int d), .val (.int q)] [] := (H.icmpNo d6_14 (H.iconst (z := (1 : Int32)) d6_13 (H.iloadN d6_12 r118 rfl) rfl) (tlt (by decide)).2.2.2)
    have r121 : W h0 0 0 20 #[.val (.int (Int32.ofNat 3)), .val (.int a), .val (.int b), .val (.int d), .val (.int q)] [(.int b), (.int q)] := (H.iloadN d6_19 (H.iload d6_17 r120 rfl) rfl)
    by_cases g1 : q = b
    · have r122 : W h0 0 0 23 #[.val (.int (Int32.ofNat 3)), .val (.int a), .val (.int b), .val (.int d), .val (.int q)] [] := (H.icmpNo d6_20 r121 (teq g1).2)
      have r124 : W h0 0 0 24 #[.val (.int (Int32.ofNat 3)), .val (.int a), .val (.int b), .val (.int d), .val (.int q)] [(.int (1 : Int32))] := (H.iconst (z := (1 : Int32)) d6_23 r122 rfl)
      exact ⟨_, _, H.retI rfl (Nat.le_refl _) (Nat.le_refl _) d6_24 r124, by rw [if_neg g0, if_pos g1], rfl⟩
    · have r123 : W h0 0 0 25 #[.val (.int (Int32.ofNat 3)), .val (.int a), .val (.int b), .val (.int d), .val (.int q)] [] := (H.icmpYes (pc' := 25) d6_20 r121 (by decide) (by decide) (feq g1).2)
      have r125 : W h0 0 0 30 #[.val (.int (Int32.ofNat 3)), .val (.int a), .val (.int b), .val (.int d), .val (.int q)] [] := (H.icmpNo d6_27 (H.iconst (z := (2 : Int32)) d6_26 (H.iloadN d6_25 r123 rfl) rfl) (tlt (by decide)).2.2.2)
      have r126 : W h0 0 0 33 #[.val (.int (Int32.ofNat 3)), .val (.int a), .val (.int b), .val (.int d), .val (.int q)] [(.int d), (.int q)] := (H.iloadN d6_32 (H.iload d6_30 r125 rfl) rfl)
      by_cases g2 : q = d
      · have r127 : W h0 0 0 36 #[.val (.int (Int32.ofNat 3)), .val (.int a), .val (.int b), .val (.int d), .val (.int q)] [] := (H.icmpNo d6_33 r126 (teq g2).2)
        have r129 : W h0 0 0 37 #[.val (.int (Int32.ofNat 3)), .val (.int a), .val (.int b), .val (.int d), .val (.int q)] [(.int (2 : Int32))] := (H.iconst (z := (2 : Int32)) d6_36 r127 rfl)
        exact ⟨_, _, H.retI rfl (Nat.le_refl _) (Nat.le_refl _) d6_37 r129, by rw [if_neg g0, if_neg g1, if_pos g2], rfl⟩
      · have r128 : W h0 0 0 38 #[.val (.int (Int32.ofNat 3)), .val (.int a), .val (.int b), .val (.int d), .val (.int q)] [] := (H.icmpYes (pc' := 38) d6_33 r126 (by decide) (by decide) (feq g2).2)
        have r130 : W h0 0 0 39 #[.val (.int (Int32.ofNat 3)), .val (.int a), .val (.int b), .val (.int d), .val (.int q)] [(.int (-1 : Int32))] := (H.iconst (z := (-1 : Int32)) d6_38 r128 rfl)
        exact ⟨_, _, H.retI rfl (Nat.le_refl _) (Nat.le_refl _) d6_39 r130, by rw [if_neg g0, if_neg g1, if_neg g2], rfl⟩
theorem own_find3 (a b d q : Int32) : own_find [a, b, d] q 0 = (if q = a then (0 : Int32) else (if q = b then (1 : Int32) else (if q = d then (2 : Int32) else (-1 : Int32)))) := by
  rw [own_find_lt (xs := [a, b, d]) (q := q) (i := 0) (by decide : 0 < 3)]
  rw [own_find_lt (xs := [a, b, d]) (q := q) (i := 0 + 1) (by decide : 0 + 1 < 3)]
  rw [own_find_lt (xs := [a, b, d]) (q := q) (i := 0 + 1 + 1) (by decide : 0 + 1 + 1 < 3)]
  rw [own_find_ge (xs := [a, b, d]) (q := q) (i := 0 + 1 + 1 + 1) (by decide : ¬ 0 + 1 + 1 + 1 < 3)]
  show ((if a = q then (0 : Int32) else (if b = q then (1 : Int32) else (if d = q then (2 : Int32) else -1))) : Int32) = _
  by_cases g0 : a = q
  · rw [if_pos g0, if_pos (c := q = a) g0.symm]
  · rw [if_neg g0, if_neg (c := q = a) (fun u => g0 u.symm)]
    by_cases g1 : b = q
    · rw [if_pos g1, if_pos (c := q = b) g1.symm]
    · rw [if_neg g1, if_neg (c := q = b) (fun u => g1 u.symm)]
      by_cases g2 : d = q
      · rw [if_pos g2, if_pos (c := q = d) g2.symm]
      · rw [if_neg g2, if_neg (c := q = d) (fun u => g2 u.symm)]
set_option maxRecDepth 65536 in
set_option maxHeartbeats 40000000 in
theorem road0 {l : Launch} {Z : State} {a0 : Array Value} (hw : ∀ d ∈ tables_1, d.before a0 Z = true) {n0 : Nat} {W : WT} {V : VT} {h0 : Heap} (a b d e len sel : Int32) (Z0 : n0 ≤ h0.size) (H : Wk l Z Jvm.Pilot.@@N@@.x code maxLocals ret room_1 n0 W V) (r0 : W h0 0 0 42 #[.val (.int a), .val (.int b), .val (.int d), .val (.int e), .val (.int len), .val (.int sel), .val (.int (Int32.ofNat 0)), .unset, .unset, .unset, .unset, .unset, .unset] []) : ∃ v h', V v h' ∧ v = some (.int 1) := by
  have r131 : W h0 0 0 44 #[.val (.int a), .val (.int b), .val (.int d), .val (.int e), .val (.int len), .val (.int sel), .val (.int (Int32.ofNat 0)), .unset, .unset, .unset, .unset, .unset, .unset] [(.int (Int32.ofNat 0))] := (H.iload at_42 r0 rfl)
  obtain ⟨h1, va, eva, E1, A1, XA, r1⟩ := H.newAE (i := 0) (cap := 3) (d := (.int 0)) (ad := "[I") rfl rfl (by decide) (hw _ (List.mem_of_getElem? (i := 0) rfl)) (by decide) (by decide) (by decide) (by decide) (by decide) at_44 r131
  have N132 : n0 ≤ va := by rw [eva]; exact Z0
  have Z133 : n0 ≤ h1.size := Nat.le_trans Z0 E1.1
  replace A1 : Ary Z h1 va .int [] := A1
  replace r1 : W h1 1 3 46 #[.val (.int a), .val (.int b), .val (.int d), .val (.int e), .val (.int len), .val (.int sel), .val (.int (Int32.ofNat 0)), .unset, .unset, .unset, .unset, .unset, .unset] [(.ref va)] := r1
  have r134 : W h1 1 3 48 #[.val (.int a), .val (.int b), .val (.int d), .val (.int e), .val (.int len), .val (.int sel), .val (.int (Int32.ofNat 0)), .val (.ref va), .unset, .unset, .unset, .unset, .unset] [] := (H.astore at_46 r1 rfl rfl)
  have r135 : W h1 1 3 58 #[.val (.int a), .val (.int b), .val (.int d), .val (.int e), .val (.int len), .val (.int sel), .val (.int (Int32.ofNat 0)), .val (.ref va), .unset, .unset, .unset, .unset, .unset] [] := (H.ifYes (pc' := 58) at_50 (H.iload at_48 r134 rfl) (by decide) (by decide) (flt (by decide)).2.2.2)
  have r136 : W h1 1 3 69 #[.val (.int a), .val (.int b), .val (.int d), .val (.int e), .val (.int len), .val (.int sel), .val (.int (Int32.ofNat 0)), .val (.ref va), .unset, .unset, .unset, .unset, .unset] [] := (H.icmpYes (pc' := 69) at_61 (H.iconst (z := (1 : Int32)) at_60 (H.iload at_58 r135 rfl) rfl) (by decide) (by decide) (flt (by decide)).2.2.2)
  have r137 : W h1 1 3 80 #[.val (.int a), .val (.int b), .val (.int d), .val (.int e), .val (.int len), .val (.int sel), .val (.int (Int32.ofNat 0)), .val (.ref va), .unset, .unset, .unset, .unset, .unset] [] := (H.icmpYes (pc' := 80) at_72 (H.iconst (z := (2 : Int32)) at_71 (H.iload at_69 r136 rfl) rfl) (by decide) (by decide) (flt (by decide)).2.2.2)
  obtain ⟨h138, t, ea139, E140, X141, D142, U143, r144⟩ := H.newO (hw _ (List.mem_of_getElem? (i := 1) rfl)) (hw _ (List.mem_of_getElem? (i := 2) rfl)) (hw _ (List.mem_of_getElem? (i := 3) rfl)) (by decide) (by decide) at_80 r137
  have ne145 : va ≠ t := Nat.ne_of_lt (by rw [ea139]; exact A1.lt)
  have N146 : n0 ≤ t := by rw [ea139]; exact Z133
  have Z147 : n0 ≤ h138.size := Nat.le_trans Z133 E140.1
  have G148 : Fld Z h138 t "com/example/noethnitz/noethnitz/queries/Join$Table" "rows" "Ljava/util/Map;" (.null) := D142 (ty := (.object "java/util/Map")) (Or.inr (hw _ (List.mem_of_getElem? (i := 27) rfl))) (by decide +kernel)
  have G149 : Fld Z h138 t "com/example/noethnitz/noethnitz/queries/Join$Table" "variables" "[I" (.null) := D142 (ty := (.array .int)) (Or.inr (hw _ (List.mem_of_getElem? (i := 38) rfl))) (by decide +kernel)
  replace r144 : W h138 2 5 83 #[.val (.int a), .val (.int b), .val (.int d), .val (.int e), .val (.int len), .val (.int sel), .val (.int (Int32.ofNat 0)), .val (.ref va), .unset, .unset, .unset, .unset, .unset] [(.ref t)] := r144
  have F150 := A1.ext E140
  have AX : Ary Z h138 va .int (([] : List Int32).map Value.int) := F150
  have F151 := Exa.ext E140 XA
  have r152 : W h138 2 5 86 #[.val (.int a), .val (.int b), .val (.int d), .val (.int e), .val (.int len), .val (.int sel), .val (.int (Int32.ofNat 0)), .val (.ref va), .unset, .unset, .unset, .unset, .unset] [(.ref va), (.ref t), (.ref t)] := (H.aload at_84 (H.dup at_83 r144 rfl) rfl rfl)
  obtain ⟨_, hc1, ⟨rfl, K1, X1, cv, G1, C1⟩, r153⟩ := H.callI (w := 1) (argsL := [(.ref va)]) (rest := [(.ref t)]) rfl (hw _ (List.mem_of_getElem? (i := 4) rfl)) (hw _ (List.mem_of_getElem? (i := 5) rfl)) (hw _ (List.mem_of_getElem? (i := 3) rfl)) (hw _ (List.mem_of_getElem? (i := 6) rfl)) (by decide) pd_1 (by decide) (by decide) (by decide) (by decide) (ini_ct (vs := (([] : List Int32).map Value.int)) hw t va (by simp) (own_fits []) h138 n0 Z147 N146 ne145 X141 G148 G149 AX F151) rfl rfl (Nat.le_of_eq rfl) rfl at_86 r152
  have Z154 : n0 ≤ hc1.size := Nat.le_trans Z147 K1.1
  replace r153 : W hc1 4 16 89 #[.val (.int a), .val (.int b), .val (.int d), .val (.int e), .val (.int len), .val (.int sel), .val (.int (Int32.ofNat 0)), .val (.ref va), .unset, .unset, .unset, .unset, .unset] [(.ref t)] := r153
  have r155 : W hc1 4 16 91 #[.val (.int a), .val (.int b), .val (.int d), .val (.int e), .val (.int len), .val (.int sel), .val (.int (Int32.ofNat 0)), .val (.ref va), .val (.ref t), .unset, .unset, .unset, .unset] [] := (H.astore at_89 r153 rfl rfl)
  have r156 : W hc1 4 16 97 #[.val (.int a), .val (.int b), .val (.int d), .val (.int e), .val (.int len), .val (.int sel), .val (.int (Int32.ofNat 0)), .val (.ref va), .val (.ref t), .val (.int (sel &&& (3 : Int32))), .unset, .unset, .unset] [] := (H.istore at_95 (H.iand at_94 (H.iconst (z := (3 : Int32)) at_93 (H.iload at_91 r155 rfl) rfl)) rfl)
  have r157 : W hc1 4 16 99 #[.val (.int a), .val (.int b), .val (.int d), .val (.int e), .val (.int len), .val (.int sel), .val (.int (Int32.ofNat 0)), .val (.ref va), .val (.ref t), .val (.int (sel &&& (3 : Int32))), .unset, .unset, .unset] [(.int (sel &&& (3 : Int32)))] := (H.iload at_97 r156 rfl)
  have r172 : W hc1 4 16 127 #[.val (.int a), .val (.int b), .val (.int d), .val (.int e), .val (.int len), .val (.int sel), .val (.int (Int32.ofNat 0)), .val (.ref va), .val (.ref t), .val (.int (sel &&& (3 : Int32))), .unset, .unset, .unset] [(.int (if (sel &&& (3 : Int32)) = (0 : Int32) then a else (if (sel &&& (3 : Int32)) = (1 : Int32) then b else (if (sel &&& (3 : Int32)) = (2 : Int32) then d else e))))] := by
    by_cases s1 : (sel &&& (3 : Int32)) = (0 : Int32)
    · have r158 : W hc1 4 16 102 #[.val (.int a), .val (.int b), .val (.int d), .val (.int e), .val (.int len), .val (.int sel), .val (.int (Int32.ofNat 0)), .val (.ref va), .val (.ref t), .val (.int (sel &&& (3 : Int32))), .unset, .unset, .unset] [] := (H.ifNo at_99 r157 (teq s1).2)
      have r171 : W hc1 4 16 127 #[.val (.int a), .val (.int b), .val (.int d), .val (.int e), .val (.int len), .val (.int sel), .val (.int (Int32.ofNat 0)), .val (.ref va), .val (.ref t), .val (.int (sel &&& (3 : Int32))), .unset, .unset, .unset] [(.int a)] := (H.goto (pc' := 127) at_103 (H.iloadN at_102 r158 rfl) (by decide) (by decide))
      first | (simp only [if_pos s1]; exact r171) | exact r171 | (simp only [if_pos s1] at r171 ⊢; exact r171)
    · have r159 : W hc1 4 16 106 #[.val (.int a), .val (.int b), .val (.int d), .val (.int e), .val (.int len), .val (.int sel), .val (.int (Int32.ofNat 0)), .val (.ref va), .val (.ref t), .val (.int (sel &&& (3 : Int32))), .unset, .unset, .unset] [] := (H.ifYes (pc' := 106) at_99 r157 (by decide) (by decide) (feq s1).2)
      have r160 : W hc1 4 16 109 #[.val (.int a), .val (.int b), .val (.int d), .val (.int e), .val (.int len), .val (.int sel), .val (.int (Int32.ofNat 0)), .val (.ref va), .val (.ref t), .val (.int (sel &&& (3 : Int32))), .unset, .unset, .unset] [(.int (1 : Int32)), (.int (sel &&& (3 : Int32)))] := (H.iconst (z := (1 : Int32)) at_108 (H.iload at_106 r159 rfl) rfl)
      have r170 : W hc1 4 16 127 #[.val (.int a), .val (.int b), .val (.int d), .val (.int e), .val (.int len), .val (.int sel), .val (.int (Int32.ofNat 0)), .val (.ref va), .val (.ref t), .val (.int (sel &&& (3 : Int32))), .unset, .unset, .unset] [(.int (if (sel &&& (3 : Int32)) = (1 : Int32) then b else (if (sel &&& (3 : Int32)) = (2 : Int32) then d else e)))] := by
        by_cases s2 : (sel &&& (3 : Int32)) = (1 : Int32)
        · have r161 : W hc1 4 16 112 #[.val (.int a), .val (.int b), .val (.int d), .val (.int e), .val (.int len), .val (.int sel), .val (.int (Int32.ofNat 0)), .val (.ref va), .val (.ref t), .val (.int (sel &&& (3 : Int32))), .unset, .unset, .unset] [] := (H.icmpNo at_109 r160 (teq s2).2)
          have r169 : W hc1 4 16 127 #[.val (.int a), .val (.int b), .val (.int d), .val (.int e), .val (.int len), .val (.int sel), .val (.int (Int32.ofNat 0)), .val (.ref va), .val (.ref t), .val (.int (sel &&& (3 : Int32))), .unset, .unset, .unset] [(.int b)] := (H.goto (pc' := 127) at_113 (H.iloadN at_112 r161 rfl) (by decide) (by decide))
          first | (simp only [if_pos s2]; exact r169) | exact r169 | (simp only [if_pos s2] at r169 ⊢; exact r169)
        · have r162 : W hc1 4 16 116 #[.val (.int a), .val (.int b), .val (.int d), .val (.int e), .val (.int len), .val (.int sel), .val (.int (Int32.ofNat 0)), .val (.ref va), .val (.ref t), .val (.int (sel &&& (3 : Int32))), .unset, .unset, .unset] [] := (H.icmpYes (pc' := 116) at_109 r160 (by decide) (by decide) (feq s2).2)
          have r163 : W hc1 4 16 119 #[.val (.int a), .val (.int b), .val (.int d), .val (.int e), .val (.int len), .val (.int sel), .val (.int (Int32.ofNat 0)), .val (.ref va), .val (.ref t), .val (.int (sel &&& (3 : Int32))), .unset, .unset, .unset] [(.int (2 : Int32)), (.int (sel &&& (3 : Int32)))] := (H.iconst (z := (2 : Int32)) at_118 (H.iload at_116 r162 rfl) rfl)
          have r168 : W hc1 4 16 127 #[.val (.int a), .val (.int b), .val (.int d), .val (.int e), .val (.int len), .val (.int sel), .val (.int (Int32.ofNat 0)), .val (.ref va), .val (.ref t), .val (.int (sel &&& (3 : Int32))), .unset, .unset, .unset] [(.int (if (sel &&& (3 : Int32)) = (2 : Int32) then d else e))] := by
            by_cases s3 : (sel &&& (3 : Int32)) = (2 : Int32)
            · have r164 : W hc1 4 16 122 #[.val (.int a), .val (.int b), .val (.int d), .val (.int e), .val (.int len), .val (.int sel), .val (.int (Int32.ofNat 0)), .val (.ref va), .val (.ref t), .val (.int (sel &&& (3 : Int32))), .unset, .unset, .unset] [] := (H.icmpNo at_119 r163 (teq s3).2)
              have r166 : W hc1 4 16 127 #[.val (.int a), .val (.int b), .val (.int d), .val (.int e), .val (.int len), .val (.int sel), .val (.int (Int32.ofNat 0)), .val (.ref va), .val (.ref t), .val (.int (sel &&& (3 : Int32))), .unset, .unset, .unset] [(.int d)] := (H.goto (pc' := 127) at_123 (H.iloadN at_122 r164 rfl) (by decide) (by decide))
              first | (simp only [if_pos s3]; exact r166) | exact r166 | (simp only [if_pos s3] at r166 ⊢; exact r166)
            · have r165 : W hc1 4 16 126 #[.val (.int a), .val (.int b), .val (.int d), .val (.int e), .val (.int len), .val (.int sel), .val (.int (Int32.ofNat 0)), .val (.ref va), .val (.ref t), .val (.int (sel &&& (3 : Int32))), .unset, .unset, .unset] [] := (H.icmpYes (pc' := 126) at_119 r163 (by decide) (by decide) (feq s3).2)
              have r167 : W hc1 4 16 127 #[.val (.int a), .val (.int b), .val (.int d), .val (.int e), .val (.int len), .val (.int sel), .val (.int (Int32.ofNat 0)), .val (.ref va), .val (.ref t), .val (.int (sel &&& (3 : Int32))), .unset, .unset, .unset] [(.int e)] := (H.iloadN at_126 r165 rfl)
              first | (simp only [if_neg s3]; exact r167) | exact r167 | (simp only [if_neg s3] at r167 ⊢; exact r167)
          first | (simp only [if_neg s2]; exact r168) | exact r168 | (simp only [if_neg s2] at r168 ⊢; exact r168)
      first | (simp only [if_neg s1]; exact r170) | exact r170 | (simp only [if_neg s1] at r170 ⊢; exact r170)
  have r173 : W hc1 4 16 129 #[.val (.int a), .val (.int b), .val (.int d), .val (.int e), .val (.int len), .val (.int sel), .val (.int (Int32.ofNat 0)), .val (.ref va), .val (.ref t), .val (.int (sel &&& (3 : Int32))), .val (.int (if (sel &&& (3 : Int32)) = (0 : Int32) then a else (if (sel &&& (3 : Int32)) = (1 : Int32) then b else (if (sel &&& (3 : Int32)) = (2 : Int32) then d else e)))), .unset, .unset] [] := (H.istore at_127 r172 rfl)
  generalize (if (sel &&& (3 : Int32)) = (0 : Int32) then a else (if (sel &&& (3 : Int32)) = (1 : Int32) then b else (if (sel &&& (3 : Int32)) = (2 : Int32) then d else e))) = q at r173
  have r174 : W hc1 4 16 133 #[.val (.int a), .val (.int b), .val (.int d), .val (.int e), .val (.int len), .val (.int sel), .val (.int (Int32.ofNat 0)), .val (.ref va), .val (.ref t), .val (.int (sel &&& (3 : Int32))), .val (.int q), .unset, .unset] [(.int q), (.ref t)] := (H.iload at_131 (H.aload at_129 r173 rfl rfl) rfl)
  have r175 : W hc1 4 16 136 #[.val (.int a), .val (.int b), .val (.int d), .val (.int e), .val (.int len), .val (.int sel), .val (.int (Int32.ofNat 0)), .val (.ref va), .val (.ref t), .val (.int (sel &&& (3 : Int32))), .val (.int q), .unset, .unset] [(.int (own_find [] q 0))] := H.callVP (w := 0) (argsL := [(.int q)]) (rest := []) (hw _ (List.mem_of_getElem? (i := 39) rfl)) (hw _ (List.mem_of_getElem? (i := 40) rfl)) (Or.inl ⟨_, _, (hw _ (List.mem_of_getElem? (i := 42) rfl)), rfl⟩) (hw _ (List.mem_of_getElem? (i := 42) rfl)) (hw _ (List.mem_of_getElem? (i := 41) rfl)) (hw _ (List.mem_of_getElem? (i := 3) rfl)) (hw _ (List.mem_of_getElem? (i := 43) rfl)) (by decide) pd_2 (by decide) (by decide) (by decide) (by decide) X1 (pos_ct hw t cv [] (by decide : 0 ≤ 3) q hc1 n0 G1 C1) rfl rfl (Nat.le_of_eq rfl) rfl at_133 r174
  have r176 : W hc1 4 16 138 #[.val (.int a), .val (.int b), .val (.int d), .val (.int e), .val (.int len), .val (.int sel), .val (.int (Int32.ofNat 0)), .val (.ref va), .val (.ref t), .val (.int (sel &&& (3 : Int32))), .val (.int q), .val (.int (own_find [] q 0)), .unset] [] := (H.istore at_136 r175 rfl)
  have r177 : W hc1 4 16 141 #[.val (.int a), .val (.int b), .val (.int d), .val (.int e), .val (.int len), .val (.int sel), .val (.int (Int32.ofNat 0)), .val (.ref va), .val (.ref t), .val (.int (sel &&& (3 : Int32))), .val (.int q), .val (.int (own_find [] q 0)), .unset] [(.int e), (.ref t)] := (H.iloadN at_140 (H.aload at_138 r176 rfl rfl) rfl)
  have r178 : W hc1 4 16 144 #[.val (.int a), .val (.int b), .val (.int d), .val (.int e), .val (.int len), .val (.int sel), .val (.int (Int32.ofNat 0)), .val (.ref va), .val (.ref t), .val (.int (sel &&& (3 : Int32))), .val (.int q), .val (.int (own_find [] q 0)), .unset] [(.int (own_find [] e 0))] := H.callVP (w := 0) (argsL := [(.int e)]) (rest := []) (hw _ (List.mem_of_getElem? (i := 39) rfl)) (hw _ (List.mem_of_getElem? (i := 40) rfl)) (Or.inl ⟨_, _, (hw _ (List.mem_of_getElem? (i := 42) rfl)), rfl⟩) (hw _ (List.mem_of_getElem? (i := 42) rfl)) (hw _ (List.mem_of_getElem? (i := 41) rfl)) (hw _ (List.mem_of_getElem? (i := 3) rfl)) (hw _ (List.mem_of_getElem? (i := 43) rfl)) (by decide) pd_2 (by decide) (by decide) (by decide) (by decide) X1 (pos_ct hw t cv [] (by decide : 0 ≤ 3) e hc1 n0 G1 C1) rfl rfl (Nat.le_of_eq rfl) rfl at_141 r177
  have r179 : W hc1 4 16 146 #[.val (.int a), .val (.int b), .val (.int d), .val (.int e), .val (.int len), .val (.int sel), .val (.int (Int32.ofNat 0)), .val (.ref va), .val (.ref t), .val (.int (sel &&& (3 : Int32))), .val (.int q), .val (.int (own_find [] q 0)), .val (.int (own_find [] e 0))] [] := (H.istore at_144 r178 rfl)
  have r180 : W hc1 4 16 155 #[.val (.int a), .val (.int b), .val (.int d), .val (.int e), .val (.int len), .val (.int sel), .val (.int (Int32.ofNat 0)), .val (.ref va), .val (.ref t), .val (.int (sel &&& (3 : Int32))), .val (.int q), .val (.int (own_find [] q 0)), .val (.int (own_find [] e 0))] [(.int q), (.int d), (.int b), (.int a), (.int (Int32.ofNat 0)), (.int (own_find [] q 0))] := (H.iload at_153 (H.iloadN at_152 (H.iloadN at_151 (H.iloadN at_150 (H.iload at_148 (H.iload at_146 r179 rfl) rfl) rfl) rfl) rfl) rfl)
  have r181 : W hc1 4 16 158 #[.val (.int a), .val (.int b), .val (.int d), .val (.int e), .val (.int len), .val (.int sel), .val (.int (Int32.ofNat 0)), .val (.ref va), .val (.ref t), .val (.int (sel &&& (3 : Int32))), .val (.int q), .val (.int (own_find [] q 0)), .val (.int (own_find [] e 0))] [(.int (-1 : Int32)), (.int (own_find [] q 0))] := H.callSP (w := 1) (argsL := [(.int (Int32.ofNat 0)), (.int a), (.int b), (.int d), (.int q)]) (rest := [(.int (own_find [] q 0))]) (hw _ (List.mem_of_getElem? (i := 44) rfl)) (hw _ (List.mem_of_getElem? (i := 45) rfl)) (hw _ (List.mem_of_getElem? (i := 46) rfl)) (hw _ (List.mem_of_getElem? (i := 47) rfl)) (by decide) pd_3 (by decide) (by decide) (by decide) (by decide) (exp0_ct hw a b d q hc1 n0) rfl rfl (Nat.le_of_eq rfl) rfl at_155 r180
  have r182 : W hc1 4 16 161 #[.val (.int a), .val (.int b), .val (.int d), .val (.int e), .val (.int len), .val (.int sel), .val (.int (Int32.ofNat 0)), .val (.ref va), .val (.ref t), .val (.int (sel &&& (3 : Int32))), .val (.int q), .val (.int (own_find [] q 0)), .val (.int (own_find [] e 0))] [] := (H.icmpNo at_158 r181 (teq (own_find0 a b d q)).2)
  have r183 : W hc1 4 16 169 #[.val (.int a), .val (.int b), .val (.int d), .val (.int e), .val (.int len), .val (.int sel), .val (.int (Int32.ofNat 0)), .val (.ref va), .val (.ref t), .val (.int (sel &&& (3 : Int32))), .val (.int q), .val (.int (own_find [] q 0)), .val (.int (own_find [] e 0))] [(.int e), (.int d), (.int b), (.int a), (.int (Int32.ofNat 0)), (.int (own_find [] e 0))] := (H.iloadN at_168 (H.iloadN at_167 (H.iloadN at_166 (H.iloadN at_165 (H.iload at_163 (H.iload at_161 r182 rfl) rfl) rfl) rfl) rfl) rfl)
  have r184 : W hc1 4 16 172 #[.val (.int a), .val (.int b), .val (.int d), .val (.int e), .val (.int len), .val (.int sel), .val (.int (Int32.ofNat 0)), .val (.ref va), .val (.ref t), .val (.int (sel &&& (3 : Int32))), .val (.int q), .val (.int (own_find [] q 0)), .val (.int (own_find [] e 0))] [(.int (-1 : Int32)), (.int (own_find [] e 0))] := H.callSP (w := 1) (argsL := [(.int (Int32.ofNat 0)), (.int a), (.int b), (.int d), (.int e)]) (rest := [(.int (own_find [] e 0))]) (hw _ (List.mem_of_getElem? (i := 44) rfl)) (hw _ (List.mem_of_getElem? (i := 45) rfl)) (hw _ (List.mem_of_getElem? (i := 46) rfl)) (hw _ (List.mem_of_getElem? (i := 47) rfl)) (by decide) pd_3 (by decide) (by decide) (by decide) (by decide) (exp0_ct hw a b d e hc1 n0) rfl rfl (Nat.le_of_eq rfl) rfl at_169 r183
  have r185 : W hc1 4 16 175 #[.val (.int a), .val (.int b), .val (.int d), .val (.int e), .val (.int len), .val (.int sel), .val (.int (Int32.ofNat 0)), .val (.ref va), .val (.ref t), .val (.int (sel &&& (3 : Int32))), .val (.int q), .val (.int (own_find [] q 0)), .val (.int (own_find [] e 0))] [] := (H.icmpNo at_172 r184 (teq (own_find0 a b d e)).2)
  have r186 : W hc1 4 16 180 #[.val (.int a), .val (.int b), .val (.int d), .val (.int e), .val (.int len), .val (.int sel), .val (.int (Int32.ofNat 0)), .val (.ref va), .val (.ref t), .val (.int (sel &&& (3 : Int32))), .val (.int q), .val (.int (own_find [] q 0)), .val (.int (own_find [] e 0))] [(.int (1 : Int32))] := (H.goto (pc' := 180) at_176 (H.iconst (z := (1 : Int32)) at_175 r185 rfl) (by decide) (by decide))
  exact ⟨_, _, H.retZ rfl rfl (by decide) (by decide) at_180 r186, rfl⟩
set_option maxRecDepth 65536 in
set_option maxHeartbeats 40000000 in
theorem road1 {l : Launch} {Z : State} {a0 : Array Value} (hw : ∀ d ∈ tables_1, d.before a0 Z = true) {n0 : Nat} {W : WT} {V : VT} {h0 : Heap} (a b d e len sel : Int32) (Z0 : n0 ≤ h0.size) (H : Wk l Z Jvm.Pilot.@@N@@.x code maxLocals ret room_1 n0 W V) (r0 : W h0 0 0 42 #[.val (.int a), .val (.int b), .val (.int d), .val (.int e), .val (.int len), .val (.int sel), .val (.int (Int32.ofNat 1)), .unset, .unset, .unset, .unset, .unset, .unset] []) : ∃ v h', V v h' ∧ v = some (.int 1) := by
  have r187 : W h0 0 0 44 #[.val (.int a), .val (.int b), .val (.int d), .val (.int e), .val (.int len), .val (.int sel), .val (.int (Int32.ofNat 1)), .unset, .unset, .unset, .unset, .unset, .unset] [(.int (Int32.ofNat 1))] := (H.iload at_42 r0 rfl)
  obtain ⟨h1, va, eva, E1, A1, XA, r1⟩ := H.newAE (i := 1) (cap := 3) (d := (.int 0)) (ad := "[I") rfl rfl (by decide) (hw _ (List.mem_of_getElem? (i := 0) rfl)) (by decide) (by decide) (by decide) (by decide) (by decide) at_44 r187
  have N188 : n0 ≤ va := by rw [eva]; exact Z0
  have Z189 : n0 ≤ h1.size := Nat.le_trans Z0 E1.1
  replace A1 : Ary Z h1 va .int [.int 0] := A1
  replace r1 : W h1 1 3 46 #[.val (.int a), .val (.int b), .val (.int d), .val (.int e), .val (.int len), .val (.int sel), .val (.int (Int32.ofNat 1)), .unset, .unset, .unset, .unset, .unset, .unset] [(.ref va)] := r1
  have r190 : W h1 1 3 48 #[.val (.int a), .val (.int b), .val (.int d), .val (.int e), .val (.int len), .val (.int sel), .val (.int (Int32.ofNat 1)), .val (.ref va), .unset, .unset, .unset, .unset, .unset] [] := (H.astore at_46 r1 rfl rfl)
  have r191 : W h1 1 3 53 #[.val (.int a), .val (.int b), .val (.int d), .val (.int e), .val (.int len), .val (.int sel), .val (.int (Int32.ofNat 1)), .val (.ref va), .unset, .unset, .unset, .unset, .unset] [] := (H.ifNo at_50 (H.iload at_48 r190 rfl) (tlt (by decide)).2.2.2)
  have r192 : W h1 1 3 57 #[.val (.int a), .val (.int b), .val (.int d), .val (.int e), .val (.int len), .val (.int sel), .val (.int (Int32.ofNat 1)), .val (.ref va), .unset, .unset, .unset, .unset, .unset] [(.int a), (.int (0 : Int32)), (.ref va)] := (H.iloadN at_56 (H.iconst (z := (0 : Int32)) at_55 (H.aload at_53 r191 rfl rfl) rfl) rfl)
  obtain ⟨h193, w194, A195, r196⟩ := H.putI (i := 0) A1 (by decide) (by decide : 0 < 1) N188 at_57 r192
  have Z197 : n0 ≤ h193.size := by rw [w194.size]; exact Z189
  replace A195 : Ary Z h193 va .int [.int a] := A195
  replace r196 : W h193 1 3 58 #[.val (.int a), .val (.int b), .val (.int d), .val (.int e), .val (.int len), .val (.int sel), .val (.int (Int32.ofNat 1)), .val (.ref va), .unset, .unset, .unset, .unset, .unset] [] := r196
  have r198 : W h193 1 3 69 #[.val (.int a), .val (.int b), .val (.int d), .val (.int e), .val (.int len), .val (.int sel), .val (.int (Int32.ofNat 1)), .val (.ref va), .unset, .unset, .unset, .unset, .unset] [] := (H.icmpYes (pc' := 69) at_61 (H.iconst (z := (1 : Int32)) at_60 (H.iload at_58 r196 rfl) rfl) (by decide) (by decide) (flt (by decide)).2.2.2)
  have r199 : W h193 1 3 80 #[.val (.int a), .val (.int b), .val (.int d), .val (.int e), .val (.int len), .val (.int sel), .val (.int (Int32.ofNat 1)), .val (.ref va), .unset, .unset, .unset, .unset, .unset] [] := (H.icmpYes (pc' := 80) at_72 (H.iconst (z := (2 : Int32)) at_71 (H.iload at_69 r198 rfl) rfl) (by decide) (by decide) (flt (by decide)).2.2.2)
  have F200 := Exa.wr w194 XA
  obtain ⟨h201, t, ea202, E203, X204, D205, U206, r207⟩ := H.newO (hw _ (List.mem_of_getElem? (i := 1) rfl)) (hw _ (List.mem_of_getElem? (i := 2) rfl)) (hw _ (List.mem_of_getElem? (i := 3) rfl)) (by decide) (by decide) at_80 r199
  have ne208 : va ≠ t := Nat.ne_of_lt (by rw [ea202]; exact A195.lt)
  have N209 : n0 ≤ t := by rw [ea202]; exact Z197
  have Z210 : n0 ≤ h201.size := Nat.le_trans Z197 E203.1
  have G211 : Fld Z h201 t "com/example/noethnitz/noethnitz/queries/Join$Table" "rows" "Ljava/util/Map;" (.null) := D205 (ty := (.object "java/util/Map")) (Or.inr (hw _ (List.mem_of_getElem? (i := 27) rfl))) (by decide +kernel)
  have G212 : Fld Z h201 t "com/example/noethnitz/noethnitz/queries/Join$Table" "variables" "[I" (.null) := D205 (ty := (.array .int)) (Or.inr (hw _ (List.mem_of_getElem? (i := 38) rfl))) (by decide +kernel)
  replace r207 : W h201 2 5 83 #[.val (.int a), .val (.int b), .val (.int d), .val (.int e), .val (.int len), .val (.int sel), .val (.int (Int32.ofNat 1)), .val (.ref va), .unset, .unset, .unset, .unset, .unset] [(.ref t)] := r207
  have F213 := A195.ext E203
  have AX : Ary Z h201 va .int (([a] : List Int32).map Value.int) := F213
  have F214 := Exa.ext E203 F200
  have r215 : W h201 2 5 86 #[.val (.int a), .val (.int b), .val (.int d), .val (.int e), .val (.int len), .val (.int sel), .val (.int (Int32.ofNat 1)), .val (.ref va), .unset, .unset, .unset, .unset, .unset] [(.ref va), (.ref t), (.ref t)] := (H.aload at_84 (H.dup at_83 r207 rfl) rfl rfl)
  obtain ⟨_, hc1, ⟨rfl, K1, X1, cv, G1, C1⟩, r216⟩ := H.callI (w := 1) (argsL := [(.ref va)]) (rest := [(.ref t)]) rfl (hw _ (List.mem_of_getElem? (i := 4) rfl)) (hw _ (List.mem_of_getElem? (i := 5) rfl)) (hw _ (List.mem_of_getElem? (i := 3) rfl)) (hw _ (List.mem_of_getElem? (i := 6) rfl)) (by decide) pd_1 (by decide) (by decide) (by decide) (by decide) (ini_ct (vs := (([a] : List Int32).map Value.int)) hw t va (by simp) (own_fits [a]) h201 n0 Z210 N209 ne208 X204 G211 G212 AX F214) rfl rfl (Nat.le_of_eq rfl) rfl at_86 r215
  have Z217 : n0 ≤ hc1.size := Nat.le_trans Z210 K1.1
  replace r216 : W hc1 4 16 89 #[.val (.int a), .val (.int b), .val (.int d), .val (.int e), .val (.int len), .val (.int sel), .val (.int (Int32.ofNat 1)), .val (.ref va), .unset, .unset, .unset, .unset, .unset] [(.ref t)] := r216
  have r218 : W hc1 4 16 91 #[.val (.int a), .val (.int b), .val (.int d), .val (.int e), .val (.int len), .val (.int sel), .val (.int (Int32.ofNat 1)), .val (.ref va), .val (.ref t), .unset, .unset, .unset, .unset] [] := (H.astore at_89 r216 rfl rfl)
  have r219 : W hc1 4 16 97 #[.val (.int a), .val (.int b), .val (.int d), .val (.int e), .val (.int len), .val (.int sel), .val (.int (Int32.ofNat 1)), .val (.ref va), .val (.ref t), .val (.int (sel &&& (3 : Int32))), .unset, .unset, .unset] [] := (H.istore at_95 (H.iand at_94 (H.iconst (z := (3 : Int32)) at_93 (H.iload at_91 r218 rfl) rfl)) rfl)
  have r220 : W hc1 4 16 99 #[.val (.int a), .val (.int b), .val (.int d), .val (.int e), .val (.int len), .val (.int sel), .val (.int (Int32.ofNat 1)), .val (.ref va), .val (.ref t), .val (.int (sel &&& (3 : Int32))), .unset, .unset, .unset] [(.int (sel &&& (3 : Int32)))] := (H.iload at_97 r219 rfl)
  have r235 : W hc1 4 16 127 #[.val (.int a), .val (.int b), .val (.int d), .val (.int e), .val (.int len), .val (.int sel), .val (.int (Int32.ofNat 1)), .val (.ref va), .val (.ref t), .val (.int (sel &&& (3 : Int32))), .unset, .unset, .unset] [(.int (if (sel &&& (3 : Int32)) = (0 : Int32) then a else (if (sel &&& (3 : Int32)) = (1 : Int32) then b else (if (sel &&& (3 : Int32)) = (2 : Int32) then d else e))))] := by
    by_cases s1 : (sel &&& (3 : Int32)) = (0 : Int32)
    · have r221 : W hc1 4 16 102 #[.val (.int a), .val (.int b), .val (.int d), .val (.int e), .val (.int len), .val (.int sel), .val (.int (Int32.ofNat 1)), .val (.ref va), .val (.ref t), .val (.int (sel &&& (3 : Int32))), .unset, .unset, .unset] [] := (H.ifNo at_99 r220 (teq s1).2)
      have r234 : W hc1 4 16 127 #[.val (.int a), .val (.int b), .val (.int d), .val (.int e), .val (.int len), .val (.int sel), .val (.int (Int32.ofNat 1)), .val (.ref va), .val (.ref t), .val (.int (sel &&& (3 : Int32))), .unset, .unset, .unset] [(.int a)] := (H.goto (pc' := 127) at_103 (H.iloadN at_102 r221 rfl) (by decide) (by decide))
      first | (simp only [if_pos s1]; exact r234) | exact r234 | (simp only [if_pos s1] at r234 ⊢; exact r234)
    · have r222 : W hc1 4 16 106 #[.val (.int a), .val (.int b), .val (.int d), .val (.int e), .val (.int len), .val (.int sel), .val (.int (Int32.ofNat 1)), .val (.ref va), .val (.ref t), .val (.int (sel &&& (3 : Int32))), .unset, .unset, .unset] [] := (H.ifYes (pc' := 106) at_99 r220 (by decide) (by decide) (feq s1).2)
      have r223 : W hc1 4 16 109 #[.val (.int a), .val (.int b), .val (.int d), .val (.int e), .val (.int len), .val (.int sel), .val (.int (Int32.ofNat 1)), .val (.ref va), .val (.ref t), .val (.int (sel &&& (3 : Int32))), .unset, .unset, .unset] [(.int (1 : Int32)), (.int (sel &&& (3 : Int32)))] := (H.iconst (z := (1 : Int32)) at_108 (H.iload at_106 r222 rfl) rfl)
      have r233 : W hc1 4 16 127 #[.val (.int a), .val (.int b), .val (.int d), .val (.int e), .val (.int len), .val (.int sel), .val (.int (Int32.ofNat 1)), .val (.ref va), .val (.ref t), .val (.int (sel &&& (3 : Int32))), .unset, .unset, .unset] [(.int (if (sel &&& (3 : Int32)) = (1 : Int32) then b else (if (sel &&& (3 : Int32)) = (2 : Int32) then d else e)))] := by
        by_cases s2 : (sel &&& (3 : Int32)) = (1 : Int32)
        · have r224 : W hc1 4 16 112 #[.val (.int a), .val (.int b), .val (.int d), .val (.int e), .val (.int len), .val (.int sel), .val (.int (Int32.ofNat 1)), .val (.ref va), .val (.ref t), .val (.int (sel &&& (3 : Int32))), .unset, .unset, .unset] [] := (H.icmpNo at_109 r223 (teq s2).2)
          have r232 : W hc1 4 16 127 #[.val (.int a), .val (.int b), .val (.int d), .val (.int e), .val (.int len), .val (.int sel), .val (.int (Int32.ofNat 1)), .val (.ref va), .val (.ref t), .val (.int (sel &&& (3 : Int32))), .unset, .unset, .unset] [(.int b)] := (H.goto (pc' := 127) at_113 (H.iloadN at_112 r224 rfl) (by decide) (by decide))
          first | (simp only [if_pos s2]; exact r232) | exact r232 | (simp only [if_pos s2] at r232 ⊢; exact r232)
        · have r225 : W hc1 4 16 116 #[.val (.int a), .val (.int b), .val (.int d), .val (.int e), .val (.int len), .val (.int sel), .val (.int (Int32.ofNat 1)), .val (.ref va), .val (.ref t), .val (.int (sel &&& (3 : Int32))), .unset, .unset, .unset] [] := (H.icmpYes (pc' := 116) at_109 r223 (by decide) (by decide) (feq s2).2)
          have r226 : W hc1 4 16 119 #[.val (.int a), .val (.int b), .val (.int d), .val (.int e), .val (.int len), .val (.int sel), .val (.int (Int32.ofNat 1)), .val (.ref va), .val (.ref t), .val (.int (sel &&& (3 : Int32))), .unset, .unset, .unset] [(.int (2 : Int32)), (.int (sel &&& (3 : Int32)))] := (H.iconst (z := (2 : Int32)) at_118 (H.iload at_116 r225 rfl) rfl)
          have r231 : W hc1 4 16 127 #[.val (.int a), .val (.int b), .val (.int d), .val (.int e), .val (.int len), .val (.int sel), .val (.int (Int32.ofNat 1)), .val (.ref va), .val (.ref t), .val (.int (sel &&& (3 : Int32))), .unset, .unset, .unset] [(.int (if (sel &&& (3 : Int32)) = (2 : Int32) then d else e))] := by
            by_cases s3 : (sel &&& (3 : Int32)) = (2 : Int32)
            · have r227 : W hc1 4 16 122 #[.val (.int a), .val (.int b), .val (.int d), .val (.int e), .val (.int len), .val (.int sel), .val (.int (Int32.ofNat 1)), .val (.ref va), .val (.ref t), .val (.int (sel &&& (3 : Int32))), .unset, .unset, .unset] [] := (H.icmpNo at_119 r226 (teq s3).2)
              have r229 : W hc1 4 16 127 #[.val (.int a), .val (.int b), .val (.int d), .val (.int e), .val (.int len), .val (.int sel), .val (.int (Int32.ofNat 1)), .val (.ref va), .val (.ref t), .val (.int (sel &&& (3 : Int32))), .unset, .unset, .unset] [(.int d)] := (H.goto (pc' := 127) at_123 (H.iloadN at_122 r227 rfl) (by decide) (by decide))
              first | (simp only [if_pos s3]; exact r229) | exact r229 | (simp only [if_pos s3] at r229 ⊢; exact r229)
            · have r228 : W hc1 4 16 126 #[.val (.int a), .val (.int b), .val (.int d), .val (.int e), .val (.int len), .val (.int sel), .val (.int (Int32.ofNat 1)), .val (.ref va), .val (.ref t), .val (.int (sel &&& (3 : Int32))), .unset, .unset, .unset] [] := (H.icmpYes (pc' := 126) at_119 r226 (by decide) (by decide) (feq s3).2)
              have r230 : W hc1 4 16 127 #[.val (.int a), .val (.int b), .val (.int d), .val (.int e), .val (.int len), .val (.int sel), .val (.int (Int32.ofNat 1)), .val (.ref va), .val (.ref t), .val (.int (sel &&& (3 : Int32))), .unset, .unset, .unset] [(.int e)] := (H.iloadN at_126 r228 rfl)
              first | (simp only [if_neg s3]; exact r230) | exact r230 | (simp only [if_neg s3] at r230 ⊢; exact r230)
          first | (simp only [if_neg s2]; exact r231) | exact r231 | (simp only [if_neg s2] at r231 ⊢; exact r231)
      first | (simp only [if_neg s1]; exact r233) | exact r233 | (simp only [if_neg s1] at r233 ⊢; exact r233)
  have r236 : W hc1 4 16 129 #[.val (.int a), .val (.int b), .val (.int d), .val (.int e), .val (.int len), .val (.int sel), .val (.int (Int32.ofNat 1)), .val (.ref va), .val (.ref t), .val (.int (sel &&& (3 : Int32))), .val (.int (if (sel &&& (3 : Int32)) = (0 : Int32) then a else (if (sel &&& (3 : Int32)) = (1 : Int32) then b else (if (sel &&& (3 : Int32)) = (2 : Int32) then d else e)))), .unset, .unset] [] := (H.istore at_127 r235 rfl)
  generalize (if (sel &&& (3 : Int32)) = (0 : Int32) then a else (if (sel &&& (3 : Int32)) = (1 : Int32) then b else (if (sel &&& (3 : Int32)) = (2 : Int32) then d else e))) = q at r236
  have r237 : W hc1 4 16 133 #[.val (.int a), .val (.int b), .val (.int d), .val (.int e), .val (.int len), .val (.int sel), .val (.int (Int32.ofNat 1)), .val (.ref va), .val (.ref t), .val (.int (sel &&& (3 : Int32))), .val (.int q), .unset, .unset] [(.int q), (.ref t)] := (H.iload at_131 (H.aload at_129 r236 rfl rfl) rfl)
  have r238 : W hc1 4 16 136 #[.val (.int a), .val (.int b), .val (.int d), .val (.int e), .val (.int len), .val (.int sel), .val (.int (Int32.ofNat 1)), .val (.ref va), .val (.ref t), .val (.int (sel &&& (3 : Int32))), .val (.int q), .unset, .unset] [(.int (own_find [a] q 0))] := H.callVP (w := 0) (argsL := [(.int q)]) (rest := []) (hw _ (List.mem_of_getElem? (i := 39) rfl)) (hw _ (List.mem_of_getElem? (i := 40) rfl)) (Or.inl ⟨_, _, (hw _ (List.mem_of_getElem? (i := 42) rfl)), rfl⟩) (hw _ (List.mem_of_getElem? (i := 42) rfl)) (hw _ (List.mem_of_getElem? (i := 41) rfl)) (hw _ (List.mem_of_getElem? (i := 3) rfl)) (hw _ (List.mem_of_getElem? (i := 43) rfl)) (by decide) pd_2 (by decide) (by decide) (by decide) (by decide) X1 (pos_ct hw t cv [a] (by decide : 1 ≤ 3) q hc1 n0 G1 C1) rfl rfl (Nat.le_of_eq rfl) rfl at_133 r237
  have r239 : W hc1 4 16 138 #[.val (.int a), .val (.int b), .val (.int d), .val (.int e), .val (.int len), .val (.int sel), .val (.int (Int32.ofNat 1)), .val (.ref va), .val (.ref t), .val (.int (sel &&& (3 : Int32))), .val (.int q), .val (.int (own_find [a] q 0)), .unset] [] := (H.istore at_136 r238 rfl)
  have r240 : W hc1 4 16 141 #[.val (.int a), .val (.int b), .val (.int d), .val (.int e), .val (.int len), .val (.int sel), .val (.int (Int32.ofNat 1)), .val (.ref va), .val (.ref t), .val (.int (sel &&& (3 : Int32))), .val (.int q), .val (.int (own_find [a] q 0)), .unset] [(.int e), (.ref t)] := (H.iloadN at_140 (H.aload at_138 r239 rfl rfl) rfl)
  have r241 : W hc1 4 16 144 #[.val (.int a), .val (.int b), .val (.int d), .val (.int e), .val (.int len), .val (.int sel), .val (.int (Int32.ofNat 1)), .val (.ref va), .val (.ref t), .val (.int (sel &&& (3 : Int32))), .val (.int q), .val (.int (own_find [a] q 0)), .unset] [(.int (own_find [a] e 0))] := H.callVP (w := 0) (argsL := [(.int e)]) (rest := []) (hw _ (List.mem_of_getElem? (i := 39) rfl)) (hw _ (List.mem_of_getElem? (i := 40) rfl)) (Or.inl ⟨_, _, (hw _ (List.mem_of_getElem? (i := 42) rfl)), rfl⟩) (hw _ (List.mem_of_getElem? (i := 42) rfl)) (hw _ (List.mem_of_getElem? (i := 41) rfl)) (hw _ (List.mem_of_getElem? (i := 3) rfl)) (hw _ (List.mem_of_getElem? (i := 43) rfl)) (by decide) pd_2 (by decide) (by decide) (by decide) (by decide) X1 (pos_ct hw t cv [a] (by decide : 1 ≤ 3) e hc1 n0 G1 C1) rfl rfl (Nat.le_of_eq rfl) rfl at_141 r240
  have r242 : W hc1 4 16 146 #[.val (.int a), .val (.int b), .val (.int d), .val (.int e), .val (.int len), .val (.int sel), .val (.int (Int32.ofNat 1)), .val (.ref va), .val (.ref t), .val (.int (sel &&& (3 : Int32))), .val (.int q), .val (.int (own_find [a] q 0)), .val (.int (own_find [a] e 0))] [] := (H.istore at_144 r241 rfl)
  have r243 : W hc1 4 16 155 #[.val (.int a), .val (.int b), .val (.int d), .val (.int e), .val (.int len), .val (.int sel), .val (.int (Int32.ofNat 1)), .val (.ref va), .val (.ref t), .val (.int (sel &&& (3 : Int32))), .val (.int q), .val (.int (own_find [a] q 0)), .val (.int (own_find [a] e 0))] [(.int q), (.int d), (.int b), (.int a), (.int (Int32.ofNat 1)), (.int (own_find [a] q 0))] := (H.iload at_153 (H.iloadN at_152 (H.iloadN at_151 (H.iloadN at_150 (H.iload at_148 (H.iload at_146 r242 rfl) rfl) rfl) rfl) rfl) rfl)
  have r244 : W hc1 4 16 158 #[.val (.int a), .val (.int b), .val (.int d), .val (.int e), .val (.int len), .val (.int sel), .val (.int (Int32.ofNat 1)), .val (.ref va), .val (.ref t), .val (.int (sel &&& (3 : Int32))), .val (.int q), .val (.int (own_find [a] q 0)), .val (.int (own_find [a] e 0))] [(.int (if q = a then (0 : Int32) else (-1 : Int32))), (.int (own_find [a] q 0))] := H.callSP (w := 1) (argsL := [(.int (Int32.ofNat 1)), (.int a), (.int b), (.int d), (.int q)]) (rest := [(.int (own_find [a] q 0))]) (hw _ (List.mem_of_getElem? (i := 44) rfl)) (hw _ (List.mem_of_getElem? (i := 45) rfl)) (hw _ (List.mem_of_getElem? (i := 46) rfl)) (hw _ (List.mem_of_getElem? (i := 47) rfl)) (by decide) pd_3 (by decide) (by decide) (by decide) (by decide) (exp1_ct hw a b d q hc1 n0) rfl rfl (Nat.le_of_eq rfl) rfl at_155 r243
  have r245 : W hc1 4 16 161 #[.val (.int a), .val (.int b), .val (.int d), .val (.int e), .val (.int len), .val (.int sel), .val (.int (Int32.ofNat 1)), .val (.ref va), .val (.ref t), .val (.int (sel &&& (3 : Int32))), .val (.int q), .val (.int (own_find [a] q 0)), .val (.int (own_find [a] e 0))] [] := (H.icmpNo at_158 r244 (teq (own_find1 a b d q)).2)
  have r246 : W hc1 4 16 169 #[.val (.int a), .val (.int b), .val (.int d), .val (.int e), .val (.int len), .val (.int sel), .val (.int (Int32.ofNat 1)), .val (.ref va), .val (.ref t), .val (.int (sel &&& (3 : Int32))), .val (.int q), .val (.int (own_find [a] q 0)), .val (.int (own_find [a] e 0))] [(.int e), (.int d), (.int b), (.int a), (.int (Int32.ofNat 1)), (.int (own_find [a] e 0))] := (H.iloadN at_168 (H.iloadN at_167 (H.iloadN at_166 (H.iloadN at_165 (H.iload at_163 (H.iload at_161 r245 rfl) rfl) rfl) rfl) rfl) rfl)
  have r247 : W hc1 4 16 172 #[.val (.int a), .val (.int b), .val (.int d), .val (.int e), .val (.int len), .val (.int sel), .val (.int (Int32.ofNat 1)), .val (.ref va), .val (.ref t), .val (.int (sel &&& (3 : Int32))), .val (.int q), .val (.int (own_find [a] q 0)), .val (.int (own_find [a] e 0))] [(.int (if e = a then (0 : Int32) else (-1 : Int32))), (.int (own_find [a] e 0))] := H.callSP (w := 1) (argsL := [(.int (Int32.ofNat 1)), (.int a), (.int b), (.int d), (.int e)]) (rest := [(.int (own_find [a] e 0))]) (hw _ (List.mem_of_getElem? (i := 44) rfl)) (hw _ (List.mem_of_getElem? (i := 45) rfl)) (hw _ (List.mem_of_getElem? (i := 46) rfl)) (hw _ (List.mem_of_getElem? (i := 47) rfl)) (by decide) pd_3 (by decide) (by decide) (by decide) (by decide) (exp1_ct hw a b d e hc1 n0) rfl rfl (Nat.le_of_eq rfl) rfl at_169 r246
  have r248 : W hc1 4 16 175 #[.val (.int a), .val (.int b), .val (.int d), .val (.int e), .val (.int len), .val (.int sel), .val (.int (Int32.ofNat 1)), .val (.ref va), .val (.ref t), .val (.int (sel &&& (3 : Int32))), .val (.int q), .val (.int (own_find [a] q 0)), .val (.int (own_find [a] e 0))] [] := (H.icmpNo at_172 r247 (teq (own_find1 a b d e)).2)
  have r249 : W hc1 4 16 180 #[.val (.int a), .val (.int b), .val (.int d), .val (.int e), .val (.int len), .val (.int sel), .val (.int (Int32.ofNat 1)), .val (.ref va), .val (.ref t), .val (.int (sel &&& (3 : Int32))), .val (.int q), .val (.int (own_find [a] q 0)), .val (.int (own_find [a] e 0))] [(.int (1 : Int32))] := (H.goto (pc' := 180) at_176 (H.iconst (z := (1 : Int32)) at_175 r248 rfl) (by decide) (by decide))
  exact ⟨_, _, H.retZ rfl rfl (by decide) (by decide) at_180 r249, rfl⟩
set_option maxRecDepth 65536 in
set_option maxHeartbeats 40000000 in
theorem road2 {l : Launch} {Z : State} {a0 : Array Value} (hw : ∀ d ∈ tables_1, d.before a0 Z = true) {n0 : Nat} {W : WT} {V : VT} {h0 : Heap} (a b d e len sel : Int32) (Z0 : n0 ≤ h0.size) (H : Wk l Z Jvm.Pilot.@@N@@.x code maxLocals ret room_1 n0 W V) (r0 : W h0 0 0 42 #[.val (.int a), .val (.int b), .val (.int d), .val (.int e), .val (.int len), .val (.int sel), .val (.int (Int32.ofNat 2)), .unset, .unset, .unset, .unset, .unset, .unset] []) : ∃ v h', V v h' ∧ v = some (.int 1) := by
  have r250 : W h0 0 0 44 #[.val (.int a), .val (.int b), .val (.int d), .val (.int e), .val (.int len), .val (.int sel), .val (.int (Int32.ofNat 2)), .unset, .unset, .unset, .unset, .unset, .unset] [(.int (Int32.ofNat 2))] := (H.iload at_42 r0 rfl)
  obtain ⟨h1, va, eva, E1, A1, XA, r1⟩ := H.newAE (i := 2) (cap := 3) (d := (.int 0)) (ad := "[I") rfl rfl (by decide) (hw _ (List.mem_of_getElem? (i := 0) rfl)) (by decide) (by decide) (by decide) (by decide) (by decide) at_44 r250
  have N251 : n0 ≤ va := by rw [eva]; exact Z0
  have Z252 : n0 ≤ h1.size := Nat.le_trans Z0 E1.1
  replace A1 : Ary Z h1 va .int [.int 0, .int 0] := A1
  replace r1 : W h1 1 3 46 #[.val (.int a), .val (.int b), .val (.int d), .val (.int e), .val (.int len), .val (.int sel), .val (.int (Int32.ofNat 2)), .unset, .unset, .unset, .unset, .unset, .unset] [(.ref va)] := r1
  have r253 : W h1 1 3 48 #[.val (.int a), .val (.int b), .val (.int d), .val (.int e), .val (.int len), .val (.int sel), .val (.int (Int32.ofNat 2)), .val (.ref va), .unset, .unset, .unset, .unset, .unset] [] := (H.astore at_46 r1 rfl rfl)
  have r254 : W h1 1 3 53 #[.val (.int a), .val (.int b), .val (.int d), .val (.int e), .val (.int len), .val (.int sel), .val (.int (Int32.ofNat 2)), .val (.ref va), .unset, .unset, .unset, .unset, .unset] [] := (H.ifNo at_50 (H.iload at_48 r253 rfl) (tlt (by decide)).2.2.2)
  have r255 : W h1 1 3 57 #[.val (.int a), .val (.int b), .val (.int d), .val (.int e), .val (.int len), .val (.int sel), .val (.int (Int32.ofNat 2)), .val (.ref va), .unset, .unset, .unset, .unset, .unset] [(.int a), (.int (0 : Int32)), (.ref va)] := (H.iloadN at_56 (H.iconst (z := (0 : Int32)) at_55 (H.aload at_53 r254 rfl rfl) rfl) rfl)
  obtain ⟨h256, w257, A258, r259⟩ := H.putI (i := 0) A1 (by decide) (by decide : 0 < 2) N251 at_57 r255
  have Z260 : n0 ≤ h256.size := by rw [w257.size]; exact Z252
  replace A258 : Ary Z h256 va .int [.int a, .int 0] := A258
  replace r259 : W h256 1 3 58 #[.val (.int a), .val (.int b), .val (.int d), .val (.int e), .val (.int len), .val (.int sel), .val (.int (Int32.ofNat 2)), .val (.ref va), .unset, .unset, .unset, .unset, .unset] [] := r259
  have r261 : W h256 1 3 64 #[.val (.int a), .val (.int b), .val (.int d), .val (.int e), .val (.int len), .val (.int sel), .val (.int (Int32.ofNat 2)), .val (.ref va), .unset, .unset, .unset, .unset, .unset] [] := (H.icmpNo at_61 (H.iconst (z := (1 : Int32)) at_60 (H.iload at_58 r259 rfl) rfl) (tlt (by decide)).2.2.2)
  have r262 : W h256 1 3 68 #[.val (.int a), .val (.int b), .val (.int d), .val (.int e), .val (.int len), .val (.int sel), .val (.int (Int32.ofNat 2)), .val (.ref va), .unset, .unset, .unset, .unset, .unset] [(.int b), (.int (1 : Int32)), (.ref va)] := (H.iloadN at_67 (H.iconst (z := (1 : Int32)) at_66 (H.aload at_64 r261 rfl rfl) rfl) rfl)
  obtain ⟨h263, w264, A265, r266⟩ := H.putI (i := 1) A258 (by decide) (by decide : 1 < 2) N251 at_68 r262
  have Z267 : n0 ≤ h263.size := by rw [w264.size]; exact Z260
  replace A265 : Ary Z h263 va .int [.int a, .int b] := A265
  replace r266 : W h263 1 3 69 #[.val (.int a), .val (.int b), .val (.int d), .val (.int e), .val (.int len), .val (.int sel), .val (.int (Int32.ofNat 2)), .val (.ref va), .unset, .unset, .unset, .unset, .unset] [] := r266
  have r268 : W h263 1 3 80 #[.val (.int a), .val (.int b), .val (.int d), .val (.int e), .val (.int len), .val (.int sel), .val (.int (Int32.ofNat 2)), .val (.ref va), .unset, .unset, .unset, .unset, .unset] [] := (H.icmpYes (pc' := 80) at_72 (H.iconst (z := (2 : Int32)) at_71 (H.iload at_69 r266 rfl) rfl) (by decide) (by decide) (flt (by decide)).2.2.2)
  have F269 := Exa.wr w257 XA
  have F270 := Exa.wr w264 F269
  obtain ⟨h271, t, ea272, E273, X274, D275, U276, r277⟩ := H.newO (hw _ (List.mem_of_getElem? (i := 1) rfl)) (hw _ (List.mem_of_getElem? (i := 2) rfl)) (hw _ (List.mem_of_getElem? (i := 3) rfl)) (by decide) (by decide) at_80 r268
  have ne278 : va ≠ t := Nat.ne_of_lt (by rw [ea272]; exact A265.lt)
  have N279 : n0 ≤ t := by rw [ea272]; exact Z267
  have Z280 : n0 ≤ h271.size := Nat.le_trans Z267 E273.1
  have G281 : Fld Z h271 t "com/example/noethnitz/noethnitz/queries/Join$Table" "rows" "Ljava/util/Map;" (.null) := D275 (ty := (.object "java/util/Map")) (Or.inr (hw _ (List.mem_of_getElem? (i := 27) rfl))) (by decide +kernel)
  have G282 : Fld Z h271 t "com/example/noethnitz/noethnitz/queries/Join$Table" "variables" "[I" (.null) := D275 (ty := (.array .int)) (Or.inr (hw _ (List.mem_of_getElem? (i := 38) rfl))) (by decide +kernel)
  replace r277 : W h271 2 5 83 #[.val (.int a), .val (.int b), .val (.int d), .val (.int e), .val (.int len), .val (.int sel), .val (.int (Int32.ofNat 2)), .val (.ref va), .unset, .unset, .unset, .unset, .unset] [(.ref t)] := r277
  have F283 := A265.ext E273
  have AX : Ary Z h271 va .int (([a, b] : List Int32).map Value.int) := F283
  have F284 := Exa.ext E273 F270
  have r285 : W h271 2 5 86 #[.val (.int a), .val (.int b), .val (.int d), .val (.int e), .val (.int len), .val (.int sel), .val (.int (Int32.ofNat 2)), .val (.ref va), .unset, .unset, .unset, .unset, .unset] [(.ref va), (.ref t), (.ref t)] := (H.aload at_84 (H.dup at_83 r277 rfl) rfl rfl)
  obtain ⟨_, hc1, ⟨rfl, K1, X1, cv, G1, C1⟩, r286⟩ := H.callI (w := 1) (argsL := [(.ref va)]) (rest := [(.ref t)]) rfl (hw _ (List.mem_of_getElem? (i := 4) rfl)) (hw _ (List.mem_of_getElem? (i := 5) rfl)) (hw _ (List.mem_of_getElem? (i := 3) rfl)) (hw _ (List.mem_of_getElem? (i := 6) rfl)) (by decide) pd_1 (by decide) (by decide) (by decide) (by decide) (ini_ct (vs := (([a, b] : List Int32).map Value.int)) hw t va (by simp) (own_fits [a, b]) h271 n0 Z280 N279 ne278 X274 G281 G282 AX F284) rfl rfl (Nat.le_of_eq rfl) rfl at_86 r285
  have Z287 : n0 ≤ hc1.size := Nat.le_trans Z280 K1.1
  replace r286 : W hc1 4 16 89 #[.val (.int a), .val (.int b), .val (.int d), .val (.int e), .val (.int len), .val (.int sel), .val (.int (Int32.ofNat 2)), .val (.ref va), .unset, .unset, .unset, .unset, .unset] [(.ref t)] := r286
  have r288 : W hc1 4 16 91 #[.val (.int a), .val (.int b), .val (.int d), .val (.int e), .val (.int len), .val (.int sel), .val (.int (Int32.ofNat 2)), .val (.ref va), .val (.ref t), .unset, .unset, .unset, .unset] [] := (H.astore at_89 r286 rfl rfl)
  have r289 : W hc1 4 16 97 #[.val (.int a), .val (.int b), .val (.int d), .val (.int e), .val (.int len), .val (.int sel), .val (.int (Int32.ofNat 2)), .val (.ref va), .val (.ref t), .val (.int (sel &&& (3 : Int32))), .unset, .unset, .unset] [] := (H.istore at_95 (H.iand at_94 (H.iconst (z := (3 : Int32)) at_93 (H.iload at_91 r288 rfl) rfl)) rfl)
  have r290 : W hc1 4 16 99 #[.val (.int a), .val (.int b), .val (.int d), .val (.int e), .val (.int len), .val (.int sel), .val (.int (Int32.ofNat 2)), .val (.ref va), .val (.ref t), .val (.int (sel &&& (3 : Int32))), .unset, .unset, .unset] [(.int (sel &&& (3 : Int32)))] := (H.iload at_97 r289 rfl)
  have r305 : W hc1 4 16 127 #[.val (.int a), .val (.int b), .val (.int d), .val (.int e), .val (.int len), .val (.int sel), .val (.int (Int32.ofNat 2)), .val (.ref va), .val (.ref t), .val (.int (sel &&& (3 : Int32))), .unset, .unset, .unset] [(.int (if (sel &&& (3 : Int32)) = (0 : Int32) then a else (if (sel &&& (3 : Int32)) = (1 : Int32) then b else (if (sel &&& (3 : Int32)) = (2 : Int32) then d else e))))] := by
    by_cases s1 : (sel &&& (3 : Int32)) = (0 : Int32)
    · have r291 : W hc1 4 16 102 #[.val (.int a), .val (.int b), .val (.int d), .val (.int e), .val (.int len), .val (.int sel), .val (.int (Int32.ofNat 2)), .val (.ref va), .val (.ref t), .val (.int (sel &&& (3 : Int32))), .unset, .unset, .unset] [] := (H.ifNo at_99 r290 (teq s1).2)
      have r304 : W hc1 4 16 127 #[.val (.int a), .val (.int b), .val (.int d), .val (.int e), .val (.int len), .val (.int sel), .val (.int (Int32.ofNat 2)), .val (.ref va), .val (.ref t), .val (.int (sel &&& (3 : Int32))), .unset, .unset, .unset] [(.int a)] := (H.goto (pc' := 127) at_103 (H.iloadN at_102 r291 rfl) (by decide) (by decide))
      first | (simp only [if_pos s1]; exact r304) | exact r304 | (simp only [if_pos s1] at r304 ⊢; exact r304)
    · have r292 : W hc1 4 16 106 #[.val (.int a), .val (.int b), .val (.int d), .val (.int e), .val (.int len), .val (.int sel), .val (.int (Int32.ofNat 2)), .val (.ref va), .val (.ref t), .val (.int (sel &&& (3 : Int32))), .unset, .unset, .unset] [] := (H.ifYes (pc' := 106) at_99 r290 (by decide) (by decide) (feq s1).2)
      have r293 : W hc1 4 16 109 #[.val (.int a), .val (.int b), .val (.int d), .val (.int e), .val (.int len), .val (.int sel), .val (.int (Int32.ofNat 2)), .val (.ref va), .val (.ref t), .val (.int (sel &&& (3 : Int32))), .unset, .unset, .unset] [(.int (1 : Int32)), (.int (sel &&& (3 : Int32)))] := (H.iconst (z := (1 : Int32)) at_108 (H.iload at_106 r292 rfl) rfl)
      have r303 : W hc1 4 16 127 #[.val (.int a), .val (.int b), .val (.int d), .val (.int e), .val (.int len), .val (.int sel), .val (.int (Int32.ofNat 2)), .val (.ref va), .val (.ref t), .val (.int (sel &&& (3 : Int32))), .unset, .unset, .unset] [(.int (if (sel &&& (3 : Int32)) = (1 : Int32) then b else (if (sel &&& (3 : Int32)) = (2 : Int32) then d else e)))] := by
        by_cases s2 : (sel &&& (3 : Int32)) = (1 : Int32)
        · have r294 : W hc1 4 16 112 #[.val (.int a), .val (.int b), .val (.int d), .val (.int e), .val (.int len), .val (.int sel), .val (.int (Int32.ofNat 2)), .val (.ref va), .val (.ref t), .val (.int (sel &&& (3 : Int32))), .unset, .unset, .unset] [] := (H.icmpNo at_109 r293 (teq s2).2)
          have r302 : W hc1 4 16 127 #[.val (.int a), .val (.int b), .val (.int d), .val (.int e), .val (.int len), .val (.int sel), .val (.int (Int32.ofNat 2)), .val (.ref va), .val (.ref t), .val (.int (sel &&& (3 : Int32))), .unset, .unset, .unset] [(.int b)] := (H.goto (pc' := 127) at_113 (H.iloadN at_112 r294 rfl) (by decide) (by decide))
          first | (simp only [if_pos s2]; exact r302) | exact r302 | (simp only [if_pos s2] at r302 ⊢; exact r302)
        · have r295 : W hc1 4 16 116 #[.val (.int a), .val (.int b), .val (.int d), .val (.int e), .val (.int len), .val (.int sel), .val (.int (Int32.ofNat 2)), .val (.ref va), .val (.ref t), .val (.int (sel &&& (3 : Int32))), .unset, .unset, .unset] [] := (H.icmpYes (pc' := 116) at_109 r293 (by decide) (by decide) (feq s2).2)
          have r296 : W hc1 4 16 119 #[.val (.int a), .val (.int b), .val (.int d), .val (.int e), .val (.int len), .val (.int sel), .val (.int (Int32.ofNat 2)), .val (.ref va), .val (.ref t), .val (.int (sel &&& (3 : Int32))), .unset, .unset, .unset] [(.int (2 : Int32)), (.int (sel &&& (3 : Int32)))] := (H.iconst (z := (2 : Int32)) at_118 (H.iload at_116 r295 rfl) rfl)
          have r301 : W hc1 4 16 127 #[.val (.int a), .val (.int b), .val (.int d), .val (.int e), .val (.int len), .val (.int sel), .val (.int (Int32.ofNat 2)), .val (.ref va), .val (.ref t), .val (.int (sel &&& (3 : Int32))), .unset, .unset, .unset] [(.int (if (sel &&& (3 : Int32)) = (2 : Int32) then d else e))] := by
            by_cases s3 : (sel &&& (3 : Int32)) = (2 : Int32)
            · have r297 : W hc1 4 16 122 #[.val (.int a), .val (.int b), .val (.int d), .val (.int e), .val (.int len), .val (.int sel), .val (.int (Int32.ofNat 2)), .val (.ref va), .val (.ref t), .val (.int (sel &&& (3 : Int32))), .unset, .unset, .unset] [] := (H.icmpNo at_119 r296 (teq s3).2)
              have r299 : W hc1 4 16 127 #[.val (.int a), .val (.int b), .val (.int d), .val (.int e), .val (.int len), .val (.int sel), .val (.int (Int32.ofNat 2)), .val (.ref va), .val (.ref t), .val (.int (sel &&& (3 : Int32))), .unset, .unset, .unset] [(.int d)] := (H.goto (pc' := 127) at_123 (H.iloadN at_122 r297 rfl) (by decide) (by decide))
              first | (simp only [if_pos s3]; exact r299) | exact r299 | (simp only [if_pos s3] at r299 ⊢; exact r299)
            · have r298 : W hc1 4 16 126 #[.val (.int a), .val (.int b), .val (.int d), .val (.int e), .val (.int len), .val (.int sel), .val (.int (Int32.ofNat 2)), .val (.ref va), .val (.ref t), .val (.int (sel &&& (3 : Int32))), .unset, .unset, .unset] [] := (H.icmpYes (pc' := 126) at_119 r296 (by decide) (by decide) (feq s3).2)
              have r300 : W hc1 4 16 127 #[.val (.int a), .val (.int b), .val (.int d), .val (.int e), .val (.int len), .val (.int sel), .val (.int (Int32.ofNat 2)), .val (.ref va), .val (.ref t), .val (.int (sel &&& (3 : Int32))), .unset, .unset, .unset] [(.int e)] := (H.iloadN at_126 r298 rfl)
              first | (simp only [if_neg s3]; exact r300) | exact r300 | (simp only [if_neg s3] at r300 ⊢; exact r300)
          first | (simp only [if_neg s2]; exact r301) | exact r301 | (simp only [if_neg s2] at r301 ⊢; exact r301)
      first | (simp only [if_neg s1]; exact r303) | exact r303 | (simp only [if_neg s1] at r303 ⊢; exact r303)
  have r306 : W hc1 4 16 129 #[.val (.int a), .val (.int b), .val (.int d), .val (.int e), .val (.int len), .val (.int sel), .val (.int (Int32.ofNat 2)), .val (.ref va), .val (.ref t), .val (.int (sel &&& (3 : Int32))), .val (.int (if (sel &&& (3 : Int32)) = (0 : Int32) then a else (if (sel &&& (3 : Int32)) = (1 : Int32) then b else (if (sel &&& (3 : Int32)) = (2 : Int32) then d else e)))), .unset, .unset] [] := (H.istore at_127 r305 rfl)
  generalize (if (sel &&& (3 : Int32)) = (0 : Int32) then a else (if (sel &&& (3 : Int32)) = (1 : Int32) then b else (if (sel &&& (3 : Int32)) = (2 : Int32) then d else e))) = q at r306
  have r307 : W hc1 4 16 133 #[.val (.int a), .val (.int b), .val (.int d), .val (.int e), .val (.int len), .val (.int sel), .val (.int (Int32.ofNat 2)), .val (.ref va), .val (.ref t), .val (.int (sel &&& (3 : Int32))), .val (.int q), .unset, .unset] [(.int q), (.ref t)] := (H.iload at_131 (H.aload at_129 r306 rfl rfl) rfl)
  have r308 : W hc1 4 16 136 #[.val (.int a), .val (.int b), .val (.int d), .val (.int e), .val (.int len), .val (.int sel), .val (.int (Int32.ofNat 2)), .val (.ref va), .val (.ref t), .val (.int (sel &&& (3 : Int32))), .val (.int q), .unset, .unset] [(.int (own_find [a, b] q 0))] := H.callVP (w := 0) (argsL := [(.int q)]) (rest := []) (hw _ (List.mem_of_getElem? (i := 39) rfl)) (hw _ (List.mem_of_getElem? (i := 40) rfl)) (Or.inl ⟨_, _, (hw _ (List.mem_of_getElem? (i := 42) rfl)), rfl⟩) (hw _ (List.mem_of_getElem? (i := 42) rfl)) (hw _ (List.mem_of_getElem? (i := 41) rfl)) (hw _ (List.mem_of_getElem? (i := 3) rfl)) (hw _ (List.mem_of_getElem? (i := 43) rfl)) (by decide) pd_2 (by decide) (by decide) (by decide) (by decide) X1 (pos_ct hw t cv [a, b] (by decide : 2 ≤ 3) q hc1 n0 G1 C1) rfl rfl (Nat.le_of_eq rfl) rfl at_133 r307
  have r309 : W hc1 4 16 138 #[.val (.int a), .val (.int b), .val (.int d), .val (.int e), .val (.int len), .val (.int sel), .val (.int (Int32.ofNat 2)), .val (.ref va), .val (.ref t), .val (.int (sel &&& (3 : Int32))), .val (.int q), .val (.int (own_find [a, b] q 0)), .unset] [] := (H.istore at_136 r308 rfl)
  have r310 : W hc1 4 16 141 #[.val (.int a), .val (.int b), .val (.int d), .val (.int e), .val (.int len), .val (.int sel), .val (.int (Int32.ofNat 2)), .val (.ref va), .val (.ref t), .val (.int (sel &&& (3 : Int32))), .val (.int q), .val (.int (own_find [a, b] q 0)), .unset] [(.int e), (.ref t)] := (H.iloadN at_140 (H.aload at_138 r309 rfl rfl) rfl)
  have r311 : W hc1 4 16 144 #[.val (.int a), .val (.int b), .val (.int d), .val (.int e), .val (.int len), .val (.int sel), .val (.int (Int32.ofNat 2)), .val (.ref va), .val (.ref t), .val (.int (sel &&& (3 : Int32))), .val (.int q), .val (.int (own_find [a, b] q 0)), .unset] [(.int (own_find [a, b] e 0))] := H.callVP (w := 0) (argsL := [(.int e)]) (rest := []) (hw _ (List.mem_of_getElem? (i := 39) rfl)) (hw _ (List.mem_of_getElem? (i := 40) rfl)) (Or.inl ⟨_, _, (hw _ (List.mem_of_getElem? (i := 42) rfl)), rfl⟩) (hw _ (List.mem_of_getElem? (i := 42) rfl)) (hw _ (List.mem_of_getElem? (i := 41) rfl)) (hw _ (List.mem_of_getElem? (i := 3) rfl)) (hw _ (List.mem_of_getElem? (i := 43) rfl)) (by decide) pd_2 (by decide) (by decide) (by decide) (by decide) X1 (pos_ct hw t cv [a, b] (by decide : 2 ≤ 3) e hc1 n0 G1 C1) rfl rfl (Nat.le_of_eq rfl) rfl at_141 r310
  have r312 : W hc1 4 16 146 #[.val (.int a), .val (.int b), .val (.int d), .val (.int e), .val (.int len), .val (.int sel), .val (.int (Int32.ofNat 2)), .val (.ref va), .val (.ref t), .val (.int (sel &&& (3 : Int32))), .val (.int q), .val (.int (own_find [a, b] q 0)), .val (.int (own_find [a, b] e 0))] [] := (H.istore at_144 r311 rfl)
  have r313 : W hc1 4 16 155 #[.val (.int a), .val (.int b), .val (.int d), .val (.int e), .val (.int len), .val (.int sel), .val (.int (Int32.ofNat 2)), .val (.ref va), .val (.ref t), .val (.int (sel &&& (3 : Int32))), .val (.int q), .val (.int (own_find [a, b] q 0)), .val (.int (own_find [a, b] e 0))] [(.int q), (.int d), (.int b), (.int a), (.int (Int32.ofNat 2)), (.int (own_find [a, b] q 0))] := (H.iload at_153 (H.iloadN at_152 (H.iloadN at_151 (H.iloadN at_150 (H.iload at_148 (H.iload at_146 r312 rfl) rfl) rfl) rfl) rfl) rfl)
  have r314 : W hc1 4 16 158 #[.val (.int a), .val (.int b), .val (.int d), .val (.int e), .val (.int len), .val (.int sel), .val (.int (Int32.ofNat 2)), .val (.ref va), .val (.ref t), .val (.int (sel &&& (3 : Int32))), .val (.int q), .val (.int (own_find [a, b] q 0)), .val (.int (own_find [a, b] e 0))] [(.int (if q = a then (0 : Int32) else (if q = b then (1 : Int32) else (-1 : Int32)))), (.int (own_find [a, b] q 0))] := H.callSP (w := 1) (argsL := [(.int (Int32.ofNat 2)), (.int a), (.int b), (.int d), (.int q)]) (rest := [(.int (own_find [a, b] q 0))]) (hw _ (List.mem_of_getElem? (i := 44) rfl)) (hw _ (List.mem_of_getElem? (i := 45) rfl)) (hw _ (List.mem_of_getElem? (i := 46) rfl)) (hw _ (List.mem_of_getElem? (i := 47) rfl)) (by decide) pd_3 (by decide) (by decide) (by decide) (by decide) (exp2_ct hw a b d q hc1 n0) rfl rfl (Nat.le_of_eq rfl) rfl at_155 r313
  have r315 : W hc1 4 16 161 #[.val (.int a), .val (.int b), .val (.int d), .val (.int e), .val (.int len), .val (.int sel), .val (.int (Int32.ofNat 2)), .val (.ref va), .val (.ref t), .val (.int (sel &&& (3 : Int32))), .val (.int q), .val (.int (own_find [a, b] q 0)), .val (.int (own_find [a, b] e 0))] [] := (H.icmpNo at_158 r314 (teq (own_find2 a b d q)).2)
  have r316 : W hc1 4 16 169 #[.val (.int a), .val (.int b), .val (.int d), .val (.int e), .val (.int len), .val (.int sel), .val (.int (Int32.ofNat 2)), .val (.ref va), .val (.ref t), .val (.int (sel &&& (3 : Int32))), .val (.int q), .val (.int (own_find [a, b] q 0)), .val (.int (own_find [a, b] e 0))] [(.int e), (.int d), (.int b), (.int a), (.int (Int32.ofNat 2)), (.int (own_find [a, b] e 0))] := (H.iloadN at_168 (H.iloadN at_167 (H.iloadN at_166 (H.iloadN at_165 (H.iload at_163 (H.iload at_161 r315 rfl) rfl) rfl) rfl) rfl) rfl)
  have r317 : W hc1 4 16 172 #[.val (.int a), .val (.int b), .val (.int d), .val (.int e), .val (.int len), .val (.int sel), .val (.int (Int32.ofNat 2)), .val (.ref va), .val (.ref t), .val (.int (sel &&& (3 : Int32))), .val (.int q), .val (.int (own_find [a, b] q 0)), .val (.int (own_find [a, b] e 0))] [(.int (if e = a then (0 : Int32) else (if e = b then (1 : Int32) else (-1 : Int32)))), (.int (own_find [a, b] e 0))] := H.callSP (w := 1) (argsL := [(.int (Int32.ofNat 2)), (.int a), (.int b), (.int d), (.int e)]) (rest := [(.int (own_find [a, b] e 0))]) (hw _ (List.mem_of_getElem? (i := 44) rfl)) (hw _ (List.mem_of_getElem? (i := 45) rfl)) (hw _ (List.mem_of_getElem? (i := 46) rfl)) (hw _ (List.mem_of_getElem? (i := 47) rfl)) (by decide) pd_3 (by decide) (by decide) (by decide) (by decide) (exp2_ct hw a b d e hc1 n0) rfl rfl (Nat.le_of_eq rfl) rfl at_169 r316
  have r318 : W hc1 4 16 175 #[.val (.int a), .val (.int b), .val (.int d), .val (.int e), .val (.int len), .val (.int sel), .val (.int (Int32.ofNat 2)), .val (.ref va), .val (.ref t), .val (.int (sel &&& (3 : Int32))), .val (.int q), .val (.int (own_find [a, b] q 0)), .val (.int (own_find [a, b] e 0))] [] := (H.icmpNo at_172 r317 (teq (own_find2 a b d e)).2)
  have r319 : W hc1 4 16 180 #[.val (.int a), .val (.int b), .val (.int d), .val (.int e), .val (.int len), .val (.int sel), .val (.int (Int32.ofNat 2)), .val (.ref va), .val (.ref t), .val (.int (sel &&& (3 : Int32))), .val (.int q), .val (.int (own_find [a, b] q 0)), .val (.int (own_find [a, b] e 0))] [(.int (1 : Int32))] := (H.goto (pc' := 180) at_176 (H.iconst (z := (1 : Int32)) at_175 r318 rfl) (by decide) (by decide))
  exact ⟨_, _, H.retZ rfl rfl (by decide) (by decide) at_180 r319, rfl⟩
set_option maxRecDepth 65536 in
set_option maxHeartbeats 40000000 in
theorem road3 {l : Launch} {Z : State} {a0 : Array Value} (hw : ∀ d ∈ tables_1, d.before a0 Z = true) {n0 : Nat} {W : WT} {V : VT} {h0 : Heap} (a b d e len sel : Int32) (Z0 : n0 ≤ h0.size) (H : Wk l Z Jvm.Pilot.@@N@@.x code maxLocals ret room_1 n0 W V) (r0 : W h0 0 0 42 #[.val (.int a), .val (.int b), .val (.int d), .val (.int e), .val (.int len), .val (.int sel), .val (.int (Int32.ofNat 3)), .unset, .unset, .unset, .unset, .unset, .unset] []) : ∃ v h', V v h' ∧ v = some (.int 1) := by
  have r320 : W h0 0 0 44 #[.val (.int a), .val (.int b), .val (.int d), .val (.int e), .val (.int len), .val (.int sel), .val (.int (Int32.ofNat 3)), .unset, .unset, .unset, .unset, .unset, .unset] [(.int (Int32.ofNat 3))] := (H.iload at_42 r0 rfl)
  obtain ⟨h1, va, eva, E1, A1, XA, r1⟩ := H.newAE (i := 3) (cap := 3) (d := (.int 0)) (ad := "[I") rfl rfl (by decide) (hw _ (List.mem_of_getElem? (i := 0) rfl)) (by decide) (by decide) (by decide) (by decide) (by decide) at_44 r320
  have N321 : n0 ≤ va := by rw [eva]; exact Z0
  have Z322 : n0 ≤ h1.size := Nat.le_trans Z0 E1.1
  replace A1 : Ary Z h1 va .int [.int 0, .int 0, .int 0] := A1
  replace r1 : W h1 1 3 46 #[.val (.int a), .val (.int b), .val (.int d), .val (.int e), .val (.int len), .val (.int sel), .val (.int (Int32.ofNat 3)), .unset, .unset, .unset, .unset, .unset, .unset] [(.ref va)] := r1
  have r323 : W h1 1 3 48 #[.val (.int a), .val (.int b), .val (.int d), .val (.int e), .val (.int len), .val (.int sel), .val (.int (Int32.ofNat 3)), .val (.ref va), .unset, .unset, .unset, .unset, .unset] [] := (H.astore at_46 r1 rfl rfl)
  have r324 : W h1 1 3 53 #[.val (.int a), .val (.int b), .val (.int d), .val (.int e), .val (.int len), .val (.int sel), .val (.int (Int32.ofNat 3)), .val (.ref va), .unset, .unset, .unset, .unset, .unset] [] := (H.ifNo at_50 (H.iload at_48 r323 rfl) (tlt (by decide)).2.2.2)
  have r325 : W h1 1 3 57 #[.val (.int a), .val (.int b), .val (.int d), .val (.int e), .val (.int len), .val (.int sel), .val (.int (Int32.ofNat 3)), .val (.ref va), .unset, .unset, .unset, .unset, .unset] [(.int a), (.int (0 : Int32)), (.ref va)] := (H.iloadN at_56 (H.iconst (z := (0 : Int32)) at_55 (H.aload at_53 r324 rfl rfl) rfl) rfl)
  obtain ⟨h326, w327, A328, r329⟩ := H.putI (i := 0) A1 (by decide) (by decide : 0 < 3) N321 at_57 r325
  have Z330 : n0 ≤ h326.size := by rw [w327.size]; exact Z322
  replace A328 : Ary Z h326 va .int [.int a, .int 0, .int 0] := A328
  replace r329 : W h326 1 3 58 #[.val (.int a), .val (.int b), .val (.int d), .val (.int e), .val (.int len), .val (.int sel), .val (.int (Int32.ofNat 3)), .val (.ref va), .unset, .unset, .unset, .unset, .unset] [] := r329
  have r331 : W h326 1 3 64 #[.val (.int a), .val (.int b), .val (.int d), .val (.int e), .val (.int len), .val (.int sel), .val (.int (Int32.ofNat 3)), .val (.ref va), .unset, .unset, .unset, .unset, .unset] [] := (H.icmpNo at_61 (H.iconst (z := (1 : Int32)) at_60 (H.iload at_58 r329 rfl) rfl) (tlt (by decide)).2.2.2)
  have r332 : W h326 1 3 68 #[.val (.int a), .val (.int b), .val (.int d), .val (.int e), .val (.int len), .val (.int sel), .val (.int (Int32.ofNat 3)), .val (.ref va), .unset, .unset, .unset, .unset, .unset] [(.int b), (.int (1 : Int32)), (.ref va)] := (H.iloadN at_67 (H.iconst (z := (1 : Int32)) at_66 (H.aload at_64 r331 rfl rfl) rfl) rfl)
  obtain ⟨h333, w334, A335, r336⟩ := H.putI (i := 1) A328 (by decide) (by decide : 1 < 3) N321 at_68 r332
  have Z337 : n0 ≤ h333.size := by rw [w334.size]; exact Z330
  replace A335 : Ary Z h333 va .int [.int a, .int b, .int 0] := A335
  replace r336 : W h333 1 3 69 #[.val (.int a), .val (.int b), .val (.int d), .val (.int e), .val (.int len), .val (.int sel), .val (.int (Int32.ofNat 3)), .val (.ref va), .unset, .unset, .unset, .unset, .unset] [] := r336
  have r338 : W h333 1 3 75 #[.val (.int a), .val (.int b), .val (.int d), .val (.int e), .val (.int len), .val (.int sel), .val (.int (Int32.ofNat 3)), .val (.ref va), .unset, .unset, .unset, .unset, .unset] [] := (H.icmpNo at_72 (H.iconst (z := (2 : Int32)) at_71 (H.iload at_69 r336 rfl) rfl) (tlt (by decide)).2.2.2)
  have r339 : W h333 1 3 79 #[.val (.int a), .val (.int b), .val (.int d), .val (.int e), .val (.int len), .val (.int sel), .val (.int (Int32.ofNat 3)), .val (.ref va), .unset, .unset, .unset, .unset, .unset] [(.int d), (.int (2 : Int32)), (.ref va)] := (H.iloadN at_78 (H.iconst (z := (2 : Int32)) at_77 (H.aload at_75 r338 rfl rfl) rfl) rfl)
  obtain ⟨h340, w341, A342, r343⟩ := H.putI (i := 2) A335 (by decide) (by decide : 2 < 3) N321 at_79 r339
  have Z344 : n0 ≤ h340.size := by rw [w341.size]; exact Z337
  replace A342 : Ary Z h340 va .int [.int a, .int b, .int d] := A342
  replace r343 : W h340 1 3 80 #[.val (.int a), .val (.int b), .val (.int d), .val (.int e), .val (.int len), .val (.int sel), .val (.int (Int32.ofNat 3)), .val (.ref va), .unset, .unset, .unset, .unset, .unset] [] := r343
  have F345 := Exa.wr w327 XA
  have F346 := Exa.wr w334 F345
  have F347 := Exa.wr w341 F346
  obtain ⟨h348, t, ea349, E350, X351, D352, U353, r354⟩ := H.newO (hw _ (List.mem_of_getElem? (i := 1) rfl)) (hw _ (List.mem_of_getElem? (i := 2) rfl)) (hw _ (List.mem_of_getElem? (i := 3) rfl)) (by decide) (by decide) at_80 r343
  have ne355 : va ≠ t := Nat.ne_of_lt (by rw [ea349]; exact A342.lt)
  have N356 : n0 ≤ t := by rw [ea349]; exact Z344
  have Z357 : n0 ≤ h348.size := Nat.le_trans Z344 E350.1
  have G358 : Fld Z h348 t "com/example/noethnitz/noethnitz/queries/Join$Table" "rows" "Ljava/util/Map;" (.null) := D352 (ty := (.object "java/util/Map")) (Or.inr (hw _ (List.mem_of_getElem? (i := 27) rfl))) (by decide +kernel)
  have G359 : Fld Z h348 t "com/example/noethnitz/noethnitz/queries/Join$Table" "variables" "[I" (.null) := D352 (ty := (.array .int)) (Or.inr (hw _ (List.mem_of_getElem? (i := 38) rfl))) (by decide +kernel)
  replace r354 : W h348 2 5 83 #[.val (.int a), .val (.int b), .val (.int d), .val (.int e), .val (.int len), .val (.int sel), .val (.int (Int32.ofNat 3)), .val (.ref va), .unset, .unset, .unset, .unset, .unset] [(.ref t)] := r354
  have F360 := A342.ext E350
  have AX : Ary Z h348 va .int (([a, b, d] : List Int32).map Value.int) := F360
  have F361 := Exa.ext E350 F347
  have r362 : W h348 2 5 86 #[.val (.int a), .val (.int b), .val (.int d), .val (.int e), .val (.int len), .val (.int sel), .val (.int (Int32.ofNat 3)), .val (.ref va), .unset, .unset, .unset, .unset, .unset] [(.ref va), (.ref t), (.ref t)] := (H.aload at_84 (H.dup at_83 r354 rfl) rfl rfl)
  obtain ⟨_, hc1, ⟨rfl, K1, X1, cv, G1, C1⟩, r363⟩ := H.callI (w := 1) (argsL := [(.ref va)]) (rest := [(.ref t)]) rfl (hw _ (List.mem_of_getElem? (i := 4) rfl)) (hw _ (List.mem_of_getElem? (i := 5) rfl)) (hw _ (List.mem_of_getElem? (i := 3) rfl)) (hw _ (List.mem_of_getElem? (i := 6) rfl)) (by decide) pd_1 (by decide) (by decide) (by decide) (by decide) (ini_ct (vs := (([a, b, d] : List Int32).map Value.int)) hw t va (by simp) (own_fits [a, b, d]) h348 n0 Z357 N356 ne355 X351 G358 G359 AX F361) rfl rfl (Nat.le_of_eq rfl) rfl at_86 r362
  have Z364 : n0 ≤ hc1.size := Nat.le_trans Z357 K1.1
  replace r363 : W hc1 4 16 89 #[.val (.int a), .val (.int b), .val (.int d), .val (.int e), .val (.int len), .val (.int sel), .val (.int (Int32.ofNat 3)), .val (.ref va), .unset, .unset, .unset, .unset, .unset] [(.ref t)] := r363
  have r365 : W hc1 4 16 91 #[.val (.int a), .val (.int b), .val (.int d), .val (.int e), .val (.int len), .val (.int sel), .val (.int (Int32.ofNat 3)), .val (.ref va), .val (.ref t), .unset, .unset, .unset, .unset] [] := (H.astore at_89 r363 rfl rfl)
  have r366 : W hc1 4 16 97 #[.val (.int a), .val (.int b), .val (.int d), .val (.int e), .val (.int len), .val (.int sel), .val (.int (Int32.ofNat 3)), .val (.ref va), .val (.ref t), .val (.int (sel &&& (3 : Int32))), .unset, .unset, .unset] [] := (H.istore at_95 (H.iand at_94 (H.iconst (z := (3 : Int32)) at_93 (H.iload at_91 r365 rfl) rfl)) rfl)
  have r367 : W hc1 4 16 99 #[.val (.int a), .val (.int b), .val (.int d), .val (.int e), .val (.int len), .val (.int sel), .val (.int (Int32.ofNat 3)), .val (.ref va), .val (.ref t), .val (.int (sel &&& (3 : Int32))), .unset, .unset, .unset] [(.int (sel &&& (3 : Int32)))] := (H.iload at_97 r366 rfl)
  have r382 : W hc1 4 16 127 #[.val (.int a), .val (.int b), .val (.int d), .val (.int e), .val (.int len), .val (.int sel), .val (.int (Int32.ofNat 3)), .val (.ref va), .val (.ref t), .val (.int (sel &&& (3 : Int32))), .unset, .unset, .unset] [(.int (if (sel &&& (3 : Int32)) = (0 : Int32) then a else (if (sel &&& (3 : Int32)) = (1 : Int32) then b else (if (sel &&& (3 : Int32)) = (2 : Int32) then d else e))))] := by
    by_cases s1 : (sel &&& (3 : Int32)) = (0 : Int32)
    · have r368 : W hc1 4 16 102 #[.val (.int a), .val (.int b), .val (.int d), .val (.int e), .val (.int len), .val (.int sel), .val (.int (Int32.ofNat 3)), .val (.ref va), .val (.ref t), .val (.int (sel &&& (3 : Int32))), .unset, .unset, .unset] [] := (H.ifNo at_99 r367 (teq s1).2)
      have r381 : W hc1 4 16 127 #[.val (.int a), .val (.int b), .val (.int d), .val (.int e), .val (.int len), .val (.int sel), .val (.int (Int32.ofNat 3)), .val (.ref va), .val (.ref t), .val (.int (sel &&& (3 : Int32))), .unset, .unset, .unset] [(.int a)] := (H.goto (pc' := 127) at_103 (H.iloadN at_102 r368 rfl) (by decide) (by decide))
      first | (simp only [if_pos s1]; exact r381) | exact r381 | (simp only [if_pos s1] at r381 ⊢; exact r381)
    · have r369 : W hc1 4 16 106 #[.val (.int a), .val (.int b), .val (.int d), .val (.int e), .val (.int len), .val (.int sel), .val (.int (Int32.ofNat 3)), .val (.ref va), .val (.ref t), .val (.int (sel &&& (3 : Int32))), .unset, .unset, .unset] [] := (H.ifYes (pc' := 106) at_99 r367 (by decide) (by decide) (feq s1).2)
      have r370 : W hc1 4 16 109 #[.val (.int a), .val (.int b), .val (.int d), .val (.int e), .val (.int len), .val (.int sel), .val (.int (Int32.ofNat 3)), .val (.ref va), .val (.ref t), .val (.int (sel &&& (3 : Int32))), .unset, .unset, .unset] [(.int (1 : Int32)), (.int (sel &&& (3 : Int32)))] := (H.iconst (z := (1 : Int32)) at_108 (H.iload at_106 r369 rfl) rfl)
      have r380 : W hc1 4 16 127 #[.val (.int a), .val (.int b), .val (.int d), .val (.int e), .val (.int len), .val (.int sel), .val (.int (Int32.ofNat 3)), .val (.ref va), .val (.ref t), .val (.int (sel &&& (3 : Int32))), .unset, .unset, .unset] [(.int (if (sel &&& (3 : Int32)) = (1 : Int32) then b else (if (sel &&& (3 : Int32)) = (2 : Int32) then d else e)))] := by
        by_cases s2 : (sel &&& (3 : Int32)) = (1 : Int32)
        · have r371 : W hc1 4 16 112 #[.val (.int a), .val (.int b), .val (.int d), .val (.int e), .val (.int len), .val (.int sel), .val (.int (Int32.ofNat 3)), .val (.ref va), .val (.ref t), .val (.int (sel &&& (3 : Int32))), .unset, .unset, .unset] [] := (H.icmpNo at_109 r370 (teq s2).2)
          have r379 : W hc1 4 16 127 #[.val (.int a), .val (.int b), .val (.int d), .val (.int e), .val (.int len), .val (.int sel), .val (.int (Int32.ofNat 3)), .val (.ref va), .val (.ref t), .val (.int (sel &&& (3 : Int32))), .unset, .unset, .unset] [(.int b)] := (H.goto (pc' := 127) at_113 (H.iloadN at_112 r371 rfl) (by decide) (by decide))
          first | (simp only [if_pos s2]; exact r379) | exact r379 | (simp only [if_pos s2] at r379 ⊢; exact r379)
        · have r372 : W hc1 4 16 116 #[.val (.int a), .val (.int b), .val (.int d), .val (.int e), .val (.int len), .val (.int sel), .val (.int (Int32.ofNat 3)), .val (.ref va), .val (.ref t), .val (.int (sel &&& (3 : Int32))), .unset, .unset, .unset] [] := (H.icmpYes (pc' := 116) at_109 r370 (by decide) (by decide) (feq s2).2)
          have r373 : W hc1 4 16 119 #[.val (.int a), .val (.int b), .val (.int d), .val (.int e), .val (.int len), .val (.int sel), .val (.int (Int32.ofNat 3)), .val (.ref va), .val (.ref t), .val (.int (sel &&& (3 : Int32))), .unset, .unset, .unset] [(.int (2 : Int32)), (.int (sel &&& (3 : Int32)))] := (H.iconst (z := (2 : Int32)) at_118 (H.iload at_116 r372 rfl) rfl)
          have r378 : W hc1 4 16 127 #[.val (.int a), .val (.int b), .val (.int d), .val (.int e), .val (.int len), .val (.int sel), .val (.int (Int32.ofNat 3)), .val (.ref va), .val (.ref t), .val (.int (sel &&& (3 : Int32))), .unset, .unset, .unset] [(.int (if (sel &&& (3 : Int32)) = (2 : Int32) then d else e))] := by
            by_cases s3 : (sel &&& (3 : Int32)) = (2 : Int32)
            · have r374 : W hc1 4 16 122 #[.val (.int a), .val (.int b), .val (.int d), .val (.int e), .val (.int len), .val (.int sel), .val (.int (Int32.ofNat 3)), .val (.ref va), .val (.ref t), .val (.int (sel &&& (3 : Int32))), .unset, .unset, .unset] [] := (H.icmpNo at_119 r373 (teq s3).2)
              have r376 : W hc1 4 16 127 #[.val (.int a), .val (.int b), .val (.int d), .val (.int e), .val (.int len), .val (.int sel), .val (.int (Int32.ofNat 3)), .val (.ref va), .val (.ref t), .val (.int (sel &&& (3 : Int32))), .unset, .unset, .unset] [(.int d)] := (H.goto (pc' := 127) at_123 (H.iloadN at_122 r374 rfl) (by decide) (by decide))
              first | (simp only [if_pos s3]; exact r376) | exact r376 | (simp only [if_pos s3] at r376 ⊢; exact r376)
            · have r375 : W hc1 4 16 126 #[.val (.int a), .val (.int b), .val (.int d), .val (.int e), .val (.int len), .val (.int sel), .val (.int (Int32.ofNat 3)), .val (.ref va), .val (.ref t), .val (.int (sel &&& (3 : Int32))), .unset, .unset, .unset] [] := (H.icmpYes (pc' := 126) at_119 r373 (by decide) (by decide) (feq s3).2)
              have r377 : W hc1 4 16 127 #[.val (.int a), .val (.int b), .val (.int d), .val (.int e), .val (.int len), .val (.int sel), .val (.int (Int32.ofNat 3)), .val (.ref va), .val (.ref t), .val (.int (sel &&& (3 : Int32))), .unset, .unset, .unset] [(.int e)] := (H.iloadN at_126 r375 rfl)
              first | (simp only [if_neg s3]; exact r377) | exact r377 | (simp only [if_neg s3] at r377 ⊢; exact r377)
          first | (simp only [if_neg s2]; exact r378) | exact r378 | (simp only [if_neg s2] at r378 ⊢; exact r378)
      first | (simp only [if_neg s1]; exact r380) | exact r380 | (simp only [if_neg s1] at r380 ⊢; exact r380)
  have r383 : W hc1 4 16 129 #[.val (.int a), .val (.int b), .val (.int d), .val (.int e), .val (.int len), .val (.int sel), .val (.int (Int32.ofNat 3)), .val (.ref va), .val (.ref t), .val (.int (sel &&& (3 : Int32))), .val (.int (if (sel &&& (3 : Int32)) = (0 : Int32) then a else (if (sel &&& (3 : Int32)) = (1 : Int32) then b else (if (sel &&& (3 : Int32)) = (2 : Int32) then d else e)))), .unset, .unset] [] := (H.istore at_127 r382 rfl)
  generalize (if (sel &&& (3 : Int32)) = (0 : Int32) then a else (if (sel &&& (3 : Int32)) = (1 : Int32) then b else (if (sel &&& (3 : Int32)) = (2 : Int32) then d else e))) = q at r383
  have r384 : W hc1 4 16 133 #[.val (.int a), .val (.int b), .val (.int d), .val (.int e), .val (.int len), .val (.int sel), .val (.int (Int32.ofNat 3)), .val (.ref va), .val (.ref t), .val (.int (sel &&& (3 : Int32))), .val (.int q), .unset, .unset] [(.int q), (.ref t)] := (H.iload at_131 (H.aload at_129 r383 rfl rfl) rfl)
  have r385 : W hc1 4 16 136 #[.val (.int a), .val (.int b), .val (.int d), .val (.int e), .val (.int len), .val (.int sel), .val (.int (Int32.ofNat 3)), .val (.ref va), .val (.ref t), .val (.int (sel &&& (3 : Int32))), .val (.int q), .unset, .unset] [(.int (own_find [a, b, d] q 0))] := H.callVP (w := 0) (argsL := [(.int q)]) (rest := []) (hw _ (List.mem_of_getElem? (i := 39) rfl)) (hw _ (List.mem_of_getElem? (i := 40) rfl)) (Or.inl ⟨_, _, (hw _ (List.mem_of_getElem? (i := 42) rfl)), rfl⟩) (hw _ (List.mem_of_getElem? (i := 42) rfl)) (hw _ (List.mem_of_getElem? (i := 41) rfl)) (hw _ (List.mem_of_getElem? (i := 3) rfl)) (hw _ (List.mem_of_getElem? (i := 43) rfl)) (by decide) pd_2 (by decide) (by decide) (by decide) (by decide) X1 (pos_ct hw t cv [a, b, d] (by decide : 3 ≤ 3) q hc1 n0 G1 C1) rfl rfl (Nat.le_of_eq rfl) rfl at_133 r384
  have r386 : W hc1 4 16 138 #[.val (.int a), .val (.int b), .val (.int d), .val (.int e), .val (.int len), .val (.int sel), .val (.int (Int32.ofNat 3)), .val (.ref va), .val (.ref t), .val (.int (sel &&& (3 : Int32))), .val (.int q), .val (.int (own_find [a, b, d] q 0)), .unset] [] := (H.istore at_136 r385 rfl)
  have r387 : W hc1 4 16 141 #[.val (.int a), .val (.int b), .val (.int d), .val (.int e), .val (.int len), .val (.int sel), .val (.int (Int32.ofNat 3)), .val (.ref va), .val (.ref t), .val (.int (sel &&& (3 : Int32))), .val (.int q), .val (.int (own_find [a, b, d] q 0)), .unset] [(.int e), (.ref t)] := (H.iloadN at_140 (H.aload at_138 r386 rfl rfl) rfl)
  have r388 : W hc1 4 16 144 #[.val (.int a), .val (.int b), .val (.int d), .val (.int e), .val (.int len), .val (.int sel), .val (.int (Int32.ofNat 3)), .val (.ref va), .val (.ref t), .val (.int (sel &&& (3 : Int32))), .val (.int q), .val (.int (own_find [a, b, d] q 0)), .unset] [(.int (own_find [a, b, d] e 0))] := H.callVP (w := 0) (argsL := [(.int e)]) (rest := []) (hw _ (List.mem_of_getElem? (i := 39) rfl)) (hw _ (List.mem_of_getElem? (i := 40) rfl)) (Or.inl ⟨_, _, (hw _ (List.mem_of_getElem? (i := 42) rfl)), rfl⟩) (hw _ (List.mem_of_getElem? (i := 42) rfl)) (hw _ (List.mem_of_getElem? (i := 41) rfl)) (hw _ (List.mem_of_getElem? (i := 3) rfl)) (hw _ (List.mem_of_getElem? (i := 43) rfl)) (by decide) pd_2 (by decide) (by decide) (by decide) (by decide) X1 (pos_ct hw t cv [a, b, d] (by decide : 3 ≤ 3) e hc1 n0 G1 C1) rfl rfl (Nat.le_of_eq rfl) rfl at_141 r387
  have r389 : W hc1 4 16 146 #[.val (.int a), .val (.int b), .val (.int d), .val (.int e), .val (.int len), .val (.int sel), .val (.int (Int32.ofNat 3)), .val (.ref va), .val (.ref t), .val (.int (sel &&& (3 : Int32))), .val (.int q), .val (.int (own_find [a, b, d] q 0)), .val (.int (own_find [a, b, d] e 0))] [] := (H.istore at_144 r388 rfl)
  have r390 : W hc1 4 16 155 #[.val (.int a), .val (.int b), .val (.int d), .val (.int e), .val (.int len), .val (.int sel), .val (.int (Int32.ofNat 3)), .val (.ref va), .val (.ref t), .val (.int (sel &&& (3 : Int32))), .val (.int q), .val (.int (own_find [a, b, d] q 0)), .val (.int (own_find [a, b, d] e 0))] [(.int q), (.int d), (.int b), (.int a), (.int (Int32.ofNat 3)), (.int (own_find [a, b, d] q 0))] := (H.iload at_153 (H.iloadN at_152 (H.iloadN at_151 (H.iloadN at_150 (H.iload at_148 (H.iload at_146 r389 rfl) rfl) rfl) rfl) rfl) rfl)
  have r391 : W hc1 4 16 158 #[.val (.int a), .val (.int b), .val (.int d), .val (.int e), .val (.int len), .val (.int sel), .val (.int (Int32.ofNat 3)), .val (.ref va), .val (.ref t), .val (.int (sel &&& (3 : Int32))), .val (.int q), .val (.int (own_find [a, b, d] q 0)), .val (.int (own_find [a, b, d] e 0))] [(.int (if q = a then (0 : Int32) else (if q = b then (1 : Int32) else (if q = d then (2 : Int32) else (-1 : Int32))))), (.int (own_find [a, b, d] q 0))] := H.callSP (w := 1) (argsL := [(.int (Int32.ofNat 3)), (.int a), (.int b), (.int d), (.int q)]) (rest := [(.int (own_find [a, b, d] q 0))]) (hw _ (List.mem_of_getElem? (i := 44) rfl)) (hw _ (List.mem_of_getElem? (i := 45) rfl)) (hw _ (List.mem_of_getElem? (i := 46) rfl)) (hw _ (List.mem_of_getElem? (i := 47) rfl)) (by decide) pd_3 (by decide) (by decide) (by decide) (by decide) (exp3_ct hw a b d q hc1 n0) rfl rfl (Nat.le_of_eq rfl) rfl at_155 r390
  have r392 : W hc1 4 16 161 #[.val (.int a), .val (.int b), .val (.int d), .val (.int e), .val (.int len), .val (.int sel), .val (.int (Int32.ofNat 3)), .val (.ref va), .val (.ref t), .val (.int (sel &&& (3 : Int32))), .val (.int q), .val (.int (own_find [a, b, d] q 0)), .val (.int (own_find [a, b, d] e 0))] [] := (H.icmpNo at_158 r391 (teq (own_find3 a b d q)).2)
  have r393 : W hc1 4 16 169 #[.val (.int a), .val (.int b), .val (.int d), .val (.int e), .val (.int len), .val (.int sel), .val (.int (Int32.ofNat 3)), .val (.ref va), .val (.ref t), .val (.int (sel &&& (3 : Int32))), .val (.int q), .val (.int (own_find [a, b, d] q 0)), .val (.int (own_find [a, b, d] e 0))] [(.int e), (.int d), (.int b), (.int a), (.int (Int32.ofNat 3)), (.int (own_find [a, b, d] e 0))] := (H.iloadN at_168 (H.iloadN at_167 (H.iloadN at_166 (H.iloadN at_165 (H.iload at_163 (H.iload at_161 r392 rfl) rfl) rfl) rfl) rfl) rfl)
  have r394 : W hc1 4 16 172 #[.val (.int a), .val (.int b), .val (.int d), .val (.int e), .val (.int len), .val (.int sel), .val (.int (Int32.ofNat 3)), .val (.ref va), .val (.ref t), .val (.int (sel &&& (3 : Int32))), .val (.int q), .val (.int (own_find [a, b, d] q 0)), .val (.int (own_find [a, b, d] e 0))] [(.int (if e = a then (0 : Int32) else (if e = b then (1 : Int32) else (if e = d then (2 : Int32) else (-1 : Int32))))), (.int (own_find [a, b, d] e 0))] := H.callSP (w := 1) (argsL := [(.int (Int32.ofNat 3)), (.int a), (.int b), (.int d), (.int e)]) (rest := [(.int (own_find [a, b, d] e 0))]) (hw _ (List.mem_of_getElem? (i := 44) rfl)) (hw _ (List.mem_of_getElem? (i := 45) rfl)) (hw _ (List.mem_of_getElem? (i := 46) rfl)) (hw _ (List.mem_of_getElem? (i := 47) rfl)) (by decide) pd_3 (by decide) (by decide) (by decide) (by decide) (exp3_ct hw a b d e hc1 n0) rfl rfl (Nat.le_of_eq rfl) rfl at_169 r393
  have r395 : W hc1 4 16 175 #[.val (.int a), .val (.int b), .val (.int d), .val (.int e), .val (.int len), .val (.int sel), .val (.int (Int32.ofNat 3)), .val (.ref va), .val (.ref t), .val (.int (sel &&& (3 : Int32))), .val (.int q), .val (.int (own_find [a, b, d] q 0)), .val (.int (own_find [a, b, d] e 0))] [] := (H.icmpNo at_172 r394 (teq (own_find3 a b d e)).2)
  have r396 : W hc1 4 16 180 #[.val (.int a), .val (.int b), .val (.int d), .val (.int e), .val (.int len), .val (.int sel), .val (.int (Int32.ofNat 3)), .val (.ref va), .val (.ref t), .val (.int (sel &&& (3 : Int32))), .val (.int q), .val (.int (own_find [a, b, d] q 0)), .val (.int (own_find [a, b, d] e 0))] [(.int (1 : Int32))] := (H.goto (pc' := 180) at_176 (H.iconst (z := (1 : Int32)) at_175 r395 rfl) (by decide) (by decide))
  exact ⟨_, _, H.retZ rfl rfl (by decide) (by decide) at_180 r396, rfl⟩
set_option maxRecDepth 65536 in
set_option maxHeartbeats 40000000 in
theorem law_ct {l : Launch} {Z : State} {a0 : Array Value} (hw : ∀ d ∈ tables_1, d.before a0 Z = true) (a b d e len sel : Int32) (h0 : Heap) (n0 : Nat) (Z0 : n0 ≤ h0.size) :
    Ct l Z x code maxLocals ret room_1 n0 #[(.int a), (.int b), (.int d), (.int e), (.int len), (.int sel)] h0 (fun v h' => v = some (.int 1)) := by
  refine Ct.of (plainFor_of_name pn_3) (fun m => ef_0 a b d e len sel m) ?_
  intro W V H r0
  have r397 : W h0 0 0 6 #[.val (.int a), .val (.int b), .val (.int d), .val (.int e), .val (.int len), .val (.int sel), .val (.int (len &&& (3 : Int32))), .unset, .unset, .unset, .unset, .unset, .unset] [] := (H.istore at_4 (H.iand at_3 (H.iconst (z := (3 : Int32)) at_2 (H.iload at_0 r0 rfl) rfl)) rfl)
  obtain ⟨n, hn, en⟩ := own_m3 len
  rw [en] at r397
  match n, hn with
  | 0, _ =>
    have r398 : W h0 0 0 29 #[.val (.int a), .val (.int b), .val (.int d), .val (.int e), .val (.int len), .val (.int sel), .val (.int (Int32.ofNat 0)), .unset, .unset, .unset, .unset, .unset, .unset] [] := (H.icmpYes (pc' := 29) at_9 (H.iconst (z := (3 : Int32)) at_8 (H.iload at_6 r397 rfl) rfl) (by decide) (by decide) (feq (by decide)).2)
    have r399 : W h0 0 0 42 #[.val (.int a), .val (.int b), .val (.int d), .val (.int e), .val (.int len), .val (.int sel), .val (.int (Int32.ofNat 0)), .unset, .unset, .unset, .unset, .unset, .unset] [] := (H.icmpYes (pc' := 42) at_32 (H.iconst (z := (2 : Int32)) at_31 (H.iload at_29 r398 rfl) rfl) (by decide) (by decide) (feq (by decide)).2)
    exact road0 hw a b d e len sel Z0 H r399
  | 1, _ =>
    have r400 : W h0 0 0 29 #[.val (.int a), .val (.int b), .val (.int d), .val (.int e), .val (.int len), .val (.int sel), .val (.int (Int32.ofNat 1)), .unset, .unset, .unset, .unset, .unset, .unset] [] := (H.icmpYes (pc' := 29) at_9 (H.iconst (z := (3 : Int32)) at_8 (H.iload at_6 r397 rfl) rfl) (by decide) (by decide) (feq (by decide)).2)
    have r401 : W h0 0 0 42 #[.val (.int a), .val (.int b), .val (.int d), .val (.int e), .val (.int len), .val (.int sel), .val (.int (Int32.ofNat 1)), .unset, .unset, .unset, .unset, .unset, .unset] [] := (H.icmpYes (pc' := 42) at_32 (H.iconst (z := (2 : Int32)) at_31 (H.iload at_29 r400 rfl) rfl) (by decide) (by decide) (feq (by decide)).2)
    exact road1 hw a b d e len sel Z0 H r401
  | 2, _ =>
    have r402 : W h0 0 0 29 #[.val (.int a), .val (.int b), .val (.int d), .val (.int e), .val (.int len), .val (.int sel), .val (.int (Int32.ofNat 2)), .unset, .unset, .unset, .unset, .unset, .unset] [] := (H.icmpYes (pc' := 29) at_9 (H.iconst (z := (3 : Int32)) at_8 (H.iload at_6 r397 rfl) rfl) (by decide) (by decide) (feq (by decide)).2)
    have r403 : W h0 0 0 35 #[.val (.int a), .val (.int b), .val (.int d), .val (.int e), .val (.int len), .val (.int sel), .val (.int (Int32.ofNat 2)), .unset, .unset, .unset, .unset, .unset, .unset] [] := (H.icmpNo at_32 (H.iconst (z := (2 : Int32)) at_31 (H.iload at_29 r402 rfl) rfl) (teq (by decide)).2)
    have r404 : W h0 0 0 37 #[.val (.int a), .val (.int b), .val (.int d), .val (.int e), .val (.int len), .val (.int sel), .val (.int (Int32.ofNat 2)), .unset, .unset, .unset, .unset, .unset, .unset] [(.int b), (.int a)] := (H.iloadN at_36 (H.iloadN at_35 r403 rfl) rfl)
    by_cases g1 : a = b
    · have r405 : W h0 0 0 40 #[.val (.int a), .val (.int b), .val (.int d), .val (.int e), .val (.int len), .val (.int sel), .val (.int (Int32.ofNat 2)), .unset, .unset, .unset, .unset, .unset, .unset] [] := (H.icmpNo at_37 r404 (teq g1).2)
      have r407 : W h0 0 0 41 #[.val (.int a), .val (.int b), .val (.int d), .val (.int e), .val (.int len), .val (.int sel), .val (.int (Int32.ofNat 2)), .unset, .unset, .unset, .unset, .unset, .unset] [(.int (1 : Int32))] := (H.iconst (z := (1 : Int32)) at_40 r405 rfl)
      exact ⟨_, _, H.retZ rfl rfl (by decide) (by decide) at_41 r407, rfl⟩
    · have r406 : W h0 0 0 42 #[.val (.int a), .val (.int b), .val (.int d), .val (.int e), .val (.int len), .val (.int sel), .val (.int (Int32.ofNat 2)), .unset, .unset, .unset, .unset, .unset, .unset] [] := (H.icmpYes (pc' := 42) at_37 r404 (by decide) (by decide) (feq g1).2)
      exact road2 hw a b d e len sel Z0 H r406
  | 3, _ =>
    have r408 : W h0 0 0 12 #[.val (.int a), .val (.int b), .val (.int d), .val (.int e), .val (.int len), .val (.int sel), .val (.int (Int32.ofNat 3)), .unset, .unset, .unset, .unset, .unset, .unset] [] := (H.icmpNo at_9 (H.iconst (z := (3 : Int32)) at_8 (H.iload at_6 r397 rfl) rfl) (teq (by decide)).2)
    have r409 : W h0 0 0 14 #[.val (.int a), .val (.int b), .val (.int d), .val (.int e), .val (.int len), .val (.int sel), .val (.int (Int32.ofNat 3)), .unset, .unset, .unset, .unset, .unset, .unset] [(.int b), (.int a)] := (H.iloadN at_13 (H.iloadN at_12 r408 rfl) rfl)
    by_cases g1 : a = b
    · have r410 : W h0 0 0 27 #[.val (.int a), .val (.int b), .val (.int d), .val (.int e), .val (.int len), .val (.int sel), .val (.int (Int32.ofNat 3)), .unset, .unset, .unset, .unset, .unset, .unset] [] := (H.icmpYes (pc' := 27) at_14 r409 (by decide) (by decide) (teq g1).1)
      have r412 : W h0 0 0 28 #[.val (.int a), .val (.int b), .val (.int d), .val (.int e), .val (.int len), .val (.int sel), .val (.int (Int32.ofNat 3)), .unset, .unset, .unset, .unset, .unset, .unset] [(.int (1 : Int32))] := (H.iconst (z := (1 : Int32)) at_27 r410 rfl)
      exact ⟨_, _, H.retZ rfl rfl (by decide) (by decide) at_28 r412, rfl⟩
    · have r411 : W h0 0 0 17 #[.val (.int a), .val (.int b), .val (.int d), .val (.int e), .val (.int len), .val (.int sel), .val (.int (Int32.ofNat 3)), .unset, .unset, .unset, .unset, .unset, .unset] [] := (H.icmpNo at_14 r409 (feq g1).1)
      have r413 : W h0 0 0 19 #[.val (.int a), .val (.int b), .val (.int d), .val (.int e), .val (.int len), .val (.int sel), .val (.int (Int32.ofNat 3)), .unset, .unset, .unset, .unset, .unset, .unset] [(.int d), (.int a)] := (H.iloadN at_18 (H.iloadN at_17 r411 rfl) rfl)
      by_cases g2 : a = d
      · have r414 : W h0 0 0 27 #[.val (.int a), .val (.int b), .val (.int d), .val (.int e), .val (.int len), .val (.int sel), .val (.int (Int32.ofNat 3)), .unset, .unset, .unset, .unset, .unset, .unset] [] := (H.icmpYes (pc' := 27) at_19 r413 (by decide) (by decide) (teq g2).1)
        have r416 : W h0 0 0 28 #[.val (.int a), .val (.int b), .val (.int d), .val (.int e), .val (.int len), .val (.int sel), .val (.int (Int32.ofNat 3)), .unset, .unset, .unset, .unset, .unset, .unset] [(.int (1 : Int32))] := (H.iconst (z := (1 : Int32)) at_27 r414 rfl)
        exact ⟨_, _, H.retZ rfl rfl (by decide) (by decide) at_28 r416, rfl⟩
      · have r415 : W h0 0 0 22 #[.val (.int a), .val (.int b), .val (.int d), .val (.int e), .val (.int len), .val (.int sel), .val (.int (Int32.ofNat 3)), .unset, .unset, .unset, .unset, .unset, .unset] [] := (H.icmpNo at_19 r413 (feq g2).1)
        have r417 : W h0 0 0 24 #[.val (.int a), .val (.int b), .val (.int d), .val (.int e), .val (.int len), .val (.int sel), .val (.int (Int32.ofNat 3)), .unset, .unset, .unset, .unset, .unset, .unset] [(.int d), (.int b)] := (H.iloadN at_23 (H.iloadN at_22 r415 rfl) rfl)
        by_cases g3 : b = d
        · have r418 : W h0 0 0 27 #[.val (.int a), .val (.int b), .val (.int d), .val (.int e), .val (.int len), .val (.int sel), .val (.int (Int32.ofNat 3)), .unset, .unset, .unset, .unset, .unset, .unset] [] := (H.icmpNo at_24 r417 (teq g3).2)
          have r420 : W h0 0 0 28 #[.val (.int a), .val (.int b), .val (.int d), .val (.int e), .val (.int len), .val (.int sel), .val (.int (Int32.ofNat 3)), .unset, .unset, .unset, .unset, .unset, .unset] [(.int (1 : Int32))] := (H.iconst (z := (1 : Int32)) at_27 r418 rfl)
          exact ⟨_, _, H.retZ rfl rfl (by decide) (by decide) at_28 r420, rfl⟩
        · have r419 : W h0 0 0 42 #[.val (.int a), .val (.int b), .val (.int d), .val (.int e), .val (.int len), .val (.int sel), .val (.int (Int32.ofNat 3)), .unset, .unset, .unset, .unset, .unset, .unset] [] := (H.icmpYes (pc' := 42) at_24 r417 (by decide) (by decide) (feq g3).2)
          exact road3 hw a b d e len sel Z0 H r419
set_option maxRecDepth 65536 in
set_option maxHeartbeats 40000000 in
theorem comes_1 {Post : Tables → Env → Array Value → State → Outcome → State → Prop} (hpost : ∀ tb e args s v u, (limb_1_1.after args s (.returned v) u = true ∧ limb_1_2.after args s (.returned v) u = true ∧ True) → FrameEnd s (.returned v) u (Jvm.fieldLocs frame_1_writes args s ++ Jvm.arrayLocs frame_1_arrays args s ++ Jvm.staticLocs frame_1_statics s) 16 128 → Post tb e args s (.returned v) u) :
    ArmFor flags0 classFile x code maxLocals ret World_1 tables_1 room_1 Calls_1 rest_1 Pre_1 Post := by
  intro l hfl _ _ p e ha hc hk s m args below hf hA hF happ hP
  obtain ⟨hcalls, hrest, hpre⟩ := hP
  obtain ⟨-, -, -, hnamed, -, -, -, hat⟩ := (Spec.applies_iff hf).mp happ
  obtain ⟨hg, hn⟩ := and_e (Cond.before_iff.mp (show (Jvm.Cond.and given_1 narrow_1).before args s = true from hpre))
  obtain ⟨hcnt, hg0⟩ := and_e hg
  obtain ⟨ha0, hg1⟩ := and_e hg0
  obtain ⟨ha1, hg2⟩ := and_e hg1
  obtain ⟨ha2, hg3⟩ := and_e hg2
  obtain ⟨ha3, hg4⟩ := and_e hg3
  obtain ⟨ha4, hg5⟩ := and_e hg4
  obtain ⟨w0, w1, w2, w3, w4, w5, rfl⟩ : ∃ w0 w1 w2 w3 w4 w5 : Value, args = #[w0, w1, w2, w3, w4, w5] := by
    have hs : args.size = 6 := by simpa [Cond.value, given_1] using hcnt
    obtain ⟨L⟩ := args
    match L, hs with
    | [w0, w1, w2, w3, w4, w5], _ => exact ⟨w0, w1, w2, w3, w4, w5, rfl⟩
  have hw := fun d (hd : d ∈ tables_1) => atoms_spec (ws := Jvm.Cond.code x code maxLocals ret :: tables_1) hat d (List.mem_cons_of_mem _ hd)
  have hfit : Fit s := fun {y c} hc i hi => by
    obtain ⟨ha, rfl⟩ := Array.getElem?_eq_some_iff.mp hc
    have q := List.all_eq_true.mp ((Array.all_eq_true_iff_forall_mem.mp hF) _ (Array.getElem_mem ha)) i (List.mem_range.mpr hi)
    simpa [Array.getElem?_eq_getElem hi] using q
  obtain ⟨i0, ei0⟩ := is_v ha0
  obtain rfl : w0 = (.int i0) := Option.some.inj ei0
  obtain ⟨i1, ei1⟩ := is_v ha1
  obtain rfl : w1 = (.int i1) := Option.some.inj ei1
  obtain ⟨i2, ei2⟩ := is_v ha2
  obtain rfl : w2 = (.int i2) := Option.some.inj ei2
  obtain ⟨i3, ei3⟩ := is_v ha3
  obtain rfl : w3 = (.int i3) := Option.some.inj ei3
  obtain ⟨i4, ei4⟩ := is_v ha4
  obtain rfl : w4 = (.int i4) := Option.some.inj ei4
  obtain ⟨i5, ei5⟩ := is_v hg5
  obtain rfl : w5 = (.int i5) := Option.some.inj ei5
  obtain ⟨n, o, h1, h2, h3, _, L, rfl, ⟨rfl, N⟩, hq⟩ := law_ct (l := l) hw i0 i1 i2 i3 i4 i5  s.heap s.heap.size (Nat.le_refl _) tables_1 p e ha hc hk s m _ below hf ((Spec.applies_iff_loose hf).mp happ).1 ⟨rfl, State.Warmed39.refl s, rfl⟩ trivial
  refine ⟨n, _, h1, h2, h3, hpost _ _ _ _ _ _ ⟨Cond.after_iff.mpr rfl, Cond.after_iff.mpr (eq_i res_at (Term.int_eval (1)) rfl), trivial⟩ ⟨hq.1, hq.2.1, (hq.2.2.sift fun y hy => Or.inr (N y hy)).mono (by decide) (by decide)⟩⟩
theorem main_1_1 : Claimed_1_1 := comes_1 fun _ _ _ _ _ _ h hF => ⟨h.1, hF⟩
theorem main_1_2 : Claimed_1_2 := comes_1 fun _ _ _ _ _ _ h hF => ⟨h.2.1, hF⟩
end Jvm.Pilot.@@N@@
namespace Jvm.Pilot.@@N@@
open Jvm Jvm.ClassFile Sem Op Lib Jvm.Free Jvm.Stand Jvm.Pilot.@@N@@.Jvm.D
/-! MADE BY PROGRAM (witnessworld.py) out of the Statement's table words and the real class files: 12 classes; the members and pool entries that the words name. The judged class is class 1, her method 2. -/
namespace start1
open Jvm.ClassFile
def u (s : String) : CpInfo := .utf8 (stringToUtf16 s)
/-- a pool by its gaps: so many unusable entries, then the entry; so many at the end -/
def gap : Nat → List CpInfo → List CpInfo
  | 0, r => r
  | n + 1, r => .unusable :: gap n r
def poolList (es : List (Nat × CpInfo)) (last : Nat) : List CpInfo := es.foldr (fun e r => gap e.1 (e.2 :: r)) (gap last [])
def pool (es : List (Nat × CpInfo)) (last : Nat) : Array CpInfo := ⟨poolList es last⟩
def fileOf (pool : Array CpInfo) (this : Nat) (attrs : Array Attribute := #[]) (ms : Array MethodInfo := #[]) (fl : Nat := 33) (sup : Nat := 0) (ifs : Array Nat := #[]) (fds : Array FieldInfo := #[]) : ClassFile where
  minorVersion := 0
  majorVersion := 65
  constantPool := pool
  accessFlags := fl
  thisClass := this
  superClass := sup
  interfaces := ifs
  fields := fds
  methods := ms
  attributes := attrs
def plain (name : String) (sup : Option ClassId) : Class where
  name := name
  kind := .ordinary
  loader := none
  accessFlags := 33
  super := sup
  interfaces := #[]
  cf := none
  fields := #[]
  methods := #[]
  instanceTypes := #[]
  staticTypes := #[]
  resolved := #[]
  callSites := []
  init := .initialized
  statics := none
  mirror := none

def pool0 : Array CpInfo := pool [(5, u "<init>"), (0, u "()V"), (1, .class_ 10), (1, u "java/lang/Object"), (85, u "clone"), (0, u "()Ljava/lang/Object;")] 26

def k0c0 : Code := { maxStack := 0, maxLocals := 1, code := object_method_1_code, exceptionTable := #[], attributes := #[] }
def k0m0 : Method := { name := "<init>", desc := "()V", sig := { parameters := [], returnType := none }, accessFlags := 1, code := some k0c0 }
def k0m1 : Method := { name := "clone", desc := "()Ljava/lang/Object;", sig := { parameters := [], returnType := some (.object "java/lang/Object") }, accessFlags := 260, code := none }
/-- java/lang/Object -/
def k0 : Class := { plain "java/lang/Object" none with
  accessFlags := 33
  interfaces := #[]
  cf := some (fileOf pool0 8 #[] #[{ accessFlags := 1, nameIndex := 5, descriptorIndex := 6, attributes := #[] }, { accessFlags := 260, nameIndex := 96, descriptorIndex := 97, attributes := #[] }] 33 0 #[] #[])
  fields := #[]
  methods := #[k0m0, k0m1]
  instanceTypes := #[]
  staticTypes := #[]
  resolved := Array.replicate 124 none
  statics := none }

def pool1 : Array CpInfo := pool [(2, .class_ 4), (1, u "java/lang/Object"), (0, u "<init>"), (0, u "()V"), (0, .class_ 8), (0, u "com/example/noethnitz/noethnitz/queries/Join$Table"), (0, .methodref 7 10), (0, .nameAndType 5 11), (0, u "([I)V"), (0, .methodref 7 13), (0, .nameAndType 14 15), (0, u "position"), (0, u "(I)I"), (0, .methodref 17 18), (0, .class_ 19), (0, .nameAndType 20 21), (0, u "com/example/noethnitz/noethnitz/queries/TablePositionPinLaw"), (0, u "expected"), (0, u "(IIIII)I"), (3, u "law"), (0, u "(IIIIII)Z")] 8

def k1m0 : Method := { name := "<init>", desc := "()V", sig := { parameters := [], returnType := none }, accessFlags := 2, code := none }
def k1c1 : Code := { maxStack := 2, maxLocals := 5, code := method_2_code, exceptionTable := #[], attributes := #[] }
def k1m1 : Method := { name := "expected", desc := "(IIIII)I", sig := { parameters := [.int, .int, .int, .int, .int], returnType := some .int }, accessFlags := 10, code := some k1c1 }
def k1c2 : Code := { maxStack := 6, maxLocals := 13, code := code, exceptionTable := #[], attributes := #[] }
def k1m2 : Method := { name := "law", desc := "(IIIIII)Z", sig := { parameters := [.int, .int, .int, .int, .int, .int], returnType := some .boolean }, accessFlags := 9, code := some k1c2 }
/-- com/example/noethnitz/noethnitz/queries/TablePositionPinLaw -/
def k1 : Class := { plain "com/example/noethnitz/noethnitz/queries/TablePositionPinLaw" (some 0) with
  accessFlags := 49
  interfaces := #[]
  cf := some (fileOf pool1 17 #[] #[{ accessFlags := 2, nameIndex := 5, descriptorIndex := 6, attributes := #[] }, { accessFlags := 10, nameIndex := 20, descriptorIndex := 21, attributes := #[] }, { accessFlags := 9, nameIndex := 25, descriptorIndex := 26, attributes := #[] }] 49 2 #[] #[])
  fields := #[]
  methods := #[k1m0, k1m1, k1m2]
  instanceTypes := #[]
  staticTypes := #[]
  resolved := Array.replicate 35 none
  statics := none }

def pool2 : Array CpInfo := pool [(1, .methodref 2 3), (0, .class_ 4), (0, .nameAndType 5 6), (0, u "java/lang/Object"), (0, u "<init>"), (0, u "()V"), (0, .class_ 8), (0, u "java/util/HashMap"), (0, .methodref 7 3), (0, .fieldref 11 12), (0, .class_ 13), (0, .nameAndType 14 15), (0, u "com/example/noethnitz/noethnitz/queries/Join$Table"), (0, u "rows"), (0, u "Ljava/util/Map;"), (0, .methodref 17 18), (0, .class_ 19), (0, .nameAndType 20 21), (0, u "[I"), (0, u "clone"), (0, u "()Ljava/lang/Object;"), (0, .fieldref 11 23), (0, .nameAndType 24 19), (0, u "variables"), (4, u "([I)V"), (54, u "position"), (0, u "(I)I"), (9, .class_ 96), (0, u "com/example/noethnitz/noethnitz/queries/Join")] 35

def k2c0 : Code := { maxStack := 3, maxLocals := 2, code := prog_97_method_1_code, exceptionTable := #[], attributes := #[] }
def k2m0 : Method := { name := "<init>", desc := "([I)V", sig := { parameters := [(.array .int)], returnType := none }, accessFlags := 0, code := some k2c0 }
def k2c1 : Code := { maxStack := 2, maxLocals := 3, code := prog_97_method_5_code, exceptionTable := #[], attributes := #[] }
def k2m1 : Method := { name := "position", desc := "(I)I", sig := { parameters := [.int], returnType := some .int }, accessFlags := 0, code := some k2c1 }
/-- com/example/noethnitz/noethnitz/queries/Join$Table -/
def k2 : Class := { plain "com/example/noethnitz/noethnitz/queries/Join$Table" (some 0) with
  accessFlags := 48
  interfaces := #[]
  cf := some (fileOf pool2 11 #[.nestHost 95] #[{ accessFlags := 0, nameIndex := 5, descriptorIndex := 29, attributes := #[] }, { accessFlags := 0, nameIndex := 84, descriptorIndex := 85, attributes := #[] }] 48 2 #[] #[{ accessFlags := 18, nameIndex := 24, descriptorIndex := 19, attributes := #[] }, { accessFlags := 18, nameIndex := 14, descriptorIndex := 15, attributes := #[] }])
  fields := #[{ name := "variables", type := (.array .int), accessFlags := 18, slot := 0, constantValue := 0 }, { name := "rows", type := (.object "java/util/Map"), accessFlags := 18, slot := 1, constantValue := 0 }]
  methods := #[k2m0, k2m1]
  instanceTypes := #[(.array .int), (.object "java/util/Map")]
  staticTypes := #[]
  resolved := Array.replicate 132 none
  statics := none }

def pool3 : Array CpInfo := pool [(2, .class_ 4), (1, u "java/util/Map"), (31, .class_ 37), (0, u "java/util/Map$Entry"), (55, .class_ 94), (0, u "java/lang/Object")] 168

/-- java/util/Map -/
def k3 : Class := { plain "java/util/Map" (some 0) with
  accessFlags := 1537
  interfaces := #[]
  cf := some (fileOf pool3 2 #[.nestMembers #[36]] #[] 1537 93 #[] #[])
  fields := #[]
  methods := #[]
  instanceTypes := #[]
  staticTypes := #[]
  resolved := Array.replicate 263 none
  statics := none }

def pool4 : Array CpInfo := pool [(1, .methodref 2 3), (0, .class_ 4), (0, .nameAndType 5 6), (0, u "java/lang/Object"), (0, u "<init>"), (0, u "()V"), (1, .class_ 10), (1, u "java/util/AbstractMap"), (42, .class_ 54), (0, u "java/util/Map"), (9, u "keySet"), (0, u "Ljava/util/Set;"), (0, .class_ 67), (0, u "java/util/AbstractMap$1"), (5, u "values"), (0, u "Ljava/util/Collection;"), (0, .class_ 76), (0, u "java/util/AbstractMap$2"), (104, .class_ 182), (0, u "java/util/AbstractMap$ViewCollection"), (0, .class_ 184), (0, u "java/util/AbstractMap$SimpleImmutableEntry"), (0, .class_ 186), (0, u "java/util/AbstractMap$SimpleEntry"), (0, .class_ 188), (0, u "java/util/AbstractMap$2$1"), (0, .class_ 190), (0, u "java/util/AbstractMap$1$1")] 5

def k4c0 : Code := { maxStack := 1, maxLocals := 1, code := jdk_71_method_1_code, exceptionTable := #[], attributes := #[] }
def k4m0 : Method := { name := "<init>", desc := "()V", sig := { parameters := [], returnType := none }, accessFlags := 4, code := some k4c0 }
/-- java/util/AbstractMap -/
def k4 : Class := { plain "java/util/AbstractMap" (some 0) with
  accessFlags := 1057
  interfaces := #[3]
  cf := some (fileOf pool4 8 #[.nestMembers #[181, 183, 185, 75, 187, 66, 189]] #[{ accessFlags := 4, nameIndex := 5, descriptorIndex := 6, attributes := #[] }] 1057 2 #[53] #[{ accessFlags := 128, nameIndex := 64, descriptorIndex := 65, attributes := #[] }, { accessFlags := 128, nameIndex := 73, descriptorIndex := 74, attributes := #[] }])
  fields := #[{ name := "keySet", type := (.object "java/util/Set"), accessFlags := 128, slot := 0, constantValue := 0 }, { name := "values", type := (.object "java/util/Collection"), accessFlags := 128, slot := 1, constantValue := 0 }]
  methods := #[k4m0]
  instanceTypes := #[(.object "java/util/Set"), (.object "java/util/Collection")]
  staticTypes := #[]
  resolved := Array.replicate 196 none
  statics := none }

def pool5 : Array CpInfo := pool [(1, .class_ 2), (0, u "java/lang/Cloneable"), (0, .class_ 4), (0, u "java/lang/Object")] 2

/-- java/lang/Cloneable -/
def k5 : Class := { plain "java/lang/Cloneable" (some 0) with
  accessFlags := 1537
  interfaces := #[]
  cf := some (fileOf pool5 1 #[] #[] 1537 3 #[] #[])
  fields := #[]
  methods := #[]
  instanceTypes := #[]
  staticTypes := #[]
  resolved := Array.replicate 7 none
  statics := none }

def pool6 : Array CpInfo := pool [(1, .class_ 2), (0, u "java/io/Serializable"), (0, .class_ 4), (0, u "java/lang/Object")] 2

/-- java/io/Serializable -/
def k6 : Class := { plain "java/io/Serializable" (some 0) with
  accessFlags := 1537
  interfaces := #[]
  cf := some (fileOf pool6 1 #[] #[] 1537 3 #[] #[])
  fields := #[]
  methods := #[]
  instanceTypes := #[]
  staticTypes := #[]
  resolved := Array.replicate 7 none
  statics := none }

def pool7 : Array CpInfo := pool [(40, .class_ 41), (0, u "java/util/HashMap"), (1, .methodref 44 45), (0, .class_ 46), (0, .nameAndType 47 48), (0, u "java/util/AbstractMap"), (0, u "<init>"), (0, u "()V"), (32, .fieldref 40 82), (0, .nameAndType 83 84), (0, u "loadFactor"), (0, u "F"), (5, u "threshold"), (0, u "I"), (0, .float 1061158912), (8, .class_ 103), (1, u "java/util/Map"), (0, u "size"), (2, u "table"), (0, u "[Ljava/util/HashMap$Node;"), (14, u "entrySet"), (39, .class_ 165), (1, u "java/util/HashMap$Node"), (14, .class_ 181), (0, u "java/util/HashMap$TreeNode"), (22, u "modCount"), (37, u "Ljava/util/Set;"), (0, .class_ 244), (0, u "java/util/HashMap$KeySet"), (18, .class_ 264), (0, u "java/util/HashMap$Values"), (3, .class_ 269), (0, u "java/util/HashMap$EntrySet"), (76, .class_ 348), (1, u "java/util/HashMap$UnsafeHolder"), (43, .class_ 393), (0, u "java/lang/Cloneable"), (0, .class_ 395), (0, u "java/io/Serializable"), (0, u "serialVersionUID"), (0, u "J"), (3, u "DEFAULT_INITIAL_CAPACITY"), (1, u "MAXIMUM_CAPACITY"), (0, u "DEFAULT_LOAD_FACTOR"), (0, u "TREEIFY_THRESHOLD"), (1, u "UNTREEIFY_THRESHOLD"), (1, u "MIN_TREEIFY_CAPACITY"), (186, .class_ 597), (0, u "java/util/HashMap$EntrySpliterator"), (0, .class_ 599), (0, u "java/util/HashMap$ValueSpliterator"), (0, .class_ 601), (0, u "java/util/HashMap$KeySpliterator"), (0, .class_ 603), (0, u "java/util/HashMap$HashMapSpliterator"), (0, .class_ 605), (0, u "java/util/HashMap$EntryIterator"), (0, .class_ 607), (0, u "java/util/HashMap$ValueIterator"), (0, .class_ 609), (0, u "java/util/HashMap$KeyIterator"), (0, .class_ 611), (0, u "java/util/HashMap$HashIterator")] 17

def k7c0 : Code := { maxStack := 2, maxLocals := 1, code := jdk_69_method_7_code, exceptionTable := #[], attributes := #[] }
def k7m0 : Method := { name := "<init>", desc := "()V", sig := { parameters := [], returnType := none }, accessFlags := 1, code := some k7c0 }
/-- java/util/HashMap -/
def k7 : Class := { plain "java/util/HashMap" (some 4) with
  accessFlags := 33
  interfaces := #[3, 5, 6]
  cf := some (fileOf pool7 40 #[.nestMembers #[180, 596, 598, 600, 602, 604, 606, 608, 610, 346, 268, 263, 243, 163]] #[{ accessFlags := 1, nameIndex := 47, descriptorIndex := 48, attributes := #[] }] 33 44 #[101, 392, 394] #[{ accessFlags := 26, nameIndex := 396, descriptorIndex := 397, attributes := #[] }, { accessFlags := 24, nameIndex := 401, descriptorIndex := 91, attributes := #[] }, { accessFlags := 24, nameIndex := 403, descriptorIndex := 91, attributes := #[] }, { accessFlags := 24, nameIndex := 404, descriptorIndex := 84, attributes := #[] }, { accessFlags := 24, nameIndex := 405, descriptorIndex := 91, attributes := #[] }, { accessFlags := 24, nameIndex := 407, descriptorIndex := 91, attributes := #[] }, { accessFlags := 24, nameIndex := 409, descriptorIndex := 91, attributes := #[] }, { accessFlags := 128, nameIndex := 107, descriptorIndex := 108, attributes := #[] }, { accessFlags := 128, nameIndex := 123, descriptorIndex := 242, attributes := #[] }, { accessFlags := 128, nameIndex := 104, descriptorIndex := 91, attributes := #[] }, { accessFlags := 128, nameIndex := 204, descriptorIndex := 91, attributes := #[] }, { accessFlags := 0, nameIndex := 90, descriptorIndex := 91, attributes := #[] }, { accessFlags := 16, nameIndex := 83, descriptorIndex := 84, attributes := #[] }])
  fields := #[{ name := "serialVersionUID", type := .long, accessFlags := 26, slot := 0, constantValue := 0 }, { name := "DEFAULT_INITIAL_CAPACITY", type := .int, accessFlags := 24, slot := 1, constantValue := 0 }, { name := "MAXIMUM_CAPACITY", type := .int, accessFlags := 24, slot := 2, constantValue := 0 }, { name := "DEFAULT_LOAD_FACTOR", type := .float, accessFlags := 24, slot := 3, constantValue := 0 }, { name := "TREEIFY_THRESHOLD", type := .int, accessFlags := 24, slot := 4, constantValue := 0 }, { name := "UNTREEIFY_THRESHOLD", type := .int, accessFlags := 24, slot := 5, constantValue := 0 }, { name := "MIN_TREEIFY_CAPACITY", type := .int, accessFlags := 24, slot := 6, constantValue := 0 }, { name := "table", type := (.array (.object "java/util/HashMap$Node")), accessFlags := 128, slot := 2, constantValue := 0 }, { name := "entrySet", type := (.object "java/util/Set"), accessFlags := 128, slot := 3, constantValue := 0 }, { name := "size", type := .int, accessFlags := 128, slot := 4, constantValue := 0 }, { name := "modCount", type := .int, accessFlags := 128, slot := 5, constantValue := 0 }, { name := "threshold", type := .int, accessFlags := 0, slot := 6, constantValue := 0 }, { name := "loadFactor", type := .float, accessFlags := 16, slot := 7, constantValue := 0 }]
  methods := #[k7m0]
  instanceTypes := #[(.object "java/util/Set"), (.object "java/util/Collection"), (.array (.object "java/util/HashMap$Node")), (.object "java/util/Set"), .int, .int, .int, .float]
  staticTypes := #[.long, .int, .int, .float, .int, .int, .int]
  resolved := Array.replicate 629 none
  statics := none }

/-- the primitive byte -/
def k8 : Class := { plain "byte" none with kind := .primitive 'B', accessFlags := 0x411 }
/-- [B -/
def k9 : Class := { plain "[B" (some 0) with kind := .array 8 .byte, interfaces := #[5, 6], accessFlags := 1041 }

/-- the primitive int -/
def k10 : Class := { plain "int" none with kind := .primitive 'I', accessFlags := 0x411 }
/-- [I -/
def k11 : Class := { plain "[I" (some 0) with kind := .array 10 .int, interfaces := #[5, 6], accessFlags := 1041 }

def heap : Heap := #[]
def classes : Array Class := #[k0, k1, k2, k3, k4, k5, k6, k7, k8, k9, k10, k11]
def interned : List (Array UInt16 × Addr) := []
def slotsUsed : Nat := 0
def theMethod : MethodId := ⟨1, 2⟩
def args0 : Array Value := #[.int 5, .int 2, .int 3, .int 4, .int 6, .int 7]
def aboutOver (below : List Frame) : State where
  vm := { classes := classes, interned := interned.toArray }
  heap := heap
  slotsUsed := slotsUsed
  threads := #[{ frames := .invoking theMethod args0 :: below }]
def below0 : List Frame := [.native { method := ⟨0, 0⟩, args := #[] }]
def about1 : State := aboutOver below0
def p0 : Program := .bare "" "" ""
def e0 : Env := launch0.env 0 0 0
theorem w_frames : about1.frames = Frame.invoking theMethod args0 :: below0 := rfl
set_option maxRecDepth 65536 in
theorem w_args : argsFit about1.vm theMethod args0 = true := by decide +kernel
set_option maxRecDepth 65536 in
theorem w_heap : heapFits about1 = true := by decide +kernel
set_option maxRecDepth 65536 in
theorem w_runnable : about1.curStatus? = some .runnable := by decide +kernel
set_option maxRecDepth 65536 in
theorem w_alone : about1.alone = true := by decide +kernel
set_option maxRecDepth 65536 in
theorem w_named : about1.methodNamed? x = some theMethod := by decide +kernel
set_option maxRecDepth 65536 in
theorem w_hears : about1.hears theMethod below0 = true := by decide +kernel
set_option maxRecDepth 65536 in
theorem w_ripe : about1.ripe theMethod args0 below0 = true := by decide +kernel
theorem w_running : about1.status = .running := rfl
set_option maxRecDepth 65536 in
theorem w_room : about1.hasRoom e0.platform room_1 = true :=
  launch0.hasRoom_least _ room_1 (by decide +kernel) (by decide +kernel) (by decide +kernel) (by decide +kernel) (by decide +kernel) (by decide +kernel)
theorem allAtoms_all (ts : List Jvm.Cond) (a : Array Jvm.Value) (st : Jvm.State) : (allAtoms ts).before a st = ts.all (fun c => c.before a st) := by
  induction ts with
  | nil => rfl
  | cons c t ih =>
    show (Jvm.Cond.and c (allAtoms t)).before a st = _
    rw [Jvm.Cond.before_and, ih, List.all_cons]
def words1 : List Jvm.Cond := Jvm.Cond.code x code maxLocals ret :: tables_1
/-- a 'code' word, met by the world's own term for the bytes: nothing is compared byte by byte -/
theorem code_word {y : MethodName} {bytes : ByteArray} {mx : Nat} {rt : Option FieldType} {a : Array Value} {s : State} {m : MethodId} {meth : Method} {c : Code} (h1 : s.methodNamed? y = some m) (h2 : s.vm.method? m = some meth) (h3 : meth.code = some c) (h4 : c.code = bytes)
    (h5 : (c.maxLocals == mx && c.exceptionTable.isEmpty && decide (c.maxStack ≤ mostOperands) && decide (meth.sig.returnType = rt) && !meth.locks && decide (parseMethodDescriptor y.desc = some meth.sig)) = true) : (Jvm.Cond.code y bytes mx rt).before a s = true := by
  simp only [Bool.and_eq_true, beq_iff_eq, Bool.not_eq_true', decide_eq_true_eq] at h5
  obtain ⟨⟨⟨⟨⟨g1, g2⟩, g3⟩, g4⟩, g5⟩, g6⟩ := h5
  simp [Cond.before, Cond.holds, Cond.value, h1, h2, h3, h4, g1, g2, g3, g4, g5, g6]
def isCode : Jvm.Cond → Bool
  | .code _ _ _ _ => true
  | _ => false
theorem all_split {L : List Jvm.Cond} {P : Jvm.Cond → Bool} (h1 : L.all (fun c => isCode c || P c) = true) (h2 : ∀ c ∈ L.filter isCode, P c = true) : L.all P = true := by
  refine List.all_eq_true.mpr fun c hc => ?_
  have h := List.all_eq_true.mp h1 c hc
  rcases Bool.eq_false_or_eq_true (isCode c) with hi | hi
  · exact h2 c (List.mem_filter.mpr ⟨hc, hi⟩)
  · simpa [hi] using h
set_option maxRecDepth 65536 in
theorem w_c0 : (Jvm.Cond.code x code maxLocals ret).before args0 about1 = true := code_word (m := ⟨1, 2⟩) (meth := k1m2) (c := k1c2) (by decide +kernel) rfl rfl rfl (by decide +kernel)
set_option maxRecDepth 65536 in
theorem w_c1 : (Jvm.Cond.code ({ cls := "com/example/noethnitz/noethnitz/queries/Join$Table", name := "<init>", desc := "([I)V" } : Jvm.MethodName) prog_97_method_1_code (2 : Nat) (Option.none : Option Jvm.ClassFile.FieldType)).before args0 about1 = true := code_word (m := ⟨2, 0⟩) (meth := k2m0) (c := k2c0) (by decide +kernel) rfl rfl rfl (by decide +kernel)
set_option maxRecDepth 65536 in
theorem w_c2 : (Jvm.Cond.code ({ cls := "java/lang/Object", name := "<init>", desc := "()V" } : Jvm.MethodName) object_method_1_code (1 : Nat) (Option.none : Option Jvm.ClassFile.FieldType)).before args0 about1 = true := code_word (m := ⟨0, 0⟩) (meth := k0m0) (c := k0c0) (by decide +kernel) rfl rfl rfl (by decide +kernel)
set_option maxRecDepth 65536 in
theorem w_c3 : (Jvm.Cond.code ({ cls := "java/util/HashMap", name := "<init>", desc := "()V" } : Jvm.MethodName) jdk_69_method_7_code (1 : Nat) (Option.none : Option Jvm.ClassFile.FieldType)).before args0 about1 = true := code_word (m := ⟨7, 0⟩) (meth := k7m0) (c := k7c0) (by decide +kernel) rfl rfl rfl (by decide +kernel)
set_option maxRecDepth 65536 in
theorem w_c4 : (Jvm.Cond.code ({ cls := "java/util/AbstractMap", name := "<init>", desc := "()V" } : Jvm.MethodName) jdk_71_method_1_code (1 : Nat) (Option.none : Option Jvm.ClassFile.FieldType)).before args0 about1 = true := code_word (m := ⟨4, 0⟩) (meth := k4m0) (c := k4c0) (by decide +kernel) rfl rfl rfl (by decide +kernel)
set_option maxRecDepth 65536 in
theorem w_c5 : (Jvm.Cond.code ({ cls := "com/example/noethnitz/noethnitz/queries/Join$Table", name := "position", desc := "(I)I" } : Jvm.MethodName) prog_97_method_5_code (3 : Nat) (Option.some Jvm.ClassFile.FieldType.int)).before args0 about1 = true := code_word (m := ⟨2, 1⟩) (meth := k2m1) (c := k2c1) (by decide +kernel) rfl rfl rfl (by decide +kernel)
set_option maxRecDepth 65536 in
theorem w_c6 : (Jvm.Cond.code ({ cls := "com/example/noethnitz/noethnitz/queries/TablePositionPinLaw", name := "expected", desc := "(IIIII)I" } : Jvm.MethodName) method_2_code (5 : Nat) (Option.some Jvm.ClassFile.FieldType.int)).before args0 about1 = true := code_word (m := ⟨1, 1⟩) (meth := k1m1) (c := k1c1) (by decide +kernel) rfl rfl rfl (by decide +kernel)
def codes1 : List Jvm.Cond := [Jvm.Cond.code x code maxLocals ret, Jvm.Cond.code ({ cls := "com/example/noethnitz/noethnitz/queries/Join$Table", name := "<init>", desc := "([I)V" } : Jvm.MethodName) prog_97_method_1_code (2 : Nat) (Option.none : Option Jvm.ClassFile.FieldType), Jvm.Cond.code ({ cls := "java/lang/Object", name := "<init>", desc := "()V" } : Jvm.MethodName) object_method_1_code (1 : Nat) (Option.none : Option Jvm.ClassFile.FieldType), Jvm.Cond.code ({ cls := "java/util/HashMap", name := "<init>", desc := "()V" } : Jvm.MethodName) jdk_69_method_7_code (1 : Nat) (Option.none : Option Jvm.ClassFile.FieldType), Jvm.Cond.code ({ cls := "java/util/AbstractMap", name := "<init>", desc := "()V" } : Jvm.MethodName) jdk_71_method_1_code (1 : Nat) (Option.none : Option Jvm.ClassFile.FieldType), Jvm.Cond.code ({ cls := "com/example/noethnitz/noethnitz/queries/Join$Table", name := "position", desc := "(I)I" } : Jvm.MethodName) prog_97_method_5_code (3 : Nat) (Option.some Jvm.ClassFile.FieldType.int), Jvm.Cond.code ({ cls := "com/example/noethnitz/noethnitz/queries/TablePositionPinLaw", name := "expected", desc := "(IIIII)I" } : Jvm.MethodName) method_2_code (5 : Nat) (Option.some Jvm.ClassFile.FieldType.int)]
set_option maxRecDepth 65536 in
theorem codes_eq : words1.filter isCode = codes1 := rfl
theorem w_codes : ∀ c ∈ words1.filter isCode, c.before args0 about1 = true := by
  rw [codes_eq]
  intro c hc
  simp only [codes1, List.mem_cons, List.not_mem_nil, or_false] at hc
  rcases hc with rfl | rfl | rfl | rfl | rfl | rfl | rfl
  · exact w_c0
  · exact w_c1
  · exact w_c2
  · exact w_c3
  · exact w_c4
  · exact w_c5
  · exact w_c6
set_option maxRecDepth 65536 in
theorem w_t1 : (words1.take 24).all (fun c => isCode c || c.before args0 about1) = true := by decide +kernel
set_option maxRecDepth 65536 in
theorem w_t2 : ((words1.drop 24).take 24).all (fun c => isCode c || c.before args0 about1) = true := by decide +kernel
set_option maxRecDepth 65536 in
theorem w_t3 : ((words1.drop 24).drop 24).all (fun c => isCode c || c.before args0 about1) = true := by decide +kernel
theorem w_tables : (allAtoms (Jvm.Cond.code x code maxLocals ret :: tables_1)).before args0 about1 = true := by
  rw [allAtoms_all]
  show words1.all (fun c => c.before args0 about1) = true
  refine all_split ?_ w_codes
  rw [← List.take_append_drop 24 words1, List.all_append, w_t1, ← List.take_append_drop 24 (words1.drop 24), List.all_append, w_t2, w_t3]
  rfl
set_option maxRecDepth 65536 in
theorem w_case : (Jvm.Cond.and given_1 narrow_1).before args0 about1 = true := by decide +kernel
theorem w_applies : (headSpec (Jvm.Cond.code x code maxLocals ret :: tables_1) room_1).applies x e0.platform about1 = true :=
  (Spec.applies_iff w_frames).mpr ⟨w_running, w_runnable, w_alone, w_named, w_hears, w_ripe, w_room, w_tables⟩
theorem atStart : AtStart classFile x code maxLocals ret World_1 tables_1 room_1 Calls_1 rest_1 Pre_1 launch0 p0 e0 about1 theMethod args0 below0 :=
  ⟨lists_1, trivial, launch0.admits_env _ _ _, launch0.least_env, fairChoices_fair.cas, fairChoices_fair.clock, w_frames, w_args, w_heap, w_applies, trivial, trivial, w_case⟩
end start1
theorem witness_1 : WitnessClaimed_1 := ⟨start1.p0, start1.e0, start1.about1, start1.theMethod, start1.args0, start1.below0, start1.atStart⟩
end Jvm.Pilot.@@N@@
