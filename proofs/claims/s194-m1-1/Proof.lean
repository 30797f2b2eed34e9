import JvmDerived
import JvmDerived.Pilot.@@N@@Statement
import JvmDerived.Pilot.@@N@@Code
set_option linter.unusedVariables false
set_option linter.unusedSimpArgs false
namespace Jvm.OwnW
open Jvm Jvm.ClassFile Sem Op Lib Jvm.Free Jvm.Stand Jvm.LawKit Jvm.RoadKit Bundle
/-- the walk stands at pc, over the heap h; k cells and n slots have come; nothing that stood at the start is written -/
def At0 (p : Program) (l : Launch) (e : Env) (R : Room) (s : State) (m : MethodId) (args : Array Value) (below : List Frame) (meth : Method) (c : Code) (n0 : Nat) (S0 : State) (h : Heap) (k n pc : Nat) (Ls : Array Slot) (st : List Value) : Prop :=
  ∃ (T : State) (locs : List Loc), Stand p l e R s m args below meth c T locs k n ∧ T.heap = h ∧ Fr n0 locs ∧ ∀ t, Steps p.tables e below (T.setTop (mkF m pc Ls st)) t → Steps p.tables e below S0 t
/-- the walk has returned v, over the heap h -/
def End0 (p : Program) (e : Env) (R : Room) (s : State) (below : List Frame) (n0 : Nat) (S0 : State) (v : Option Value) (h : Heap) : Prop :=
  ∃ (s₂ : State) (L : List Loc), Steps p.tables e below S0 s₂ ∧ s₂.status = .running ∧ Ended s₂ below (.returned v) ∧ s₂.heap = h ∧ Fr n0 L ∧ FrameEnd s (.returned v) s₂ L R.cells R.slots
abbrev WT := Heap → Nat → Nat → Nat → Array Slot → List Value → Prop
abbrev VT := Option Value → Heap → Prop
/-- W and V are of one walk of the body of y -/
def Wk (l : Launch) (Z : State) (y : MethodName) (code : ByteArray) (mx : Nat) (ret : Option FieldType) (R : Room) (n0 : Nat) (W : WT) (V : VT) : Prop :=
  ∃ (p : Program) (e : Env) (s : State) (m : MethodId) (args : Array Value) (below : List Frame) (meth : Method) (c : Code) (S0 : State),
    p.tables.exec = Jvm.exec ∧ c.code = code ∧ c.maxLocals = mx ∧ s.vm.findClass y.cls = some m.cls ∧ Z.Warmed39 s.vm ∧ meth.name = y.name ∧ meth.sig.returnType = ret ∧ meth.locks = false ∧
    W = At0 p l e R s m args below meth c n0 S0 ∧ V = End0 p e R s below n0 S0
/-- a contract: called with 'as' over the heap h the method returns v and leaves h' with Q v h' -/
def Ct (l : Launch) (Z : State) (y : MethodName) (bytes : ByteArray) (mx : Nat) (ret : Option FieldType) (rm : Room) (n0 : Nat) (as : Array Value) (h : Heap) (Q : Option Value → Heap → Prop) : Prop :=
  ∀ ws : List Jvm.Cond, MetFree l y (head1 (Jvm.Cond.code y bytes mx ret :: ws) rm) (fun a U => a = as ∧ Z.Warmed39 U.vm ∧ U.heap = h) (fun _ _ _ _ _ => True) (fun _ U o U' => ∃ v L, o = .returned v ∧ (Q v U'.heap ∧ Fr n0 L) ∧ FrameEnd U o U' L rm.cells rm.slots)
theorem Ct.of {l : Launch} {Z : State} {y : MethodName} {bytes : ByteArray} {mx : Nat} {ret : Option FieldType} {rm : Room} {n0 : Nat} {as : Array Value} {h : Heap} {Q : Option Value → Heap → Prop} {Ls : Array Slot} (hpn : plainFor y = true) (hef : ∀ m, entryFrame m as mx = mkF m 0 Ls [])
    (body : ∀ W V, Wk l Z y bytes mx ret rm n0 W V → W h 0 0 0 Ls [] → ∃ v h', V v h' ∧ Q v h') : Ct l Z y bytes mx ret rm n0 as h Q := by
  intro ws
  refine MetFree.of_bodySF hpn hisR ?_
  intro p e s m args below meth c s₁ Bd hml0 hP hK
  obtain ⟨rfl, hZ, hh⟩ := hP
  have X0 : Stand p l e rm s m args below meth c s₁ [] 0 0 := Stand.of_body Bd
  have e0 : s₁.heap = h := by rw [← hh, Bd.state]; rfl
  obtain ⟨v, h', ⟨s₂, L, g1, g2, g3, g4, g5, g6⟩, hQ⟩ := body _ _ ⟨p, e, s, m, args, below, meth, c, s₁.setTop (entryFrame m args mx), Bd.exec, Bd.bytes, hml0, findClass_of_methodNamed Bd.named, hZ, (name_of_methodNamed Bd.named Bd.method).1, Bd.returns, Bd.notSynchronized, rfl, rfl⟩
    ⟨s₁, [], X0, e0, Fr.nil n0, fun t k => castTop (hef m) k⟩
  exact ⟨s₂, _, g1, g2, g3, v, L, rfl, ⟨by rw [g4]; exact hQ, g5⟩, g6⟩
theorem Ct.imp {l : Launch} {Z : State} {y : MethodName} {bytes : ByteArray} {mx : Nat} {ret : Option FieldType} {rm : Room} {n0 : Nat} {as : Array Value} {h : Heap} {Q Q' : Option Value → Heap → Prop} (hM : Ct l Z y bytes mx ret rm n0 as h Q) (hi : ∀ v h', Q v h' → Q' v h') : Ct l Z y bytes mx ret rm n0 as h Q' := by
  intro ws p e ha hc hk s m args below hf happ hP hK
  obtain ⟨n, o, h1, h2, h3, v, L, g1, ⟨g2, g3⟩, g4⟩ := hM ws p e ha hc hk s m args below hf happ hP hK
  exact ⟨n, o, h1, h2, h3, v, L, g1, ⟨hi _ _ g2, g3⟩, g4⟩
/-- the class that declares z is no interface, by a word of the sheet -/
def NF (Z : State) (a0 : Array Value) (z : MethodName) : Prop := (∃ C z2, (Jvm.Cond.selects C z2 z2).before a0 Z = true ∧ z2.cls = z.cls) ∨ (∃ S, (Jvm.Cond.superclass z.cls S).before a0 Z = true) ∨ (Jvm.Cond.noSuperclass z.cls).before a0 Z = true
theorem NF.at {Z s : State} {a0 : Array Value} {z : MethodName} (hZ : Z.Warmed39 s.vm) (f : NF Z a0 z) : NotFace s z := by
  rcases f with ⟨C, z2, w, e⟩ | ⟨S, w⟩ | w
  · intro r0 h0
    obtain ⟨c2, r2, m2, q1, q2, q3, q4, kP, hkP, hkPi⟩ := Cond.selects_spec (mvT (args := #[]) hZ w)
    have a := findClass_of_methodNamed h0
    have b := findClass_of_methodNamed q3
    rw [e] at b
    have d : r0.cls = m2.cls := Option.some.inj (a.symm.trans b)
    exact ⟨kP, by rw [d]; exact hkP, hkPi⟩
  · exact nf_super (args := #[]) (mvT hZ w)
  · exact nf_top (args := #[]) (mvT hZ w)
section Steps
variable {l : Launch} {Z : State} {y : MethodName} {code : ByteArray} {mx : Nat} {ret : Option FieldType} {R : Room} {n0 : Nat} {W : WT} {V : VT} {h : Heap} {k n pc pc' : Nat} {Ls Ls' : Array Slot} {st st' : List Value} {a0 : Array Value}
/-- a plain step, by the library's law for it -/
theorem Wk.step (H : Wk l Z y code mx ret R n0 W V) (r : W h k n pc Ls st)
    (f : ∀ {tb : Tables} [Ours tb] {e : Env} {below : List Frame} {T t : State} {m : MethodId} {c : Code}, At T m c below → tb.exec = Jvm.exec → c.code = code → Steps tb e below (T.setTop (mkF m pc' Ls' st')) t → Steps tb e below (T.setTop (mkF m pc Ls st)) t) : W h k n pc' Ls' st' := by
  obtain ⟨p, e, s, m, args, below, meth, c, S0, hx, hby, hml, hown, hZ, hnm, hret, hlk, rfl, rfl⟩ := H
  obtain ⟨T, locs, X, eh, N, sp⟩ := r
  exact ⟨T, locs, X, eh, N, fun t q => sp t (f X.here hx hby q)⟩
/-- the account of cells and slots may be widened -/
theorem Wk.more (H : Wk l Z y code mx ret R n0 W V) {k' n' : Nat} (hk : k ≤ k') (hn : n ≤ n') (r : W h k n pc Ls st) : W h k' n' pc Ls st := by
  obtain ⟨p, e, s, m, args, below, meth, c, S0, hx, hby, hml, hown, hZ, hnm, hret, hlk, rfl, rfl⟩ := H
  obtain ⟨T, locs, X, eh, N, sp⟩ := r
  exact ⟨T, locs, X.mono hk hn, eh, N, sp⟩
/-- a step that reads the tables or the heap -/
theorem Wk.stepX (H : Wk l Z y code mx ret R n0 W V) (r : W h k n pc Ls st)
    (f : ∀ {p : Program} {e : Env} {s : State} {m : MethodId} {args : Array Value} {below : List Frame} {meth : Method} {c : Code} {T : State} {locs : List Loc}, Stand p l e R s m args below meth c T locs k n → p.tables.exec = Jvm.exec → c.code = code → c.maxLocals = mx → s.vm.findClass y.cls = some m.cls → Z.Warmed39 s.vm → T.heap = h → ∃ T', Stand p l e R s m args below meth c T' locs k n ∧ T'.heap = h ∧ ∀ t, Steps p.tables e below (T'.setTop (mkF m pc' Ls' st')) t → Steps p.tables e below (T.setTop (mkF m pc Ls st)) t) : W h k n pc' Ls' st' := by
  obtain ⟨p, e, s, m, args, below, meth, c, S0, hx, hby, hml, hown, hZ, hnm, hret, hlk, rfl, rfl⟩ := H
  obtain ⟨T, locs, X, eh, N, sp⟩ := r
  obtain ⟨T', X', e', q⟩ := f X hx hby hml hown hZ eh
  exact ⟨T', locs, X', e', N, fun t u => sp t (q t u)⟩
theorem Wk.aloadN (H : Wk l Z y code mx ret R n0 W V) {i : Fin 4} {v : Value} (hd : decode code pc = .ok (.aload_n i, 1)) (r : W h k n pc Ls (st)) (hl : Ls[i.val]? = some (.val v)) (hv : v.isRef = true) : W h k n (pc + 1) Ls (v :: st) :=
  H.step r fun A hx hby q => XS.aloadN A hx rfl (hb hby hd) hl hv q
theorem Wk.aload (H : Wk l Z y code mx ret R n0 W V) {i : Nat} {v : Value} (hd : decode code pc = .ok (.aload i, 2)) (r : W h k n pc Ls (st)) (hl : Ls[i]? = some (.val v)) (hv : v.isRef = true) : W h k n (pc + 2) Ls (v :: st) :=
  H.step r fun A hx hby q => XS.aload A hx rfl (hb hby hd) hl hv q
theorem Wk.iloadN (H : Wk l Z y code mx ret R n0 W V) {i : Fin 4} {v : Int32} (hd : decode code pc = .ok (.iload_n i, 1)) (r : W h k n pc Ls (st)) (hl : Ls[i.val]? = some (.val (.int v))) : W h k n (pc + 1) Ls (.int v :: st) :=
  H.step r fun A hx hby q => XS.iloadN A hx rfl (hb hby hd) hl q
theorem Wk.iload (H : Wk l Z y code mx ret R n0 W V) {i : Nat} {v : Int32} (hd : decode code pc = .ok (.iload i, 2)) (r : W h k n pc Ls (st)) (hl : Ls[i]? = some (.val (.int v))) : W h k n (pc + 2) Ls (.int v :: st) :=
  H.step r fun A hx hby q => XS.iload A hx rfl (hb hby hd) hl q
theorem Wk.lloadN (H : Wk l Z y code mx ret R n0 W V) {i : Fin 4} {v : Int64} (hd : decode code pc = .ok (.lload_n i, 1)) (r : W h k n pc Ls (st)) (hl : Ls[i.val]? = some (.val (.long v))) : W h k n (pc + 1) Ls (.long v :: st) :=
  H.step r fun A hx hby q => XS.lloadN A hx rfl (hb hby hd) hl q
theorem Wk.lload (H : Wk l Z y code mx ret R n0 W V) {i : Nat} {v : Int64} (hd : decode code pc = .ok (.lload i, 2)) (r : W h k n pc Ls (st)) (hl : Ls[i]? = some (.val (.long v))) : W h k n (pc + 2) Ls (.long v :: st) :=
  H.step r fun A hx hby q => XS.lload A hx rfl (hb hby hd) hl q
theorem Wk.floadN (H : Wk l Z y code mx ret R n0 W V) {i : Fin 4} {v : UInt32} (hd : decode code pc = .ok (.fload_n i, 1)) (r : W h k n pc Ls (st)) (hl : Ls[i.val]? = some (.val (.float v))) : W h k n (pc + 1) Ls (.float v :: st) :=
  H.step r fun A hx hby q => XS.floadN A hx rfl (hb hby hd) hl q
theorem Wk.iconst (H : Wk l Z y code mx ret R n0 W V) {i : Int} {z : Int32} (hd : decode code pc = .ok (.iconst i, 1)) (r : W h k n pc Ls st) (hz : Int32.ofInt i = z) : W h k n (pc + 1) Ls (.int z :: st) := by
  subst hz
  exact H.step r fun A hx hby q => XS.iconst A hx rfl (hb hby hd) q
theorem Wk.bipush (H : Wk l Z y code mx ret R n0 W V) {i : Int} {z : Int32} (hd : decode code pc = .ok (.bipush i, 2)) (r : W h k n pc Ls st) (hz : (Int8.ofInt i).toInt32 = z) : W h k n (pc + 2) Ls (.int z :: st) := by
  subst hz
  exact H.step r fun A hx hby q => XS.bipush A hx rfl (hb hby hd) q
theorem Wk.sipush (H : Wk l Z y code mx ret R n0 W V) {i : Int} {z : Int32} (hd : decode code pc = .ok (.sipush i, 3)) (r : W h k n pc Ls st) (hz : (Int16.ofInt i).toInt32 = z) : W h k n (pc + 3) Ls (.int z :: st) := by
  subst hz
  exact H.step r fun A hx hby q => XS.sipush A hx rfl (hb hby hd) q
theorem Wk.lconst (H : Wk l Z y code mx ret R n0 W V) {i : Fin 2} {z : Int64} (hd : decode code pc = .ok (.lconst i, 1)) (r : W h k n pc Ls st) (hz : Int64.ofNat i = z) : W h k n (pc + 1) Ls (.long z :: st) := by
  subst hz
  exact H.step r fun A hx hby q => XS.lconst A hx rfl (hb hby hd) q
theorem Wk.fconst0 (H : Wk l Z y code mx ret R n0 W V) {v : UInt32} (hd : decode code pc = .ok (.fconst 0, 1)) (r : W h k n pc Ls st) (hv : FP.fconst0 = v) : W h k n (pc + 1) Ls (.float v :: st) :=
  H.step r fun A hx hby q => XS.fconst0 A hx rfl (hb hby hd) hv q
theorem Wk.fcmp (H : Wk l Z y code mx ret R n0 W V) {o : CmpOp} {x z : UInt32} {v : Int32} (hd : decode code pc = .ok (.fcmp o, 1)) (r : W h k n pc Ls (.float z :: .float x :: st)) (hv : cmpValue (FP.fcmp x z) o = v) : W h k n (pc + 1) Ls (.int v :: st) :=
  H.step r fun A hx hby q => XS.fcmpS A hx rfl (hb hby hd) rfl hv q
theorem Wk.aconstNull (H : Wk l Z y code mx ret R n0 W V) (hd : decode code pc = .ok (.aconst_null, 1)) (r : W h k n pc Ls (st)) : W h k n (pc + 1) Ls (.null :: st) :=
  H.step r fun A hx hby q => XS.aconstNull A hx rfl (hb hby hd)  q
theorem Wk.iadd (H : Wk l Z y code mx ret R n0 W V) {a b : Int32} (hd : decode code pc = .ok (.iadd, 1)) (r : W h k n pc Ls (.int b :: .int a :: st)) : W h k n (pc + 1) Ls (.int (a + b) :: st) :=
  H.step r fun A hx hby q => XS.iadd A hx rfl (hb hby hd) rfl q
theorem Wk.isub (H : Wk l Z y code mx ret R n0 W V) {a b : Int32} (hd : decode code pc = .ok (.isub, 1)) (r : W h k n pc Ls (.int b :: .int a :: st)) : W h k n (pc + 1) Ls (.int (a - b) :: st) :=
  H.step r fun A hx hby q => XS.isub A hx rfl (hb hby hd) rfl q
theorem Wk.iand (H : Wk l Z y code mx ret R n0 W V) {a b : Int32} (hd : decode code pc = .ok (.iand, 1)) (r : W h k n pc Ls (.int b :: .int a :: st)) : W h k n (pc + 1) Ls (.int (a &&& b) :: st) :=
  H.step r fun A hx hby q => XS.iand A hx rfl (hb hby hd) rfl q
theorem Wk.imul (H : Wk l Z y code mx ret R n0 W V) {a b : Int32} (hd : decode code pc = .ok (.imul, 1)) (r : W h k n pc Ls (.int b :: .int a :: st)) : W h k n (pc + 1) Ls (.int (a * b) :: st) :=
  H.step r fun A hx hby q => XS.imul A hx rfl (hb hby hd) rfl q
theorem Wk.ior (H : Wk l Z y code mx ret R n0 W V) {a b : Int32} (hd : decode code pc = .ok (.ior, 1)) (r : W h k n pc Ls (.int b :: .int a :: st)) : W h k n (pc + 1) Ls (.int (a ||| b) :: st) :=
  H.step r fun A hx hby q => XS.ior A hx rfl (hb hby hd) rfl q
theorem Wk.ixor (H : Wk l Z y code mx ret R n0 W V) {a b : Int32} (hd : decode code pc = .ok (.ixor, 1)) (r : W h k n pc Ls (.int b :: .int a :: st)) : W h k n (pc + 1) Ls (.int (a ^^^ b) :: st) :=
  H.step r fun A hx hby q => XS.ixor A hx rfl (hb hby hd) rfl q
theorem Wk.ishl (H : Wk l Z y code mx ret R n0 W V) {a b : Int32} (hd : decode code pc = .ok (.ishl, 1)) (r : W h k n pc Ls (.int b :: .int a :: st)) : W h k n (pc + 1) Ls (.int (a <<< (b &&& 31)) :: st) :=
  H.step r fun A hx hby q => XS.ishl A hx rfl (hb hby hd) rfl q
theorem Wk.ishr (H : Wk l Z y code mx ret R n0 W V) {a b : Int32} (hd : decode code pc = .ok (.ishr, 1)) (r : W h k n pc Ls (.int b :: .int a :: st)) : W h k n (pc + 1) Ls (.int (a >>> (b &&& 31)) :: st) :=
  H.step r fun A hx hby q => XS.ishr A hx rfl (hb hby hd) rfl q
theorem Wk.iushr (H : Wk l Z y code mx ret R n0 W V) {a b : Int32} (hd : decode code pc = .ok (.iushr, 1)) (r : W h k n pc Ls (.int b :: .int a :: st)) : W h k n (pc + 1) Ls (.int ((a.toUInt32 >>> (b &&& 31).toUInt32).toInt32) :: st) :=
  H.step r fun A hx hby q => XS.iushr A hx rfl (hb hby hd) rfl q
theorem Wk.ladd (H : Wk l Z y code mx ret R n0 W V) {a b : Int64} (hd : decode code pc = .ok (.ladd, 1)) (r : W h k n pc Ls (.long b :: .long a :: st)) : W h k n (pc + 1) Ls (.long (a + b) :: st) :=
  H.step r fun A hx hby q => XS.ladd A hx rfl (hb hby hd) rfl q
theorem Wk.lsub (H : Wk l Z y code mx ret R n0 W V) {a b : Int64} (hd : decode code pc = .ok (.lsub, 1)) (r : W h k n pc Ls (.long b :: .long a :: st)) : W h k n (pc + 1) Ls (.long (a - b) :: st) :=
  H.step r fun A hx hby q => XS.lsub A hx rfl (hb hby hd) rfl q
theorem Wk.lmul (H : Wk l Z y code mx ret R n0 W V) {a b : Int64} (hd : decode code pc = .ok (.lmul, 1)) (r : W h k n pc Ls (.long b :: .long a :: st)) : W h k n (pc + 1) Ls (.long (a * b) :: st) :=
  H.step r fun A hx hby q => XS.lmul A hx rfl (hb hby hd) rfl q
theorem Wk.land (H : Wk l Z y code mx ret R n0 W V) {a b : Int64} (hd : decode code pc = .ok (.land, 1)) (r : W h k n pc Ls (.long b :: .long a :: st)) : W h k n (pc + 1) Ls (.long (a &&& b) :: st) :=
  H.step r fun A hx hby q => XS.land A hx rfl (hb hby hd) rfl q
theorem Wk.lor (H : Wk l Z y code mx ret R n0 W V) {a b : Int64} (hd : decode code pc = .ok (.lor, 1)) (r : W h k n pc Ls (.long b :: .long a :: st)) : W h k n (pc + 1) Ls (.long (a ||| b) :: st) :=
  H.step r fun A hx hby q => XS.lor A hx rfl (hb hby hd) rfl q
theorem Wk.lxor (H : Wk l Z y code mx ret R n0 W V) {a b : Int64} (hd : decode code pc = .ok (.lxor, 1)) (r : W h k n pc Ls (.long b :: .long a :: st)) : W h k n (pc + 1) Ls (.long (a ^^^ b) :: st) :=
  H.step r fun A hx hby q => XS.lxor A hx rfl (hb hby hd) rfl q
theorem Wk.lshl (H : Wk l Z y code mx ret R n0 W V) {a : Int64} {b : Int32} (hd : decode code pc = .ok (.lshl, 1)) (r : W h k n pc Ls (.int b :: .long a :: st)) : W h k n (pc + 1) Ls (.long (a <<< (b &&& 0x3f).toInt64) :: st) :=
  H.step r fun A hx hby q => XS.lshl A hx rfl (hb hby hd) rfl q
theorem Wk.lshr (H : Wk l Z y code mx ret R n0 W V) {a : Int64} {b : Int32} (hd : decode code pc = .ok (.lshr, 1)) (r : W h k n pc Ls (.int b :: .long a :: st)) : W h k n (pc + 1) Ls (.long (a >>> (b &&& 0x3f).toInt64) :: st) :=
  H.step r fun A hx hby q => XS.lshr A hx rfl (hb hby hd) rfl q
theorem Wk.lushr (H : Wk l Z y code mx ret R n0 W V) {a : Int64} {b : Int32} (hd : decode code pc = .ok (.lushr, 1)) (r : W h k n pc Ls (.int b :: .long a :: st)) : W h k n (pc + 1) Ls (.long ((a.toUInt64 >>> (b &&& 0x3f).toInt64.toUInt64).toInt64) :: st) :=
  H.step r fun A hx hby q => XS.lushr A hx rfl (hb hby hd) rfl q
theorem Wk.ldiv (H : Wk l Z y code mx ret R n0 W V) {a b : Int64} (hd : decode code pc = .ok (.ldiv, 1)) (r : W h k n pc Ls (.long b :: .long a :: st)) (hy : b ≠ 0) : W h k n (pc + 1) Ls (.long (a / b) :: st) :=
  H.step r fun A hx hby q => XS.ldiv A hx rfl (hb hby hd) rfl hy q
theorem Wk.idiv (H : Wk l Z y code mx ret R n0 W V) {a b : Int32} (hd : decode code pc = .ok (.idiv, 1)) (r : W h k n pc Ls (.int b :: .int a :: st)) (hy : b ≠ 0) : W h k n (pc + 1) Ls (.int (a / b) :: st) :=
  H.step r fun A hx hby q => XS.idiv A hx rfl (hb hby hd) rfl hy q
theorem Wk.lrem (H : Wk l Z y code mx ret R n0 W V) {a b : Int64} (hd : decode code pc = .ok (.lrem, 1)) (r : W h k n pc Ls (.long b :: .long a :: st)) (hy : b ≠ 0) : W h k n (pc + 1) Ls (.long (a % b) :: st) := by
  rw [← lrem_mod a b]
  exact H.step r fun A hx hby q => XS.lrem A hx rfl (hb hby hd) rfl hy q
theorem Wk.irem (H : Wk l Z y code mx ret R n0 W V) {a b : Int32} (hd : decode code pc = .ok (.irem, 1)) (r : W h k n pc Ls (.int b :: .int a :: st)) (hy : b ≠ 0) : W h k n (pc + 1) Ls (.int (a % b) :: st) :=
  H.stepX r fun X hx hby hml hown hZ eT => ⟨_, X, eT, fun t q => iremM X hx rfl (hb hby hd) rfl hy q⟩
theorem Wk.i2b (H : Wk l Z y code mx ret R n0 W V) {a : Int32} (hd : decode code pc = .ok (.i2b, 1)) (r : W h k n pc Ls (.int a :: st)) : W h k n (pc + 1) Ls (.int (a.toInt8.toInt32) :: st) :=
  H.step r fun A hx hby q => XS.i2b A hx rfl (hb hby hd) rfl q
theorem Wk.i2c (H : Wk l Z y code mx ret R n0 W V) {a : Int32} (hd : decode code pc = .ok (.i2c, 1)) (r : W h k n pc Ls (.int a :: st)) : W h k n (pc + 1) Ls (.int (a.toUInt32.toUInt16.toUInt32.toInt32) :: st) :=
  H.step r fun A hx hby q => XS.i2c A hx rfl (hb hby hd) rfl q
theorem Wk.i2s (H : Wk l Z y code mx ret R n0 W V) {a : Int32} (hd : decode code pc = .ok (.i2s, 1)) (r : W h k n pc Ls (.int a :: st)) : W h k n (pc + 1) Ls (.int (a.toInt16.toInt32) :: st) :=
  H.step r fun A hx hby q => XS.i2s A hx rfl (hb hby hd) rfl q
theorem Wk.i2l (H : Wk l Z y code mx ret R n0 W V) {a : Int32} (hd : decode code pc = .ok (.i2l, 1)) (r : W h k n pc Ls (.int a :: st)) : W h k n (pc + 1) Ls (.long (a.toInt64) :: st) :=
  H.step r fun A hx hby q => XS.i2l A hx rfl (hb hby hd) rfl q
theorem Wk.l2i (H : Wk l Z y code mx ret R n0 W V) {a : Int64} (hd : decode code pc = .ok (.l2i, 1)) (r : W h k n pc Ls (.long a :: st)) : W h k n (pc + 1) Ls (.int (a.toInt32) :: st) :=
  H.step r fun A hx hby q => XS.l2i A hx rfl (hb hby hd) rfl q
theorem Wk.ineg (H : Wk l Z y code mx ret R n0 W V) {a : Int32} (hd : decode code pc = .ok (.ineg, 1)) (r : W h k n pc Ls (.int a :: st)) : W h k n (pc + 1) Ls (.int (-a) :: st) :=
  H.step r fun A hx hby q => XS.ineg A hx rfl (hb hby hd) rfl q
theorem Wk.lcmp (H : Wk l Z y code mx ret R n0 W V) {a b : Int64} (hd : decode code pc = .ok (.lcmp, 1)) (r : W h k n pc Ls (.long b :: .long a :: st)) : W h k n (pc + 1) Ls (.int (lcmpW a b) :: st) :=
  H.step r fun A hx hby q => XS.lcmp A hx rfl (hb hby hd) rfl q
theorem Wk.dup (H : Wk l Z y code mx ret R n0 W V) {v : Value} (hd : decode code pc = .ok (.dup, 1)) (r : W h k n pc Ls (v :: st)) (hc : v.category = 1) : W h k n (pc + 1) Ls (v :: v :: st) :=
  H.step r fun A hx hby q => XS.dup A hx rfl (hb hby hd) rfl hc q
theorem Wk.pop (H : Wk l Z y code mx ret R n0 W V) {v : Value} (hd : decode code pc = .ok (.pop, 1)) (r : W h k n pc Ls (v :: st)) (hc : v.category = 1) : W h k n (pc + 1) Ls (st) :=
  H.step r fun A hx hby q => XS.pop A hx rfl (hb hby hd) rfl hc q
theorem Wk.dupX1 (H : Wk l Z y code mx ret R n0 W V) {v w : Value} (hd : decode code pc = .ok (.dup_x1, 1)) (r : W h k n pc Ls (v :: w :: st)) (hc : v.category = 1) (hc2 : w.category = 1) : W h k n (pc + 1) Ls (v :: w :: v :: st) :=
  H.step r fun A hx hby q => XS.dupX1 A hx rfl (hb hby hd) rfl hc hc2 q
theorem Wk.istoreN (H : Wk l Z y code mx ret R n0 W V) {i : Fin 4} {v : Int32} (hd : decode code pc = .ok (.istore_n i, 1)) (r : W h k n pc Ls (.int v :: st)) (hl : storeLocals Ls i.val (.int v) = some Ls') : W h k n (pc + 1) Ls' (st) :=
  H.step r fun A hx hby q => XS.istoreN A hx rfl (hb hby hd) rfl hl q
theorem Wk.istore (H : Wk l Z y code mx ret R n0 W V) {i : Nat} {v : Int32} (hd : decode code pc = .ok (.istore i, 2)) (r : W h k n pc Ls (.int v :: st)) (hl : storeLocals Ls i (.int v) = some Ls') : W h k n (pc + 2) Ls' (st) :=
  H.step r fun A hx hby q => XS.istore A hx rfl (hb hby hd) rfl hl q
theorem Wk.lstoreN (H : Wk l Z y code mx ret R n0 W V) {i : Fin 4} {v : Int64} (hd : decode code pc = .ok (.lstore_n i, 1)) (r : W h k n pc Ls (.long v :: st)) (hl : storeLocals Ls i.val (.long v) = some Ls') : W h k n (pc + 1) Ls' (st) :=
  H.step r fun A hx hby q => XS.lstoreN A hx rfl (hb hby hd) rfl hl q
theorem Wk.lstore (H : Wk l Z y code mx ret R n0 W V) {i : Nat} {v : Int64} (hd : decode code pc = .ok (.lstore i, 2)) (r : W h k n pc Ls (.long v :: st)) (hl : storeLocals Ls i (.long v) = some Ls') : W h k n (pc + 2) Ls' (st) :=
  H.step r fun A hx hby q => XS.lstore A hx rfl (hb hby hd) rfl hl q
theorem Wk.astoreN (H : Wk l Z y code mx ret R n0 W V) {i : Fin 4} {v : Value} (hd : decode code pc = .ok (.astore_n i, 1)) (r : W h k n pc Ls (v :: st)) (hv : v.isRef = true) (hl : storeLocals Ls i.val v = some Ls') : W h k n (pc + 1) Ls' (st) :=
  H.step r fun A hx hby q => XS.astoreN A hx rfl (hb hby hd) rfl hv hl q
theorem Wk.astore (H : Wk l Z y code mx ret R n0 W V) {i : Nat} {v : Value} (hd : decode code pc = .ok (.astore i, 2)) (r : W h k n pc Ls (v :: st)) (hv : v.isRef = true) (hl : storeLocals Ls i v = some Ls') : W h k n (pc + 2) Ls' (st) :=
  H.step r fun A hx hby q => XS.astore A hx rfl (hb hby hd) rfl hv hl q
theorem Wk.istoreNS (H : Wk l Z y code mx ret R n0 W V) {i : Fin 4} {v : Int32} {o : Slot} (hd : decode code pc = .ok (.istore_n i, 1)) (r : W h k n pc Ls (.int v :: st)) (hold : Ls[i.val]? = some o) (ho : One o) : W h k n (pc + 1) (Ls.setIfInBounds i.val (.val (.int v))) st :=
  H.step r fun A hx hby q => XS.istoreNS A hx rfl (hb hby hd) rfl hold ho q
theorem Wk.istoreS (H : Wk l Z y code mx ret R n0 W V) {i : Nat} {v : Int32} {o : Slot} (hd : decode code pc = .ok (.istore i, 2)) (r : W h k n pc Ls (.int v :: st)) (hold : Ls[i]? = some o) (ho : One o) : W h k n (pc + 2) (Ls.setIfInBounds i (.val (.int v))) st :=
  H.step r fun A hx hby q => XS.istoreS A hx rfl (hb hby hd) rfl hold ho q
theorem Wk.iinc (H : Wk l Z y code mx ret R n0 W V) {i : Nat} {cst : Int} {v z : Int32} (hd : decode code pc = .ok (.iinc i cst, 3)) (r : W h k n pc Ls (st)) (hz : v + Int32.ofInt cst = z) (hl : Ls[i]? = some (.val (.int v))) (hl' : storeLocals Ls i (.int z) = some Ls') : W h k n (pc + 3) Ls' (st) :=
  H.step r fun A hx hby q => XS.iinc A hx rfl (hb hby hd) hl (hz ▸ hl') q
theorem Wk.goto (H : Wk l Z y code mx ret R n0 W V) {o : Int} (hd : decode code pc = .ok (.goto o, 3)) (r : W h k n pc Ls st) (ho : 0 ≤ (pc : Int) + o) (hp : ((pc : Int) + o).toNat = pc') : W h k n pc' Ls st :=
  H.step r fun A hx hby q => XS.goto A hx rfl rfl (hb hby hd) ho hp q
theorem Wk.ifYes (H : Wk l Z y code mx ret R n0 W V) {cd : ClassFile.Cond} {a : Int32} {o : Int} (hd : decode code pc = .ok (.ifCond cd o, 3)) (r : W h k n pc Ls (.int a :: st)) (ho : 0 ≤ (pc : Int) + o) (hp : ((pc : Int) + o).toNat = pc') (hc : if_icmp.holds cd a 0 = true) : W h k n pc' Ls st :=
  H.step r fun A hx hby q => XS.ifYes A hx rfl rfl (hb hby hd) rfl ((if0 cd a).trans hc) ho hp q
theorem Wk.ifNo (H : Wk l Z y code mx ret R n0 W V) {cd : ClassFile.Cond} {a : Int32} {o : Int} (hd : decode code pc = .ok (.ifCond cd o, 3)) (r : W h k n pc Ls (.int a :: st)) (hc : if_icmp.holds cd a 0 = false) : W h k n (pc + 3) Ls st :=
  H.step r fun A hx hby q => XS.ifNo A hx rfl (hb hby hd) rfl ((if0 cd a).trans hc) q
theorem Wk.icmpYes (H : Wk l Z y code mx ret R n0 W V) {cd : ClassFile.Cond} {a b : Int32} {o : Int} (hd : decode code pc = .ok (.if_icmp cd o, 3)) (r : W h k n pc Ls (.int b :: .int a :: st)) (ho : 0 ≤ (pc : Int) + o) (hp : ((pc : Int) + o).toNat = pc') (hc : if_icmp.holds cd a b = true) : W h k n pc' Ls st :=
  H.step r fun A hx hby q => XS.icmpYes A hx rfl rfl (hb hby hd) rfl hc ho hp q
theorem Wk.icmpNo (H : Wk l Z y code mx ret R n0 W V) {cd : ClassFile.Cond} {a b : Int32} {o : Int} (hd : decode code pc = .ok (.if_icmp cd o, 3)) (r : W h k n pc Ls (.int b :: .int a :: st)) (hc : if_icmp.holds cd a b = false) : W h k n (pc + 3) Ls st :=
  H.step r fun A hx hby q => XS.icmpNo A hx rfl (hb hby hd) rfl hc q
theorem Wk.ifnullYes (H : Wk l Z y code mx ret R n0 W V) {o : Int} (hd : decode code pc = .ok (.ifnull o, 3)) (r : W h k n pc Ls (.null :: st)) (ho : 0 ≤ (pc : Int) + o) (hp : ((pc : Int) + o).toNat = pc') : W h k n pc' Ls st :=
  H.step r fun A hx hby q => XS.ifnullYes A hx rfl rfl (hb hby hd) rfl ho hp q
theorem Wk.ifnullNo (H : Wk l Z y code mx ret R n0 W V) {a : Addr} {o : Int} (hd : decode code pc = .ok (.ifnull o, 3)) (r : W h k n pc Ls (.ref a :: st)) : W h k n (pc + 3) Ls st :=
  H.step r fun A hx hby q => XS.ifnullNo A hx rfl (hb hby hd) rfl q
theorem Wk.ifnonnullYes (H : Wk l Z y code mx ret R n0 W V) {a : Addr} {o : Int} (hd : decode code pc = .ok (.ifnonnull o, 3)) (r : W h k n pc Ls (.ref a :: st)) (ho : 0 ≤ (pc : Int) + o) (hp : ((pc : Int) + o).toNat = pc') : W h k n pc' Ls st :=
  H.step r fun A hx hby q => XS.ifnonnullYes A hx rfl rfl (hb hby hd) rfl ho hp q
theorem Wk.ifnonnullNo (H : Wk l Z y code mx ret R n0 W V) {o : Int} (hd : decode code pc = .ok (.ifnonnull o, 3)) (r : W h k n pc Ls (.null :: st)) : W h k n (pc + 3) Ls st :=
  H.step r fun A hx hby q => XS.ifnonnullNo A hx rfl (hb hby hd) rfl q
theorem Wk.acmpYes (H : Wk l Z y code mx ret R n0 W V) {cd : ClassFile.ACond} {a b : Value} {o : Int} (hd : decode code pc = .ok (.if_acmp cd o, 3)) (r : W h k n pc Ls (b :: a :: st)) (ho : 0 ≤ (pc : Int) + o) (hp : ((pc : Int) + o).toNat = pc') (ha : a.isRef = true) (hb' : b.isRef = true) (hc : XT.acmp cd a b = true) : W h k n pc' Ls st :=
  H.step r fun A hx hby q => XT.acmpYes A hx rfl rfl (hb hby hd) rfl ha hb' hc ho hp q
theorem Wk.acmpNo (H : Wk l Z y code mx ret R n0 W V) {cd : ClassFile.ACond} {a b : Value} {o : Int} (hd : decode code pc = .ok (.if_acmp cd o, 3)) (r : W h k n pc Ls (b :: a :: st)) (ha : a.isRef = true) (hb' : b.isRef = true) (hc : XT.acmp cd a b = false) : W h k n (pc + 3) Ls st :=
  H.step r fun A hx hby q => XT.acmpNo A hx rfl (hb hby hd) rfl ha hb' hc q
theorem Wk.lookHit (H : Wk l Z y code mx ret R n0 W V) {z : Int32} {dflt : Int} {pairs : Array (Int × Int)} {len : Nat} {a off : Int} (hsorted : (pairs.toList.zip (pairs.toList.drop 1)).all (fun (a, next) => a.1 < next.1) = true) (hfind : pairs.find? (·.1 == z.toInt) = some (a, off)) (ho : 0 ≤ (pc : Int) + off) (hp : ((pc : Int) + off).toNat = pc') (hd : decode code pc = .ok (.lookupswitch dflt pairs, len)) (r : W h k n pc Ls (.int z :: st)) : W h k n pc' Ls st := by
  subst hp
  exact H.stepX r fun X hx hby hml hown hZ eT => ⟨_, X, eT, fun t q => X.lookupswitchHit hx (g := mkF _ pc Ls (.int z :: st)) rfl rfl (hb hby hd) hsorted hfind ho t q⟩
theorem Wk.lookMiss (H : Wk l Z y code mx ret R n0 W V) {z : Int32} {dflt : Int} {pairs : Array (Int × Int)} {len : Nat} (hsorted : (pairs.toList.zip (pairs.toList.drop 1)).all (fun (a, next) => a.1 < next.1) = true) (hfind : pairs.find? (·.1 == z.toInt) = none) (ho : 0 ≤ (pc : Int) + dflt) (hp : ((pc : Int) + dflt).toNat = pc') (hd : decode code pc = .ok (.lookupswitch dflt pairs, len)) (r : W h k n pc Ls (.int z :: st)) : W h k n pc' Ls st := by
  subst hp
  exact H.stepX r fun X hx hby hml hown hZ eT => ⟨_, X, eT, fun t q => X.lookupswitchMiss hx (g := mkF _ pc Ls (.int z :: st)) rfl rfl (hb hby hd) hsorted hfind ho t q⟩
theorem Wk.getS (H : Wk l Z y code mx ret R n0 W V) {i : Nat} {O nm d : String} {v : Value} (w : (Jvm.Cond.fieldLink y.cls i O nm d).before a0 Z = true) (F : Sta Z h O nm d v) (hd : decode code pc = .ok (.getstatic i, 3)) (r : W h k n pc Ls st) : W h k n (pc + 3) Ls (v :: st) :=
  H.stepX r fun X hx hby hml hown hZ eT => RoadKit.getS X hx hZ (host := "") hown w Via.refl eT F (g := mkF _ pc Ls st) rfl (hb hby hd)
theorem Wk.instY (H : Wk l Z y code mx ret R n0 W V) {i : Nat} {K : String} {a : Addr} (w : (Jvm.Cond.classLink y.cls i K).before a0 Z = true) (F : Ins Z h a K true) (hd : decode code pc = .ok (.instanceof i, 3)) (r : W h k n pc Ls (.ref a :: st)) : W h k n (pc + 3) Ls (.int 1 :: st) :=
  H.stepX r fun X hx hby hml hown hZ eT => RoadKit.instY X hx hZ hown w eT F (g := mkF _ pc Ls (.ref a :: st)) rfl rfl (hb hby hd)
theorem Wk.instNo (H : Wk l Z y code mx ret R n0 W V) {i : Nat} {K C : String} {a : Addr} (w : (Jvm.Cond.classLink y.cls i K).before a0 Z = true) (E : Exa Z h a C) (F : ∃ c t, Z.vm.findClass C = some c ∧ Z.vm.findClass K = some t ∧ Z.vm.assignable c t = false) (hd : decode code pc = .ok (.instanceof i, 3)) (r : W h k n pc Ls (.ref a :: st)) : W h k n (pc + 3) Ls (.int 0 :: st) :=
  H.stepX r fun X hx hby hml hown hZ eT => RoadKit.instNo X hx hZ hown w eT E F (g := mkF _ pc Ls (.ref a :: st)) rfl rfl (hb hby hd)
theorem Wk.instNull (H : Wk l Z y code mx ret R n0 W V) {i : Nat} (hd : decode code pc = .ok (.instanceof i, 3)) (r : W h k n pc Ls (.null :: st)) : W h k n (pc + 3) Ls (.int 0 :: st) :=
  H.stepX r fun X hx hby hml hown hZ eT => ⟨_, X, eT, X.instanceofNull hx (g := mkF _ pc Ls (.null :: st)) rfl rfl (hb hby hd)⟩
theorem Wk.castY (H : Wk l Z y code mx ret R n0 W V) {i : Nat} {K : String} {a : Addr} (w : (Jvm.Cond.classLink y.cls i K).before a0 Z = true) (F : Ins Z h a K true) (hd : decode code pc = .ok (.checkcast i, 3)) (r : W h k n pc Ls (.ref a :: st)) : W h k n (pc + 3) Ls (.ref a :: st) :=
  H.stepX r fun X hx hby hml hown hZ eT => RoadKit.castY X hx hZ hown w eT F (g := mkF _ pc Ls (.ref a :: st)) rfl rfl (hb hby hd)
theorem Wk.castNull (H : Wk l Z y code mx ret R n0 W V) {i : Nat} (hd : decode code pc = .ok (.checkcast i, 3)) (r : W h k n pc Ls (.null :: st)) : W h k n (pc + 3) Ls (.null :: st) :=
  H.stepX r fun X hx hby hml hown hZ eT => ⟨_, X, eT, X.checkcastNull hx (g := mkF _ pc Ls (.null :: st)) rfl rfl (hb hby hd)⟩
theorem Wk.ldcInt (H : Wk l Z y code mx ret R n0 W V) {i : Nat} {v : Int32} (hd : decode code pc = .ok (.ldc i, 2)) (r : W h k n pc Ls st) (w : (Jvm.Cond.constant y.cls i v).before a0 Z = true) : W h k n (pc + 2) Ls (.int v :: st) :=
  H.stepX r fun X hx hby hml hown hZ eT => ⟨_, X, eT, X.ldcInt hx hown (mvT hZ w) (g := mkF _ pc Ls st) rfl (hb hby hd)⟩
theorem Wk.ldcWInt (H : Wk l Z y code mx ret R n0 W V) {i : Nat} {v : Int32} (hd : decode code pc = .ok (.ldc_w i, 3)) (r : W h k n pc Ls st) (w : (Jvm.Cond.constant y.cls i v).before a0 Z = true) : W h k n (pc + 3) Ls (.int v :: st) :=
  H.stepX r fun {p e s m args below meth c T locs} X hx hby hml hown hZ eT => ⟨T, X, eT, fun t q => by
    obtain ⟨kc, cf, bytes, hk, hcf, hcp, hb'⟩ := Cond.constant_spec hown (mvT (args := args) hZ w)
    obtain ⟨k', hk', he⟩ := X.warmed.alike.2.2 _ _ hk
    have hdg := hb hby hd
    show Steps p.tables e below (T.setTop (mkF m pc Ls st)) t
    jvm_step X.here [hx, hdg, ldc_w.wp_int (s := T) (f := mkF m pc Ls st) X.here.top hk' (by rw [he]; exact hcf) hcp, hb']
    exact q⟩
theorem Wk.ldcFloat (H : Wk l Z y code mx ret R n0 W V) {i : Nat} {v : UInt32} (w : (Jvm.Cond.constantFloat y.cls i v).before a0 Z = true) (hd : decode code pc = .ok (.ldc i, 2)) (r : W h k n pc Ls st) : W h k n (pc + 2) Ls (.float v :: st) :=
  H.stepX r fun X hx hby hml hown hZ eT => ⟨_, X, eT, X.ldcFloatC hx hown (mvT hZ w) (g := mkF _ pc Ls st) rfl (hb hby hd)⟩
theorem Wk.ldcLong (H : Wk l Z y code mx ret R n0 W V) {i : Nat} {v : Int64} (hd : decode code pc = .ok (.ldc2_w i, 3)) (r : W h k n pc Ls st) (w : (Jvm.Cond.constantLong y.cls i v).before a0 Z = true) : W h k n (pc + 3) Ls (.long v :: st) :=
  H.stepX r fun X hx hby hml hown hZ eT => ⟨_, X, eT, X.ldc2Long hx hown (mvT hZ w) (g := mkF _ pc Ls st) rfl (hb hby hd)⟩
theorem Wk.getF (H : Wk l Z y code mx ret R n0 W V) {i : Nat} {R0 O nm d host : String} {a : Addr} {v : Value} (w : (Jvm.Cond.fieldLink y.cls i R0 nm d).before a0 Z = true ∨ (Jvm.Cond.fieldLinkNest y.cls i R0 nm d host).before a0 Z = true) (via : Via Z R0 O nm d) (F : Fld Z h a O nm d v) (hd : decode code pc = .ok (.getfield i, 3)) (r : W h k n pc Ls (.ref a :: st)) : W h k n (pc + 3) Ls (v :: st) :=
  H.stepX r fun X hx hby hml hown hZ eT => RoadKit.getF X hx hZ hown w via eT F (g := mkF _ pc Ls (.ref a :: st)) rfl rfl (hb hby hd)
theorem Wk.getF' (H : Wk l Z y code mx ret R n0 W V) {i : Nat} {O nm d : String} {a : Addr} {v : Value} (w : (Jvm.Cond.fieldLink y.cls i O nm d).before a0 Z = true) (F : Fld Z h a O nm d v) (hd : decode code pc = .ok (.getfield i, 3)) (r : W h k n pc Ls (.ref a :: st)) : W h k n (pc + 3) Ls (v :: st) :=
  H.getF (host := "") (Or.inl w) Via.refl F hd r
theorem Wk.putF (H : Wk l Z y code mx ret R n0 W V) {i kk : Nat} {R0 O nm d host C : String} {ty : FieldType} {a : Addr} {v old : Value} (w : (Jvm.Cond.fieldLink y.cls i R0 nm d).before a0 Z = true ∨ (Jvm.Cond.fieldLinkNest y.cls i R0 nm d host).before a0 Z = true) (via : Via Z R0 O nm d) (F : Fld Z h a O nm d old) (E : Exa Z h a C) (L : (Jvm.Cond.lays C O nm d).before a0 Z = true ∨ ((Jvm.Cond.laysFinal C O nm d).before a0 Z = true ∧ y.cls = O ∧ y.name = "<init>")) (wi : (Jvm.Cond.instantiable C kk).before a0 Z = true)
    (hty : parseFieldDescriptor d = some ty) (hn : narrow ty v = v) (hf : fits ty v = true) (hn0 : n0 ≤ a) (hd : decode code pc = .ok (.putfield i, 3)) (r : W h k n pc Ls (v :: .ref a :: st)) : ∃ h', Wr h h' a (Jvm.RoadKit.slotOf Z O nm d) v ∧ W h' k n (pc + 3) Ls st := by
  obtain ⟨p, e, s, m, args, below, meth, c, S0, hx, hby, hml, hown, hZ, hnm, hret, hlk, rfl, rfl⟩ := H
  obtain ⟨T, locs, X, eh, N, sp⟩ := r
  obtain ⟨T', h', X', e', W', q⟩ := RoadKit.putF X hx hZ hown w via eh F E (L.imp id fun u => ⟨u.1, u.2.1, by rw [hnm]; exact u.2.2⟩) wi hty hn hf (g := mkF m pc Ls (v :: .ref a :: st)) rfl rfl (hb hby hd)
  exact ⟨h', W', T', _, X', e', Fr.snoc X' N hn0, fun t u => sp t (q t u)⟩
theorem Wk.newO (H : Wk l Z y code mx ret R n0 W V) {i q : Nat} {C : String} (w : (Jvm.Cond.classLink y.cls i C).before a0 Z = true) (wi : (Jvm.Cond.instantiable C q).before a0 Z = true) (wz : (Jvm.Cond.initialized C).before a0 Z = true) (hc : k + 1 ≤ R.cells) (hl : n + q ≤ R.slots) (hd : decode code pc = .ok (.new i, 3)) (r : W h k n pc Ls st) :
    ∃ h' a, a = h.size ∧ Ext h h' ∧ Exa Z h' a C ∧ (∀ {O nm d : String} {ty : FieldType}, Laid Z a0 C O nm d → parseFieldDescriptor d = some ty → Fld Z h' a O nm d (defaultValue ty)) ∧ (∃ cell : Cell, h'[a]? = some cell ∧ cell.vm = .none ∧ cell.monitor = {}) ∧ W h' (k + 1) (n + q) (pc + 3) Ls (.ref a :: st) := by
  obtain ⟨p, e, s, m, args, below, meth, c, S0, hx, hby, hml, hown, hZ, hnm, hret, hlk, rfl, rfl⟩ := H
  obtain ⟨T, locs, X, eh, N, sp⟩ := r
  obtain ⟨T', h', X', e', E', A', D', U', q'⟩ := RoadKit.newO X hx hZ hown w wi wz eh (g := mkF m pc Ls st) rfl (hb hby hd) hc hl
  exact ⟨h', _, rfl, E', A', D', U', T', _, X', e', N, fun t u => sp t (q' t u)⟩
theorem Wk.newP (H : Wk l Z y code mx ret R n0 W V) {aty : ArrayType} {ty : FieldType} {z : Int32} {cap : Nat} (hty : newarray.typeOf aty = ty) (w : (Jvm.Cond.arrayClass ty).before a0 Z = true) (hn : ¬ z < 0) (hcap : z.toNatClampNeg ≤ cap) (hb8 : cap * 8 ≤ 536870912) (hc : k + 1 ≤ R.cells) (hl : n + cap ≤ R.slots) (hd : decode code pc = .ok (.newarray aty, 2)) (r : W h k n pc Ls (.int z :: st)) :
    ∃ h' a cA, a = h.size ∧ Ext h h' ∧ Arr Z h' a (newA cA ty z) ty ∧ W h' (k + 1) (n + cap) (pc + 2) Ls (.ref a :: st) := by
  subst hty
  obtain ⟨p, e, s, m, args, below, meth, c, S0, hx, hby, hml, hown, hZ, hnm, hret, hlk, rfl, rfl⟩ := H
  obtain ⟨T, locs, X, eh, N, sp⟩ := r
  obtain ⟨T', h', cA, X', e', E', A', q'⟩ := RoadKit.newP X hx hZ w eh (g := mkF m pc Ls (.int z :: st)) rfl (hb hby hd) rfl hn hcap hb8 hc hl
  exact ⟨h', _, cA, rfl, E', A', T', _, X', e', N, fun t u => sp t (q' t u)⟩
theorem Wk.arrLen (H : Wk l Z y code mx ret R n0 W V) {a : Addr} {cl : Cell} {ty : FieldType} {z : Int32} (A : Arr Z h a cl ty) (hz : cl.slots.size.toInt32 = z) (hd : decode code pc = .ok (.arraylength, 1)) (r : W h k n pc Ls (.ref a :: st)) : W h k n (pc + 1) Ls (.int z :: st) := by
  subst hz
  exact H.stepX r fun X hx hby hml hown hZ eT => ⟨_, X, eT, X.arraylength hx (by rw [eT]; exact A.1) (State.isArrayOf_alike hZ.alike A.2.1) (g := mkF _ pc Ls (.ref a :: st)) rfl rfl (hb hby hd)⟩
theorem Wk.iaload (H : Wk l Z y code mx ret R n0 W V) {a : Addr} {cl : Cell} {j : Int32} {v : Value} (A : Arr Z h a cl .int) (hin : ¬ (j < 0 ∨ cl.slots.size ≤ j.toNatClampNeg)) (hv : cl.slots[j.toNatClampNeg]? = some v) (hd : decode code pc = .ok (.iaload, 1)) (r : W h k n pc Ls (.int j :: .ref a :: st)) : W h k n (pc + 1) Ls (v :: st) :=
  H.stepX r fun X hx hby hml hown hZ eT => ⟨_, X, eT, X.iaload hx (by rw [eT]; exact A.1) (State.isArrayOf_alike hZ.alike A.2.1) A.2.2 hin hv (g := mkF _ pc Ls (.int j :: .ref a :: st)) rfl rfl (hb hby hd)⟩
theorem Wk.laload (H : Wk l Z y code mx ret R n0 W V) {a : Addr} {cl : Cell} {j : Int32} {v : Value} (A : Arr Z h a cl .long) (hin : ¬ (j < 0 ∨ cl.slots.size ≤ j.toNatClampNeg)) (hv : cl.slots[j.toNatClampNeg]? = some v) (hd : decode code pc = .ok (.laload, 1)) (r : W h k n pc Ls (.int j :: .ref a :: st)) : W h k n (pc + 1) Ls (v :: st) :=
  H.stepX r fun X hx hby hml hown hZ eT => ⟨_, X, eT, X.laload hx (by rw [eT]; exact A.1) (State.isArrayOf_alike hZ.alike A.2.1) A.2.2 hin hv (g := mkF _ pc Ls (.int j :: .ref a :: st)) rfl rfl (hb hby hd)⟩
theorem Wk.caload (H : Wk l Z y code mx ret R n0 W V) {a : Addr} {cl : Cell} {j : Int32} {v : Value} (A : Arr Z h a cl .char) (hin : ¬ (j < 0 ∨ cl.slots.size ≤ j.toNatClampNeg)) (hv : cl.slots[j.toNatClampNeg]? = some v) (hd : decode code pc = .ok (.caload, 1)) (r : W h k n pc Ls (.int j :: .ref a :: st)) : W h k n (pc + 1) Ls (v :: st) :=
  H.stepX r fun X hx hby hml hown hZ eT => ⟨_, X, eT, X.caload hx (by rw [eT]; exact A.1) (State.isArrayOf_alike hZ.alike A.2.1) A.2.2 hin hv (g := mkF _ pc Ls (.int j :: .ref a :: st)) rfl rfl (hb hby hd)⟩
theorem Wk.baload (H : Wk l Z y code mx ret R n0 W V) {a : Addr} {cl : Cell} {j : Int32} {v : Value} (A : Arr Z h a cl .byte) (hin : ¬ (j < 0 ∨ cl.slots.size ≤ j.toNatClampNeg)) (hv : cl.slots[j.toNatClampNeg]? = some v) (hd : decode code pc = .ok (.baload, 1)) (r : W h k n pc Ls (.int j :: .ref a :: st)) : W h k n (pc + 1) Ls (v :: st) :=
  H.stepX r fun X hx hby hml hown hZ eT => ⟨_, X, eT, X.baloadBytes hx (by rw [eT]; exact A.1) (State.isArrayOf_alike hZ.alike A.2.1) A.2.2 hin hv (g := mkF _ pc Ls (.int j :: .ref a :: st)) rfl rfl (hb hby hd)⟩
theorem Wk.aaload (H : Wk l Z y code mx ret R n0 W V) {a : Addr} {cl : Cell} {ty : FieldType} {j : Int32} {v : Value} (A : Arr Z h a cl ty) (hty : ty.isReference = true) (hin : ¬ (j < 0 ∨ cl.slots.size ≤ j.toNatClampNeg)) (hv : cl.slots[j.toNatClampNeg]? = some v) (hd : decode code pc = .ok (.aaload, 1)) (r : W h k n pc Ls (.int j :: .ref a :: st)) : W h k n (pc + 1) Ls (v :: st) :=
  H.stepX r fun X hx hby hml hown hZ eT => ⟨_, X, eT, X.aaload hx (by rw [eT]; exact A.1) (State.isArrayOf_alike hZ.alike A.2.1) hty A.2.2 hin hv (g := mkF _ pc Ls (.int j :: .ref a :: st)) rfl rfl (hb hby hd)⟩
theorem Wk.stI (H : Wk l Z y code mx ret R n0 W V) {a : Addr} {cl : Cell} {j : Int32} {x : Int32} (A : Arr Z h a cl .int) (hin : ¬ (j < 0 ∨ cl.slots.size ≤ j.toNatClampNeg)) (hn0 : n0 ≤ a) (hd : decode code pc = .ok (.iastore, 1)) (r : W h k n pc Ls (.int x :: .int j :: .ref a :: st)) : ∃ h', Wr h h' a j.toNatClampNeg (.int x) ∧ W h' k n (pc + 1) Ls st := by
  obtain ⟨p, e, s, m, args, below, meth, c, S0, hx, hby, hml, hown, hZ, hnm, hret, hlk, rfl, rfl⟩ := H
  obtain ⟨T, locs, X, eh, N, sp⟩ := r
  obtain ⟨T', h', X', e', W', q⟩ := RoadKit.stI X hx hZ eh A hin (g := mkF m pc Ls (.int x :: .int j :: .ref a :: st)) rfl rfl (hb hby hd)
  exact ⟨h', W', T', _, X', e', Fr.snoc X' N hn0, fun t u => sp t (q t u)⟩
theorem Wk.stJ (H : Wk l Z y code mx ret R n0 W V) {a : Addr} {cl : Cell} {j : Int32} {x : Int64} (A : Arr Z h a cl .long) (hin : ¬ (j < 0 ∨ cl.slots.size ≤ j.toNatClampNeg)) (hn0 : n0 ≤ a) (hd : decode code pc = .ok (.lastore, 1)) (r : W h k n pc Ls (.long x :: .int j :: .ref a :: st)) : ∃ h', Wr h h' a j.toNatClampNeg (.long x) ∧ W h' k n (pc + 1) Ls st := by
  obtain ⟨p, e, s, m, args, below, meth, c, S0, hx, hby, hml, hown, hZ, hnm, hret, hlk, rfl, rfl⟩ := H
  obtain ⟨T, locs, X, eh, N, sp⟩ := r
  obtain ⟨T', h', X', e', W', q⟩ := RoadKit.stJ X hx hZ eh A hin (g := mkF m pc Ls (.long x :: .int j :: .ref a :: st)) rfl rfl (hb hby hd)
  exact ⟨h', W', T', _, X', e', Fr.snoc X' N hn0, fun t u => sp t (q t u)⟩
theorem Wk.stC (H : Wk l Z y code mx ret R n0 W V) {a : Addr} {cl : Cell} {j : Int32} {x : Int32} (A : Arr Z h a cl .char) (hin : ¬ (j < 0 ∨ cl.slots.size ≤ j.toNatClampNeg)) (hn0 : n0 ≤ a) (hd : decode code pc = .ok (.castore, 1)) (r : W h k n pc Ls (.int x :: .int j :: .ref a :: st)) : ∃ h', Wr h h' a j.toNatClampNeg (.int (nar .char x)) ∧ W h' k n (pc + 1) Ls st := by
  obtain ⟨p, e, s, m, args, below, meth, c, S0, hx, hby, hml, hown, hZ, hnm, hret, hlk, rfl, rfl⟩ := H
  obtain ⟨T, locs, X, eh, N, sp⟩ := r
  obtain ⟨T', h', X', e', W', q⟩ := RoadKit.stC X hx hZ eh A hin (g := mkF m pc Ls (.int x :: .int j :: .ref a :: st)) rfl rfl (hb hby hd)
  exact ⟨h', W', T', _, X', e', Fr.snoc X' N hn0, fun t u => sp t (q t u)⟩
theorem Wk.stB (H : Wk l Z y code mx ret R n0 W V) {a : Addr} {cl : Cell} {j : Int32} {x : Int32} (A : Arr Z h a cl .byte) (hin : ¬ (j < 0 ∨ cl.slots.size ≤ j.toNatClampNeg)) (hn0 : n0 ≤ a) (hd : decode code pc = .ok (.bastore, 1)) (r : W h k n pc Ls (.int x :: .int j :: .ref a :: st)) : ∃ h', Wr h h' a j.toNatClampNeg (.int (nar .byte x)) ∧ W h' k n (pc + 1) Ls st := by
  obtain ⟨p, e, s, m, args, below, meth, c, S0, hx, hby, hml, hown, hZ, hnm, hret, hlk, rfl, rfl⟩ := H
  obtain ⟨T, locs, X, eh, N, sp⟩ := r
  obtain ⟨T', h', X', e', W', q⟩ := RoadKit.stB X hx hZ eh A hin (g := mkF m pc Ls (.int x :: .int j :: .ref a :: st)) rfl rfl (hb hby hd)
  exact ⟨h', W', T', _, X', e', Fr.snoc X' N hn0, fun t u => sp t (q t u)⟩
theorem Wk.initO (H : Wk l Z y code mx ret R n0 W V) {i w : Nat} {a : Addr} (w1 : (Jvm.Cond.methodLink y.cls i Lib.objectInit).before a0 Z = true) (w2 : (Jvm.Cond.instanceMethod Lib.objectInit).before a0 Z = true) (w3 : (Jvm.Cond.code Lib.objectInit ⟨#[0xb1]⟩ 1 none).before a0 Z = true) (hsz : Ls.size = mx) (hf : 1 ≤ R.frames) (hw : (st.map fun v => v.category).sum ≤ w) (hl : w + 12 ≤ R.locals) (hd : decode code pc = .ok (.invokespecial i, 3)) (r : W h k n pc Ls (.ref a :: st)) : W h k n (pc + 3) Ls st :=
  H.stepX r fun X hx hby hml hown hZ eT => RoadKit.initO X hx hZ hown w1 w2 w3 eT (g := mkF _ pc Ls (.ref a :: st)) rfl (by rw [hml]; exact hsz) rfl (hb hby hd) hf (by show 2 * 0 + _ ≤ _; omega) hl
variable {y' : MethodName} {bytes' : ByteArray} {mx' : Nat} {ret' : Option FieldType} {rm' : Room} {as' : Array Value} {Q : Option Value → Heap → Prop} {i w : Nat} {ps : List FieldType} {rt : Option FieldType} {argsL rest : List Value}
theorem Wk.callS (H : Wk l Z y code mx ret R n0 W V) (w1 : (Jvm.Cond.methodLink y.cls i y').before a0 Z = true) (w2 : (Jvm.Cond.static y').before a0 Z = true) (w3 : (Jvm.Cond.initialized y'.cls).before a0 Z = true) (w4 : (Jvm.Cond.code y' bytes' mx' ret').before a0 Z = true) (hy : y'.cls ≠ "java/lang/invoke/MethodHandle" ∧ y'.cls ≠ "java/lang/invoke/VarHandle")
    (hpd : parseMethodDescriptor y'.desc = some ⟨ps, rt⟩) (hf : rm'.frames + 1 ≤ R.frames) (hl : w + (mx' + 11) + rm'.locals ≤ R.locals) (hc : k + rm'.cells ≤ R.cells) (hn : n + rm'.slots ≤ R.slots) (hM : Ct l Z y' bytes' mx' ret' rm' n0 argsL.toArray h Q) (hlen : argsL.length = ps.length) (hsz : Ls.size = mx) (hw : (rest.map fun v => v.category).sum ≤ w) (hst : st = argsL.reverse ++ rest) (hd : decode code pc = .ok (.invokestatic i, 3)) (r : W h k n pc Ls st) :
    ∃ v h', Q v h' ∧ W h' (k + rm'.cells) (n + rm'.slots) (pc + 3) Ls (v.toList ++ rest) := by
  subst hst
  obtain ⟨p, e, s, m, args, below, meth, c, S0, hx, hby, hml, hown, hZ, hnm, hret, hlk, rfl, rfl⟩ := H
  obtain ⟨T, locs, X, eh, N, sp⟩ := r
  obtain ⟨v, _, ⟨T1, L1, k1, n1⟩, -, X1, ⟨Lc, hQ, g1, g2, g3⟩, st1⟩ := Jvm.LawKit.callS X hx (y := y') hown (mvT hZ w1) (mvT hZ w2) (mvT hZ w3) (mvT hZ w4) hy (backOf (W := w) (Q := fun v hh L => Q v hh ∧ Fr n0 L) (hM []) hZ w4 w3 hf hl) (g := mkF m pc Ls (argsL.reverse ++ rest)) rfl (by rw [hml]; exact hsz) (argsL := argsL) (rest := rest) (lenOf hpd hlen) rfl (by show 2 * 0 + _ ≤ _; omega) (hb hby hd) (fun _ _ => ⟨rfl, eh, hc, hn⟩)
  dsimp only [Pt.U, Pt.locs, Pt.cells, Pt.slots] at X1 g1 g2 g3 st1 hQ
  subst g1 g2 g3
  exact ⟨v, T1.heap, hQ.1, T1, _, X1, rfl, Fr.app N hQ.2, fun t u => sp t (st1 t u)⟩
theorem Wk.callI (H : Wk l Z y code mx ret R n0 W V) {a : Addr} (hi : y'.name = "<init>") (w1 : (Jvm.Cond.methodLink y.cls i y').before a0 Z = true) (w2 : (Jvm.Cond.instanceMethod y').before a0 Z = true) (w3 : (Jvm.Cond.initialized y'.cls).before a0 Z = true) (w4 : (Jvm.Cond.code y' bytes' mx' none).before a0 Z = true) (hy : y'.cls ≠ "java/lang/invoke/MethodHandle" ∧ y'.cls ≠ "java/lang/invoke/VarHandle")
    (hpd : parseMethodDescriptor y'.desc = some ⟨ps, rt⟩) (hf : rm'.frames + 1 ≤ R.frames) (hl : w + (mx' + 11) + rm'.locals ≤ R.locals) (hc : k + rm'.cells ≤ R.cells) (hn : n + rm'.slots ≤ R.slots) (hM : Ct l Z y' bytes' mx' none rm' n0 (.ref a :: argsL).toArray h Q) (hlen : argsL.length = ps.length) (hsz : Ls.size = mx) (hw : (rest.map fun v => v.category).sum ≤ w) (hst : st = argsL.reverse ++ .ref a :: rest) (hd : decode code pc = .ok (.invokespecial i, 3)) (r : W h k n pc Ls st) :
    ∃ v h', Q v h' ∧ W h' (k + rm'.cells) (n + rm'.slots) (pc + 3) Ls (v.toList ++ rest) := by
  subst hst
  obtain ⟨p, e, s, m, args, below, meth, c, S0, hx, hby, hml, hown, hZ, hnm, hret, hlk, rfl, rfl⟩ := H
  obtain ⟨T, locs, X, eh, N, sp⟩ := r
  obtain ⟨v, _, ⟨T1, L1, k1, n1⟩, -, X1, ⟨Lc, hQ, g1, g2, g3⟩, st1⟩ := X.specialBack hx (y := y') hi hown (mvT hZ w1) (mvT hZ w2) (mvT hZ w4) hy (backOf (W := w) (Q := fun v hh L => Q v hh ∧ Fr n0 L) (hM []) hZ w4 w3 hf hl) (g := mkF m pc Ls (argsL.reverse ++ .ref a :: rest)) rfl (by rw [hml]; exact hsz) (Steps.refl _) (a := a) (argsL := argsL) (rest := rest) (lenOf hpd hlen) rfl (by show 2 * 0 + _ ≤ _; omega) (hb hby hd) (fun _ _ => ⟨rfl, eh, hc, hn⟩)
  dsimp only [Pt.U, Pt.locs, Pt.cells, Pt.slots] at X1 g1 g2 g3 st1 hQ
  subst g1 g2 g3
  exact ⟨v, T1.heap, hQ.1, T1, _, X1, rfl, Fr.app N hQ.2, fun t u => sp t (st1.trans u)⟩
theorem Wk.callV (H : Wk l Z y code mx ret R n0 W V) {a : Addr} {C : String} {z' : MethodName} (w1 : (Jvm.Cond.methodLink y.cls i z').before a0 Z = true) (w2 : (Jvm.Cond.declares z').before a0 Z = true) (nf : NF Z a0 z') (w5 : (Jvm.Cond.selects C z' y').before a0 Z = true) (w6 : (Jvm.Cond.instanceMethod y').before a0 Z = true) (w3 : (Jvm.Cond.initialized y'.cls).before a0 Z = true) (w4 : (Jvm.Cond.code y' bytes' mx' ret').before a0 Z = true) (hy : z'.cls ≠ "java/lang/invoke/MethodHandle" ∧ z'.cls ≠ "java/lang/invoke/VarHandle")
    (hpd : parseMethodDescriptor z'.desc = some ⟨ps, rt⟩) (hf : rm'.frames + 1 ≤ R.frames) (hl : w + (mx' + 11) + rm'.locals ≤ R.locals) (hc : k + rm'.cells ≤ R.cells) (hn : n + rm'.slots ≤ R.slots) (E : Exa Z h a C) (hM : Ct l Z y' bytes' mx' ret' rm' n0 (.ref a :: argsL).toArray h Q) (hlen : argsL.length = ps.length) (hsz : Ls.size = mx) (hw : (rest.map fun v => v.category).sum ≤ w) (hst : st = argsL.reverse ++ .ref a :: rest) (hd : decode code pc = .ok (.invokevirtual i, 3)) (r : W h k n pc Ls st) :
    ∃ v h', Q v h' ∧ W h' (k + rm'.cells) (n + rm'.slots) (pc + 3) Ls (v.toList ++ rest) := by
  subst hst
  obtain ⟨p, e, s, m, args, below, meth, c, S0, hx, hby, hml, hown, hZ, hnm, hret, hlk, rfl, rfl⟩ := H
  obtain ⟨T, locs, X, eh, N, sp⟩ := r
  obtain ⟨cq, kq, qa, qb, qc⟩ := isOf (s := s) (T := T) hZ eh E
  obtain ⟨v, _, ⟨T1, L1, k1, n1⟩, -, X1, ⟨Lc, hQ, g1, g2, g3⟩, st1⟩ := X.virtualBack hx (y := z') (z := y') hown (mvT hZ w1) (mvT hZ w2) (nf.at hZ) (mvT hZ w5) (mvT hZ w6) hy (backOf (W := w) (Q := fun v hh L => Q v hh ∧ Fr n0 L) (hM []) hZ w4 w3 hf hl) qa qc (g := mkF m pc Ls (argsL.reverse ++ .ref a :: rest)) rfl (by rw [hml]; exact hsz) (Steps.refl _) (argsL := argsL) (rest := rest) (lenOf hpd hlen) rfl (by show 2 * 0 + _ ≤ _; omega) (hb hby hd) (fun _ _ => ⟨rfl, eh, hc, hn⟩)
  dsimp only [Pt.U, Pt.locs, Pt.cells, Pt.slots] at X1 g1 g2 g3 st1 hQ
  subst g1 g2 g3
  exact ⟨v, T1.heap, hQ.1, T1, _, X1, rfl, Fr.app N hQ.2, fun t u => sp t (st1.trans u)⟩
theorem Wk.callSP (H : Wk l Z y code mx ret R n0 W V) {v0 : Option Value} (w1 : (Jvm.Cond.methodLink y.cls i y').before a0 Z = true) (w2 : (Jvm.Cond.static y').before a0 Z = true) (w3 : (Jvm.Cond.initialized y'.cls).before a0 Z = true) (w4 : (Jvm.Cond.code y' bytes' mx' ret').before a0 Z = true) (hy : y'.cls ≠ "java/lang/invoke/MethodHandle" ∧ y'.cls ≠ "java/lang/invoke/VarHandle")
    (hpd : parseMethodDescriptor y'.desc = some ⟨ps, rt⟩) (hf : rm'.frames + 1 ≤ R.frames) (hl : w + (mx' + 11) + rm'.locals ≤ R.locals) (hc : k + rm'.cells ≤ R.cells) (hn : n + rm'.slots ≤ R.slots) (hM : Ct l Z y' bytes' mx' ret' rm' n0 argsL.toArray h (fun v h' => v = v0 ∧ h' = h)) (hlen : argsL.length = ps.length) (hsz : Ls.size = mx) (hw : (rest.map fun v => v.category).sum ≤ w) (hst : st = argsL.reverse ++ rest) (hd : decode code pc = .ok (.invokestatic i, 3)) (r : W h k n pc Ls st) :
    W h (k + rm'.cells) (n + rm'.slots) (pc + 3) Ls (v0.toList ++ rest) := by
  obtain ⟨v, h', ⟨e1, e2⟩, r'⟩ := H.callS w1 w2 w3 w4 hy hpd hf hl hc hn hM hlen hsz hw hst hd r
  rw [← e1, ← e2]
  rw [e2] at r' ⊢
  exact r'
theorem Wk.callVP (H : Wk l Z y code mx ret R n0 W V) {v0 : Option Value} {a : Addr} {C : String} {z' : MethodName} (w1 : (Jvm.Cond.methodLink y.cls i z').before a0 Z = true) (w2 : (Jvm.Cond.declares z').before a0 Z = true) (nf : NF Z a0 z') (w5 : (Jvm.Cond.selects C z' y').before a0 Z = true) (w6 : (Jvm.Cond.instanceMethod y').before a0 Z = true) (w3 : (Jvm.Cond.initialized y'.cls).before a0 Z = true) (w4 : (Jvm.Cond.code y' bytes' mx' ret').before a0 Z = true) (hy : z'.cls ≠ "java/lang/invoke/MethodHandle" ∧ z'.cls ≠ "java/lang/invoke/VarHandle")
    (hpd : parseMethodDescriptor z'.desc = some ⟨ps, rt⟩) (hf : rm'.frames + 1 ≤ R.frames) (hl : w + (mx' + 11) + rm'.locals ≤ R.locals) (hc : k + rm'.cells ≤ R.cells) (hn : n + rm'.slots ≤ R.slots) (E : Exa Z h a C) (hM : Ct l Z y' bytes' mx' ret' rm' n0 (.ref a :: argsL).toArray h (fun v h' => v = v0 ∧ h' = h)) (hlen : argsL.length = ps.length) (hsz : Ls.size = mx) (hw : (rest.map fun v => v.category).sum ≤ w) (hst : st = argsL.reverse ++ .ref a :: rest) (hd : decode code pc = .ok (.invokevirtual i, 3)) (r : W h k n pc Ls st) :
    W h (k + rm'.cells) (n + rm'.slots) (pc + 3) Ls (v0.toList ++ rest) := by
  obtain ⟨v, h', ⟨e1, e2⟩, r'⟩ := H.callV w1 w2 nf w5 w6 w3 w4 hy hpd hf hl hc hn E hM hlen hsz hw hst hd r
  rw [← e1, ← e2]
  rw [e2] at r' ⊢
  exact r'
theorem Wk.retV (H : Wk l Z y code mx ret R n0 W V) {v : Value} {t : FieldType} {ins : Instr} (ht : ret = some t) (hn' : narrow t v = v) (hi : (ins = .ireturn ∧ (t = .int ∨ t = .boolean ∨ t = .byte ∨ t = .char ∨ t = .short) ∧ ∃ z, v = .int z) ∨ (ins = .lreturn ∧ t = .long ∧ ∃ z, v = .long z) ∨ (ins = .dreturn ∧ t = .double ∧ ∃ z, v = .double z) ∨ (ins = .freturn ∧ t = .float ∧ ∃ z, v = .float z) ∨ (ins = .areturn ∧ t.isReference = true ∧ v.isRef = true))
    (hk : k ≤ R.cells) (hn : n ≤ R.slots) (hd : decode code pc = .ok (ins, 1)) (r : W h k n pc Ls (v :: st)) : V (some v) h := by
  obtain ⟨p, e, s, m, args, below, meth, c, S0, hx, hby, hml, hown, hZ, hnm, hret, hlk, rfl, rfl⟩ := H
  obtain ⟨T, locs, X, eh, N, sp⟩ := r
  have hrt : meth.sig.returnType = some t := hret.trans ht
  obtain ⟨fs, hr, hrun, hended, hW, hsame⟩ := X.leave (v := some v) (fun q => by rw [hrt] at q; cases q) hlk
  exact ⟨_, locs, sp _ (retOut X hx hrt hn' hi (hb hby hd) hr), hrun, hended, eh, N, ⟨_, rfl⟩, hW, hsame.mono hk hn⟩
theorem Wk.retI (H : Wk l Z y code mx ret R n0 W V) {z : Int32} (ht : ret = some .int) (hk : k ≤ R.cells) (hn : n ≤ R.slots) (hd : decode code pc = .ok (.ireturn, 1)) (r : W h k n pc Ls (.int z :: st)) : V (some (.int z)) h :=
  H.retV ht rfl (Or.inl ⟨rfl, Or.inl rfl, z, rfl⟩) hk hn hd r
theorem Wk.retJ (H : Wk l Z y code mx ret R n0 W V) {z : Int64} (ht : ret = some .long) (hk : k ≤ R.cells) (hn : n ≤ R.slots) (hd : decode code pc = .ok (.lreturn, 1)) (r : W h k n pc Ls (.long z :: st)) : V (some (.long z)) h :=
  H.retV ht rfl (Or.inr (Or.inl ⟨rfl, rfl, z, rfl⟩)) hk hn hd r
theorem Wk.retZ (H : Wk l Z y code mx ret R n0 W V) {z z' : Int32} (hz : z &&& 1 = z') (ht : ret = some .boolean) (hk : k ≤ R.cells) (hn : n ≤ R.slots) (hd : decode code pc = .ok (.ireturn, 1)) (r : W h k n pc Ls (.int z :: st)) : V (some (.int z')) h := by
  subst hz
  obtain ⟨p, e, s, m, args, below, meth, c, S0, hx, hby, hml, hown, hZ, hnm, hret, hlk, rfl, rfl⟩ := H
  obtain ⟨T, locs, X, eh, N, sp⟩ := r
  have hrt : meth.sig.returnType = some .boolean := hret.trans ht
  obtain ⟨fs, hr, hrun, hended, hW, hsame⟩ := X.leave (v := some (.int (nar .boolean z))) (fun q => by rw [hrt] at q; cases q) hlk
  exact ⟨_, locs, sp _ (retN X hx hrt (by simp) (hb hby hd) hr), hrun, hended, eh, N, ⟨_, rfl⟩, hW, hsame.mono hk hn⟩
theorem Wk.retB (H : Wk l Z y code mx ret R n0 W V) {z z' : Int32} (hz : z.toInt8.toInt32 = z') (ht : ret = some .byte) (hk : k ≤ R.cells) (hn : n ≤ R.slots) (hd : decode code pc = .ok (.ireturn, 1)) (r : W h k n pc Ls (.int z :: st)) : V (some (.int z')) h := by
  subst hz
  obtain ⟨p, e, s, m, args, below, meth, c, S0, hx, hby, hml, hown, hZ, hnm, hret, hlk, rfl, rfl⟩ := H
  obtain ⟨T, locs, X, eh, N, sp⟩ := r
  have hrt : meth.sig.returnType = some .byte := hret.trans ht
  obtain ⟨fs, hr, hrun, hended, hW, hsame⟩ := X.leave (v := some (.int (nar .byte z))) (fun q => by rw [hrt] at q; cases q) hlk
  exact ⟨_, locs, sp _ (retN X hx hrt (by simp) (hb hby hd) hr), hrun, hended, eh, N, ⟨_, rfl⟩, hW, hsame.mono hk hn⟩
theorem Wk.retC (H : Wk l Z y code mx ret R n0 W V) {z z' : Int32} (hz : z.toUInt32.toUInt16.toUInt32.toInt32 = z') (ht : ret = some .char) (hk : k ≤ R.cells) (hn : n ≤ R.slots) (hd : decode code pc = .ok (.ireturn, 1)) (r : W h k n pc Ls (.int z :: st)) : V (some (.int z')) h := by
  subst hz
  obtain ⟨p, e, s, m, args, below, meth, c, S0, hx, hby, hml, hown, hZ, hnm, hret, hlk, rfl, rfl⟩ := H
  obtain ⟨T, locs, X, eh, N, sp⟩ := r
  have hrt : meth.sig.returnType = some .char := hret.trans ht
  obtain ⟨fs, hr, hrun, hended, hW, hsame⟩ := X.leave (v := some (.int (nar .char z))) (fun q => by rw [hrt] at q; cases q) hlk
  exact ⟨_, locs, sp _ (retN X hx hrt (by simp) (hb hby hd) hr), hrun, hended, eh, N, ⟨_, rfl⟩, hW, hsame.mono hk hn⟩
theorem Wk.retR (H : Wk l Z y code mx ret R n0 W V) {v : Value} {t : FieldType} (ht : ret = some t) (htr : t.isReference = true) (hv : v.isRef = true) (hk : k ≤ R.cells) (hn : n ≤ R.slots) (hd : decode code pc = .ok (.areturn, 1)) (r : W h k n pc Ls (v :: st)) : V (some v) h :=
  H.retV ht (by cases v <;> simp [Value.isRef] at hv <;> cases t <;> simp [FieldType.isReference] at htr <;> rfl) (Or.inr (Or.inr (Or.inr (Or.inr ⟨rfl, htr, hv⟩)))) hk hn hd r
theorem Wk.retN (H : Wk l Z y code mx ret R n0 W V) (ht : ret = none) (hk : k ≤ R.cells) (hn : n ≤ R.slots) (hd : decode code pc = .ok (.return_, 1)) (r : W h k n pc Ls []) : V none h := by
  obtain ⟨p, e, s, m, args, below, meth, c, S0, hx, hby, hml, hown, hZ, hnm, hret, hlk, rfl, rfl⟩ := H
  obtain ⟨T, locs, X, eh, N, sp⟩ := r
  have hrt : meth.sig.returnType = none := hret.trans ht
  obtain ⟨fs, hr, hrun, hended, hW, hsame⟩ := X.leave (v := none) (fun _ => rfl) hlk
  exact ⟨_, locs, sp _ (X.returnOut hx hrt (hb hby hd) hr), hrun, hended, eh, N, ⟨_, rfl⟩, hW, hsame.mono hk hn⟩
end Steps
end Jvm.OwnW
namespace Jvm.OwnW
open Jvm Jvm.ClassFile Sem Op Lib Jvm.Free Jvm.Stand Jvm.LawKit Jvm.RoadKit Bundle
/-- an array at a, of components ty, that holds just vs -/
def Ary (Z : State) (h : Heap) (a : Addr) (ty : FieldType) (vs : List Value) : Prop := ∃ c : Cell, Arr Z h a c ty ∧ c.slots = vs.toArray
section Arrays
variable {l : Launch} {Z : State} {y : MethodName} {code : ByteArray} {mx : Nat} {ret : Option FieldType} {R : Room} {n0 : Nat} {W : WT} {V : VT} {h h' : Heap} {k n pc : Nat} {Ls : Array Slot} {st : List Value} {a0 : Array Value} {a b : Addr} {ty : FieldType} {vs : List Value} {ws : List Addr} {sl : Nat} {v : Value}
theorem Ary.lt (A : Ary Z h a ty vs) : a < h.size := by obtain ⟨c, A, -⟩ := A; exact A.lt
theorem Ary.ext (A : Ary Z h a ty vs) (E : Ext h h') : Ary Z h' a ty vs := by obtain ⟨c, A, q⟩ := A; exact ⟨c, A.ext E, q⟩
theorem Ary.other (A : Ary Z h b ty vs) (w : Wr h h' a sl v) (ne : b ≠ a) : Ary Z h' b ty vs := by obtain ⟨c, A, q⟩ := A; exact ⟨c, A.other w ne, q⟩
theorem Ary.keep (A : Ary Z h a ty vs) (K : Keep h h' ws) (q : a ∉ ws) : Ary Z h' a ty vs := by obtain ⟨c, A, r⟩ := A; exact ⟨c, ⟨K.2.1 a c A.1 q, A.2⟩, r⟩
theorem Ary.same (A : Ary Z h a ty vs) (w : Wr h h' a sl v) : Ary Z h' a ty (vs.set sl v) := by
  obtain ⟨c, A, q⟩ := A
  refine ⟨_, A.same w, ?_⟩
  show c.slots.setIfInBounds sl v = _
  rw [q, List.setIfInBounds_toArray]
theorem idx_ok {j : Int32} {i : Nat} (hj : j.toInt = i) : j.toNatClampNeg = i ∧ ¬ j < 0 := by
  refine ⟨?_, ?_⟩
  · show j.toInt.toNat = i
    rw [hj]; rfl
  · rw [Int32.lt_iff_toInt_lt, hj, Int32.toInt_zero]
    omega
theorem idx_in' {j : Int32} {i : Nat} (hj : j.toInt = i) {c : Cell} (q : c.slots = vs.toArray) (hi : i < vs.length) : ¬ (j < 0 ∨ c.slots.size ≤ j.toNatClampNeg) := by
  obtain ⟨h1, h2⟩ := idx_ok hj
  rw [h1, q, List.size_toArray]
  exact fun u => u.elim h2 (fun u => by omega)
theorem Wk.newA (H : Wk l Z y code mx ret R n0 W V) {aty : ArrayType} {z : Int32} {cap i : Nat} {d : Value} (hty : newarray.typeOf aty = ty) (hdv : defaultValue ty = d) (w : (Jvm.Cond.arrayClass ty).before a0 Z = true) (hz : z.toInt = i) (hcap : i ≤ cap) (hb8 : cap * 8 ≤ 536870912) (hc : k + 1 ≤ R.cells) (hl : n + cap ≤ R.slots) (hd : decode code pc = .ok (.newarray aty, 2)) (r : W h k n pc Ls (.int z :: st)) :
    ∃ h' a, a = h.size ∧ Ext h h' ∧ Ary Z h' a ty (List.replicate i d) ∧ W h' (k + 1) (n + cap) (pc + 2) Ls (.ref a :: st) := by
  obtain ⟨h1, h2⟩ := idx_ok hz
  obtain ⟨h', a, cA, e, E, A, r'⟩ := H.newP hty w h2 (by rw [h1]; exact hcap) hb8 hc hl hd r
  refine ⟨h', a, e, E, ⟨_, A, ?_⟩, r'⟩
  show Array.replicate z.toNatClampNeg (defaultValue ty) = _
  rw [h1, hdv, List.toArray_replicate]
theorem Wk.newAE (H : Wk l Z y code mx ret R n0 W V) {aty : ArrayType} {z : Int32} {cap i : Nat} {d : Value} {ad : String} (hty : newarray.typeOf aty = ty) (hdv : defaultValue ty = d) (had : "[" ++ ty.toString = ad) (w : (Jvm.Cond.arrayClass ty).before a0 Z = true) (hz : z.toInt = i) (hcap : i ≤ cap) (hb8 : cap * 8 ≤ 536870912) (hc : k + 1 ≤ R.cells) (hl : n + cap ≤ R.slots) (hd : decode code pc = .ok (.newarray aty, 2)) (r : W h k n pc Ls (.int z :: st)) :
    ∃ h' a, a = h.size ∧ Ext h h' ∧ Ary Z h' a ty (List.replicate i d) ∧ Exa Z h' a ad ∧ W h' (k + 1) (n + cap) (pc + 2) Ls (.ref a :: st) := by
  obtain ⟨h1, h2⟩ := idx_ok hz
  subst hty
  obtain ⟨p, e, s, m, args, below, meth, c, S0, hx, hby, hml, hown, hZ, hnm, hret, hlk, rfl, rfl⟩ := H
  obtain ⟨T, locs, X, eh, N, sp⟩ := r
  obtain ⟨T', h', cA, X', e', E', A', EX, q'⟩ := RoadKit.newPE X hx hZ w eh (g := mkF m pc Ls (.int z :: st)) rfl (hb hby hd) rfl h2 (by rw [h1]; exact hcap) hb8 hc hl had
  refine ⟨h', _, rfl, E', ⟨_, A', ?_⟩, EX, T', _, X', e', N, fun t u => sp t (q' t u)⟩
  show Array.replicate z.toNatClampNeg (defaultValue (newarray.typeOf aty)) = _
  rw [h1, hdv, List.toArray_replicate]
theorem Wk.cloneA (H : Wk l Z y code mx ret R n0 W V) {i w cap : Nat} {ad : String} (w1 : (Jvm.Cond.methodLink y.cls i ⟨ad, "clone", "()Ljava/lang/Object;"⟩).before a0 Z = true) (w2 : (Jvm.Cond.sameMethod ad "java/lang/Object" "clone" "()Ljava/lang/Object;").before a0 Z = true) (w3 : (Jvm.Cond.native ⟨"java/lang/Object", "clone", "()Ljava/lang/Object;"⟩).before a0 Z = true)
    (w4 : (Jvm.Cond.instanceMethod ⟨"java/lang/Object", "clone", "()Ljava/lang/Object;"⟩).before a0 Z = true) (w5 : (Jvm.Cond.selects ad ⟨ad, "clone", "()Ljava/lang/Object;"⟩ ⟨"java/lang/Object", "clone", "()Ljava/lang/Object;"⟩).before a0 Z = true) (w6 : (Jvm.Cond.castable ad "java/lang/Cloneable").before a0 Z = true)
    (A : Ary Z h a ty vs) (E : Exa Z h a ad) (hfit : ∀ v ∈ vs, fits ty v = true) (hsz : Ls.size = mx) (hf : 1 ≤ R.frames) (hw : (st.map fun v => v.category).sum ≤ w) (hl : w + 14 ≤ R.locals) (hcap : vs.length ≤ cap) (hc : k + 1 ≤ R.cells) (hsl : n + cap ≤ R.slots) (hd : decode code pc = .ok (.invokevirtual i, 3)) (r : W h k n pc Ls (.ref a :: st)) :
    ∃ h' b, b = h.size ∧ Ext h h' ∧ Ary Z h' b ty vs ∧ Exa Z h' b ad ∧ W h' (k + 1) (n + cap) (pc + 3) Ls (.ref b :: st) := by
  obtain ⟨p, e, s, m, args, below, meth, c, S0, hx, hby, hml, hown, hZ, hnm, hret, hlk, rfl, rfl⟩ := H
  obtain ⟨T, locs, X, eh, N, sp⟩ := r
  obtain ⟨cl, Ar, q⟩ := A
  have hF : FitC Z cl := fitC_of Ar (fun j hj v hv => hfit v (by rw [q, List.getElem?_toArray] at hv; exact List.mem_of_getElem? hv))
  obtain ⟨T', h', X', e', E', A', EX, q'⟩ := RoadKit.cloneA X hx hZ hown w1 w2 w3 w4 w5 w6 eh Ar E hF (g := mkF m pc Ls (.ref a :: st)) rfl (by rw [hml]; exact hsz) rfl (hb hby hd) hf (by show 2 * 0 + _ ≤ _; omega) hl (by rw [q, List.size_toArray]; exact hcap) hc hsl
  exact ⟨h', _, rfl, E', ⟨_, A', q⟩, EX, T', _, X', e', N, fun t u => sp t (q' t u)⟩
theorem Wk.lenA (H : Wk l Z y code mx ret R n0 W V) {z : Int32} (A : Ary Z h a ty vs) (hz : vs.length.toInt32 = z) (hd : decode code pc = .ok (.arraylength, 1)) (r : W h k n pc Ls (.ref a :: st)) : W h k n (pc + 1) Ls (.int z :: st) := by
  obtain ⟨c, A, q⟩ := A
  exact H.arrLen A (by rw [q, List.size_toArray]; exact hz) hd r
theorem Wk.ldI (H : Wk l Z y code mx ret R n0 W V) {j : Int32} {i : Nat} (A : Ary Z h a .int vs) (hj : j.toInt = i) (hv : vs[i]? = some v) (hd : decode code pc = .ok (.iaload, 1)) (r : W h k n pc Ls (.int j :: .ref a :: st)) : W h k n (pc + 1) Ls (v :: st) := by
  obtain ⟨c, A, q⟩ := A
  obtain ⟨h1, h2⟩ := idx_ok hj
  exact H.iaload A (idx_in' hj q (List.getElem?_eq_some_iff.mp hv).1) (by rw [h1, q, List.getElem?_toArray]; exact hv) hd r
theorem Wk.ldJ (H : Wk l Z y code mx ret R n0 W V) {j : Int32} {i : Nat} (A : Ary Z h a .long vs) (hj : j.toInt = i) (hv : vs[i]? = some v) (hd : decode code pc = .ok (.laload, 1)) (r : W h k n pc Ls (.int j :: .ref a :: st)) : W h k n (pc + 1) Ls (v :: st) := by
  obtain ⟨c, A, q⟩ := A
  obtain ⟨h1, h2⟩ := idx_ok hj
  exact H.laload A (idx_in' hj q (List.getElem?_eq_some_iff.mp hv).1) (by rw [h1, q, List.getElem?_toArray]; exact hv) hd r
theorem Wk.ldC (H : Wk l Z y code mx ret R n0 W V) {j : Int32} {i : Nat} (A : Ary Z h a .char vs) (hj : j.toInt = i) (hv : vs[i]? = some v) (hd : decode code pc = .ok (.caload, 1)) (r : W h k n pc Ls (.int j :: .ref a :: st)) : W h k n (pc + 1) Ls (v :: st) := by
  obtain ⟨c, A, q⟩ := A
  obtain ⟨h1, h2⟩ := idx_ok hj
  exact H.caload A (idx_in' hj q (List.getElem?_eq_some_iff.mp hv).1) (by rw [h1, q, List.getElem?_toArray]; exact hv) hd r
theorem Wk.ldB (H : Wk l Z y code mx ret R n0 W V) {j : Int32} {i : Nat} (A : Ary Z h a .byte vs) (hj : j.toInt = i) (hv : vs[i]? = some v) (hd : decode code pc = .ok (.baload, 1)) (r : W h k n pc Ls (.int j :: .ref a :: st)) : W h k n (pc + 1) Ls (v :: st) := by
  obtain ⟨c, A, q⟩ := A
  obtain ⟨h1, h2⟩ := idx_ok hj
  exact H.baload A (idx_in' hj q (List.getElem?_eq_some_iff.mp hv).1) (by rw [h1, q, List.getElem?_toArray]; exact hv) hd r
theorem Wk.putI (H : Wk l Z y code mx ret R n0 W V) {j : Int32} {i : Nat} {x : Int32} (A : Ary Z h a .int vs) (hj : j.toInt = i) (hi : i < vs.length) (hn0 : n0 ≤ a) (hd : decode code pc = .ok (.iastore, 1)) (r : W h k n pc Ls (.int x :: .int j :: .ref a :: st)) : ∃ h', Wr h h' a i (.int x) ∧ Ary Z h' a .int (vs.set i (.int x)) ∧ W h' k n (pc + 1) Ls st := by
  obtain ⟨h1, h2⟩ := idx_ok hj
  obtain ⟨c, A', q⟩ := id A
  obtain ⟨h', w, r'⟩ := H.stI A' (idx_in' hj q hi) hn0 hd r
  rw [h1] at w
  exact ⟨h', w, A.same w, r'⟩
theorem Wk.putJ (H : Wk l Z y code mx ret R n0 W V) {j : Int32} {i : Nat} {x : Int64} (A : Ary Z h a .long vs) (hj : j.toInt = i) (hi : i < vs.length) (hn0 : n0 ≤ a) (hd : decode code pc = .ok (.lastore, 1)) (r : W h k n pc Ls (.long x :: .int j :: .ref a :: st)) : ∃ h', Wr h h' a i (.long x) ∧ Ary Z h' a .long (vs.set i (.long x)) ∧ W h' k n (pc + 1) Ls st := by
  obtain ⟨h1, h2⟩ := idx_ok hj
  obtain ⟨c, A', q⟩ := id A
  obtain ⟨h', w, r'⟩ := H.stJ A' (idx_in' hj q hi) hn0 hd r
  rw [h1] at w
  exact ⟨h', w, A.same w, r'⟩
theorem Wk.putC (H : Wk l Z y code mx ret R n0 W V) {j : Int32} {i : Nat} {x : Int32} {z : Int32} (hz : x.toUInt32.toUInt16.toUInt32.toInt32 = z) (A : Ary Z h a .char vs) (hj : j.toInt = i) (hi : i < vs.length) (hn0 : n0 ≤ a) (hd : decode code pc = .ok (.castore, 1)) (r : W h k n pc Ls (.int x :: .int j :: .ref a :: st)) : ∃ h', Wr h h' a i (.int z) ∧ Ary Z h' a .char (vs.set i (.int z)) ∧ W h' k n (pc + 1) Ls st := by
  subst hz
  obtain ⟨h1, h2⟩ := idx_ok hj
  obtain ⟨c, A', q⟩ := id A
  obtain ⟨h', w, r'⟩ := H.stC A' (idx_in' hj q hi) hn0 hd r
  rw [h1] at w
  exact ⟨h', w, A.same w, r'⟩
theorem Wk.putB (H : Wk l Z y code mx ret R n0 W V) {j : Int32} {i : Nat} {x : Int32} {z : Int32} (hz : x.toInt8.toInt32 = z) (A : Ary Z h a .byte vs) (hj : j.toInt = i) (hi : i < vs.length) (hn0 : n0 ≤ a) (hd : decode code pc = .ok (.bastore, 1)) (r : W h k n pc Ls (.int x :: .int j :: .ref a :: st)) : ∃ h', Wr h h' a i (.int z) ∧ Ary Z h' a .byte (vs.set i (.int z)) ∧ W h' k n (pc + 1) Ls st := by
  subst hz
  obtain ⟨h1, h2⟩ := idx_ok hj
  obtain ⟨c, A', q⟩ := id A
  obtain ⟨h', w, r'⟩ := H.stB A' (idx_in' hj q hi) hn0 hd r
  rw [h1] at w
  exact ⟨h', w, A.same w, r'⟩
end Arrays
theorem ns_root {Z : State} {a0 : Array Value} {O K : String} {q : Nat} (w : (Jvm.Cond.noSuperclass O).before a0 Z = true) (wk : (Jvm.Cond.instantiable K q).before a0 Z = true) (hn : O ≠ K) : NS Z O K := by
  obtain ⟨c, k, h1, h2, h3, -, -⟩ := Cond.noSuperclass_spec w
  obtain ⟨t, k', g1, g2, -⟩ := Cond.instantiable_spec wk
  have ne := ids_ne h1 g1 hn
  refine ⟨c, t, h1, g1, fun fuel => ?_⟩
  cases fuel with
  | zero => rfl
  | succ f => simp [Vm.isSubclassAux, ne, h2, h3]
theorem ns_no {Z : State} {a0 : Array Value} {C S K : String} {q : Nat} (w : (Jvm.Cond.superclass C S).before a0 Z = true) (wk : (Jvm.Cond.instantiable K q).before a0 Z = true) (n : NS Z C K) (hn : C ≠ K) : ∃ c t, Z.vm.findClass C = some c ∧ Z.vm.findClass K = some t ∧ Z.vm.assignable c t = false := by
  obtain ⟨c, t, h0, g0, n3⟩ := n
  obtain ⟨p, k, kp, h1, h2, h3, h4, h5, -, h7⟩ := Cond.superclass_spec h0 w
  obtain ⟨t', k', g1, g2, g5, g7, -⟩ := Cond.instantiable_spec wk
  cases g0.symm.trans g1
  have ne := ids_ne h0 g0 hn
  have g8 : k'.isInterface = false := by cases hh : k'.isInterface <;> simp [hh] at g7 ⊢
  refine ⟨c, t, h0, g0, ?_⟩
  show Z.vm.assignableAux (255 + 1) c t = false
  simp [Vm.assignableAux, ne, h2, g2, h5, g5, g8, Vm.isSubclass, n3]
/-- (k & 0x7fffffff) % m as a natural -/
theorem own_modn (k : Int32) (m : Nat) (h0 : 0 < m) (hm : m < 2147483648) : ∃ i : Nat, i < m ∧ (k &&& (2147483647 : Int32)) % Int32.ofNat m = Int32.ofNat i := by
  have h1 : (k &&& (2147483647 : Int32)).toInt = k.toInt % (2 ^ 31 : Nat) := c_mask k _ 31 (by decide) (by decide)
  have hM : (Int32.ofNat m).toInt = (m : Int) := Int32.toInt_ofNat_of_lt (by omega)
  have h2 := (c_irem (k &&& (2147483647 : Int32)) (Int32.ofNat m) m hM).1 (by rw [h1]; omega)
  have h3 : 0 ≤ (k &&& (2147483647 : Int32)).toInt % (m : Int) := Int.emod_nonneg _ (by omega)
  have h4 : (k &&& (2147483647 : Int32)).toInt % (m : Int) < m := Int.emod_lt_of_pos _ (by omega)
  refine ⟨((k &&& (2147483647 : Int32)) % Int32.ofNat m).toInt.toNat, by omega, ?_⟩
  apply Int32.toInt_inj.mp
  rw [Int32.toInt_ofNat_of_lt (by omega)]
  omega
theorem own_ofNat {i : Nat} (hi : i < 2147483648) : (Int32.ofNat i).toInt = (i : Int) := Int32.toInt_ofNat_of_lt (by omega)
theorem own_ltN {i j : Nat} (hi : i < 2147483648) (hj : j < 2147483648) : Int32.ofNat i < Int32.ofNat j ↔ i < j := by
  rw [Int32.lt_iff_toInt_lt, own_ofNat hi, own_ofNat hj]
  omega
theorem own_eqN {i j : Nat} (hi : i < 2147483648) (hj : j < 2147483648) : Int32.ofNat i = Int32.ofNat j ↔ i = j := by
  rw [← Int32.toInt_inj, own_ofNat hi, own_ofNat hj]
  omega
theorem own_nn {n : Nat} (hn : n < 2147483648) : ¬ Int32.ofNat n < 0 := by
  rw [Int32.lt_iff_toInt_lt, own_ofNat hn, show (0 : Int32).toInt = 0 from rfl]
  omega
theorem own_pred {n : Nat} (hp : 0 < n) (hn : n < 2147483648) : (Int32.ofNat n - (1 : Int32)).toInt = ((n - 1 : Nat) : Int) := by
  have h2 := c_isub (Int32.ofNat n) (1 : Int32)
  have r2 := rng32 (Int32.ofNat n - (1 : Int32))
  rw [own_ofNat hn, show (1 : Int32).toInt = 1 from rfl] at h2
  omega
theorem own_succ (i : Nat) : Int32.ofNat i + (1 : Int32) = Int32.ofNat (i + 1) := (Int32.ofNat_add i 1).symm
end Jvm.OwnW

namespace Jvm.Pilot.@@N@@
open Jvm Jvm.ClassFile Sem Op Lib Jvm.Free Jvm.Stand Jvm.LawKit Jvm.RoadKit Bundle Jvm.OwnW Jvm.Pilot.@@N@@.Jvm.D
def own_wt (b : Int32) : Int32 := if (b &&& 255) < 128 then (if (b &&& 255) < 240 then 1 else if 247 < (b &&& 255) then 1 else 2) else if 191 < (b &&& 255) then (if (b &&& 255) < 240 then 1 else if 247 < (b &&& 255) then 1 else 2) else 0
def own_turn (b : Int32) : Int32 := (if (if (b &&& 255) &&& 192 = 128 then (1 : Int32) else 0) = 0 then (1 : Int32) else 0) + (if (if (b &&& 255) &&& 248 = 240 then (1 : Int32) else 0) = 0 then (0 : Int32) else 1)
theorem own_b256 (b : Int32) : ∃ u : Fin 256, b &&& 255 = Int32.ofNat u.val := by
  refine ⟨⟨(b &&& 255).toBitVec.toNat, ?_⟩, ?_⟩
  · have : (b &&& 255).toBitVec.toNat ≤ 255 := by
      simp only [Int32.toBitVec_and, BitVec.toNat_and]
      exact Nat.and_le_right
    omega
  · apply Int32.toBitVec_inj.mp
    show _ = BitVec.ofNat 32 _
    rw [BitVec.ofNat_toNat]; simp
theorem own_tw (b : Int32) : own_turn b = own_wt b := by
  obtain ⟨u, hu⟩ := own_b256 b
  unfold own_turn own_wt
  rw [hu]
  revert u
  have : ∀ u : Fin 256, (if (if Int32.ofNat u.val &&& 192 = 128 then (1 : Int32) else 0) = 0 then (1 : Int32) else 0) + (if (if Int32.ofNat u.val &&& 248 = 240 then (1 : Int32) else 0) = 0 then (0 : Int32) else 1) = if Int32.ofNat u.val < 128 then (if Int32.ofNat u.val < 240 then 1 else if 247 < Int32.ofNat u.val then 1 else 2) else if 191 < Int32.ofNat u.val then (if Int32.ofNat u.val < 240 then 1 else if 247 < Int32.ofNat u.val then 1 else 2) else 0 := by decide +kernel
  intro u _
  exact this u
/-- k weights from place i on -/
def own_sum (f : Nat → Int32) : Nat → Nat → Int32
  | 0, _ => 0
  | k + 1, i => f i + own_sum f k (i + 1)
def own_tm (f : Nat → Int32) (i p e : Nat) : Int32 := if i < p then 0 else if i < e then f i else 0
theorem own_total (f : Nat → Int32) (p e : Nat) (hp : p < 5) (he : e < 5) : (0 : Int32) + own_sum f (e - p) p = ((own_tm f 0 p e + own_tm f 1 p e) + own_tm f 2 p e) + own_tm f 3 p e := by
  match p, hp, e, he with
  | 0, _, 0, _ => simp [own_sum, own_tm, Int32.add_assoc]
  | 0, _, 1, _ => simp [own_sum, own_tm, Int32.add_assoc]
  | 0, _, 2, _ => simp [own_sum, own_tm, Int32.add_assoc]
  | 0, _, 3, _ => simp [own_sum, own_tm, Int32.add_assoc]
  | 0, _, 4, _ => simp [own_sum, own_tm, Int32.add_assoc]
  | 1, _, 0, _ => simp [own_sum, own_tm, Int32.add_assoc]
  | 1, _, 1, _ => simp [own_sum, own_tm, Int32.add_assoc]
  | 1, _, 2, _ => simp [own_sum, own_tm, Int32.add_assoc]
  | 1, _, 3, _ => simp [own_sum, own_tm, Int32.add_assoc]
  | 1, _, 4, _ => simp [own_sum, own_tm, Int32.add_assoc]
  | 2, _, 0, _ => simp [own_sum, own_tm, Int32.add_assoc]
  | 2, _, 1, _ => simp [own_sum, own_tm, Int32.add_assoc]
  | 2, _, 2, _ => simp [own_sum, own_tm, Int32.add_assoc]
  | 2, _, 3, _ => simp [own_sum, own_tm, Int32.add_assoc]
  | 2, _, 4, _ => simp [own_sum, own_tm, Int32.add_assoc]
  | 3, _, 0, _ => simp [own_sum, own_tm, Int32.add_assoc]
  | 3, _, 1, _ => simp [own_sum, own_tm, Int32.add_assoc]
  | 3, _, 2, _ => simp [own_sum, own_tm, Int32.add_assoc]
  | 3, _, 3, _ => simp [own_sum, own_tm, Int32.add_assoc]
  | 3, _, 4, _ => simp [own_sum, own_tm, Int32.add_assoc]
  | 4, _, 0, _ => simp [own_sum, own_tm, Int32.add_assoc]
  | 4, _, 1, _ => simp [own_sum, own_tm, Int32.add_assoc]
  | 4, _, 2, _ => simp [own_sum, own_tm, Int32.add_assoc]
  | 4, _, 3, _ => simp [own_sum, own_tm, Int32.add_assoc]
  | 4, _, 4, _ => simp [own_sum, own_tm, Int32.add_assoc]
def own_at (vs : List Value) (bt : Nat → Int32) : Prop := ∀ i, i < 4 → vs[i]? = some (.int (bt i))
theorem d1_0 : decode method_3_code 0 = .ok (.iload_n 1, 1) := by decide +kernel
theorem d1_1 : decode method_3_code 1 = .ok (.iload_n 2, 1) := by decide +kernel
theorem d1_2 : decode method_3_code 2 = .ok (.if_icmp .lt 8, 3) := by decide +kernel
theorem d1_5 : decode method_3_code 5 = .ok (.iload_n 1, 1) := by decide +kernel
theorem d1_6 : decode method_3_code 6 = .ok (.iload_n 3, 1) := by decide +kernel
theorem d1_7 : decode method_3_code 7 = .ok (.if_icmp .lt 5, 3) := by decide +kernel
theorem d1_10 : decode method_3_code 10 = .ok (.iconst 0, 1) := by decide +kernel
theorem d1_11 : decode method_3_code 11 = .ok (.ireturn, 1) := by decide +kernel
theorem d1_12 : decode method_3_code 12 = .ok (.aload_n 0, 1) := by decide +kernel
theorem d1_13 : decode method_3_code 13 = .ok (.iload_n 1, 1) := by decide +kernel
theorem d1_14 : decode method_3_code 14 = .ok (.baload, 1) := by decide +kernel
theorem d1_15 : decode method_3_code 15 = .ok (.invokestatic 20, 3) := by decide +kernel
theorem d1_18 : decode method_3_code 18 = .ok (.ireturn, 1) := by decide +kernel
theorem d2_0 : decode prog_47_method_10_code 0 = .ok (.iconst 0, 1) := by decide +kernel
theorem d2_1 : decode prog_47_method_10_code 1 = .ok (.istore_n 3, 1) := by decide +kernel
theorem d2_2 : decode prog_47_method_10_code 2 = .ok (.iload_n 1, 1) := by decide +kernel
theorem d2_3 : decode prog_47_method_10_code 3 = .ok (.istore 4, 2) := by decide +kernel
theorem d2_5 : decode prog_47_method_10_code 5 = .ok (.iload 4, 2) := by decide +kernel
theorem d2_7 : decode prog_47_method_10_code 7 = .ok (.iload_n 2, 1) := by decide +kernel
theorem d2_8 : decode prog_47_method_10_code 8 = .ok (.if_icmp .ge 81, 3) := by decide +kernel
theorem d2_11 : decode prog_47_method_10_code 11 = .ok (.aload_n 0, 1) := by decide +kernel
theorem d2_12 : decode prog_47_method_10_code 12 = .ok (.iload 4, 2) := by decide +kernel
theorem d2_14 : decode prog_47_method_10_code 14 = .ok (.baload, 1) := by decide +kernel
theorem d2_15 : decode prog_47_method_10_code 15 = .ok (.sipush 255, 3) := by decide +kernel
theorem d2_18 : decode prog_47_method_10_code 18 = .ok (.iand, 1) := by decide +kernel
theorem d2_19 : decode prog_47_method_10_code 19 = .ok (.istore 5, 2) := by decide +kernel
theorem d2_21 : decode prog_47_method_10_code 21 = .ok (.iload 5, 2) := by decide +kernel
theorem d2_23 : decode prog_47_method_10_code 23 = .ok (.sipush 192, 3) := by decide +kernel
theorem d2_26 : decode prog_47_method_10_code 26 = .ok (.iand, 1) := by decide +kernel
theorem d2_27 : decode prog_47_method_10_code 27 = .ok (.sipush 128, 3) := by decide +kernel
theorem d2_30 : decode prog_47_method_10_code 30 = .ok (.if_icmp .ne 7, 3) := by decide +kernel
theorem d2_33 : decode prog_47_method_10_code 33 = .ok (.iconst 1, 1) := by decide +kernel
theorem d2_34 : decode prog_47_method_10_code 34 = .ok (.goto 4, 3) := by decide +kernel
theorem d2_37 : decode prog_47_method_10_code 37 = .ok (.iconst 0, 1) := by decide +kernel
theorem d2_38 : decode prog_47_method_10_code 38 = .ok (.istore 6, 2) := by decide +kernel
theorem d2_40 : decode prog_47_method_10_code 40 = .ok (.iload 5, 2) := by decide +kernel
theorem d2_42 : decode prog_47_method_10_code 42 = .ok (.sipush 248, 3) := by decide +kernel
theorem d2_45 : decode prog_47_method_10_code 45 = .ok (.iand, 1) := by decide +kernel
theorem d2_46 : decode prog_47_method_10_code 46 = .ok (.sipush 240, 3) := by decide +kernel
theorem d2_49 : decode prog_47_method_10_code 49 = .ok (.if_icmp .ne 7, 3) := by decide +kernel
theorem d2_52 : decode prog_47_method_10_code 52 = .ok (.iconst 1, 1) := by decide +kernel
theorem d2_53 : decode prog_47_method_10_code 53 = .ok (.goto 4, 3) := by decide +kernel
theorem d2_56 : decode prog_47_method_10_code 56 = .ok (.iconst 0, 1) := by decide +kernel
theorem d2_57 : decode prog_47_method_10_code 57 = .ok (.istore 7, 2) := by decide +kernel
theorem d2_59 : decode prog_47_method_10_code 59 = .ok (.iload_n 3, 1) := by decide +kernel
theorem d2_60 : decode prog_47_method_10_code 60 = .ok (.iload 6, 2) := by decide +kernel
theorem d2_62 : decode prog_47_method_10_code 62 = .ok (.ifCond .eq 7, 3) := by decide +kernel
theorem d2_65 : decode prog_47_method_10_code 65 = .ok (.iconst 0, 1) := by decide +kernel
theorem d2_66 : decode prog_47_method_10_code 66 = .ok (.goto 4, 3) := by decide +kernel
theorem d2_69 : decode prog_47_method_10_code 69 = .ok (.iconst 1, 1) := by decide +kernel
theorem d2_70 : decode prog_47_method_10_code 70 = .ok (.iload 7, 2) := by decide +kernel
theorem d2_72 : decode prog_47_method_10_code 72 = .ok (.ifCond .eq 7, 3) := by decide +kernel
theorem d2_75 : decode prog_47_method_10_code 75 = .ok (.iconst 1, 1) := by decide +kernel
theorem d2_76 : decode prog_47_method_10_code 76 = .ok (.goto 4, 3) := by decide +kernel
theorem d2_79 : decode prog_47_method_10_code 79 = .ok (.iconst 0, 1) := by decide +kernel
theorem d2_80 : decode prog_47_method_10_code 80 = .ok (.iadd, 1) := by decide +kernel
theorem d2_81 : decode prog_47_method_10_code 81 = .ok (.iadd, 1) := by decide +kernel
theorem d2_82 : decode prog_47_method_10_code 82 = .ok (.istore_n 3, 1) := by decide +kernel
theorem d2_83 : decode prog_47_method_10_code 83 = .ok (.iinc 4 1, 3) := by decide +kernel
theorem d2_86 : decode prog_47_method_10_code 86 = .ok (.goto (-81), 3) := by decide +kernel
theorem d2_89 : decode prog_47_method_10_code 89 = .ok (.iload_n 3, 1) := by decide +kernel
theorem d2_90 : decode prog_47_method_10_code 90 = .ok (.ireturn, 1) := by decide +kernel
theorem d3_0 : decode method_4_code 0 = .ok (.iload_n 0, 1) := by decide +kernel
theorem d3_1 : decode method_4_code 1 = .ok (.sipush 255, 3) := by decide +kernel
theorem d3_4 : decode method_4_code 4 = .ok (.iand, 1) := by decide +kernel
theorem d3_5 : decode method_4_code 5 = .ok (.istore_n 1, 1) := by decide +kernel
theorem d3_6 : decode method_4_code 6 = .ok (.iload_n 1, 1) := by decide +kernel
theorem d3_7 : decode method_4_code 7 = .ok (.sipush 128, 3) := by decide +kernel
theorem d3_10 : decode method_4_code 10 = .ok (.if_icmp .lt 12, 3) := by decide +kernel
theorem d3_13 : decode method_4_code 13 = .ok (.iload_n 1, 1) := by decide +kernel
theorem d3_14 : decode method_4_code 14 = .ok (.sipush 191, 3) := by decide +kernel
theorem d3_17 : decode method_4_code 17 = .ok (.if_icmp .gt 5, 3) := by decide +kernel
theorem d3_20 : decode method_4_code 20 = .ok (.iconst 0, 1) := by decide +kernel
theorem d3_21 : decode method_4_code 21 = .ok (.ireturn, 1) := by decide +kernel
theorem d3_22 : decode method_4_code 22 = .ok (.iload_n 1, 1) := by decide +kernel
theorem d3_23 : decode method_4_code 23 = .ok (.sipush 240, 3) := by decide +kernel
theorem d3_26 : decode method_4_code 26 = .ok (.if_icmp .lt 12, 3) := by decide +kernel
theorem d3_29 : decode method_4_code 29 = .ok (.iload_n 1, 1) := by decide +kernel
theorem d3_30 : decode method_4_code 30 = .ok (.sipush 247, 3) := by decide +kernel
theorem d3_33 : decode method_4_code 33 = .ok (.if_icmp .gt 5, 3) := by decide +kernel
theorem d3_36 : decode method_4_code 36 = .ok (.iconst 2, 1) := by decide +kernel
theorem d3_37 : decode method_4_code 37 = .ok (.ireturn, 1) := by decide +kernel
theorem d3_38 : decode method_4_code 38 = .ok (.iconst 1, 1) := by decide +kernel
theorem d3_39 : decode method_4_code 39 = .ok (.ireturn, 1) := by decide +kernel
theorem pd_0 : parseMethodDescriptor "(B)I" = some ⟨[.byte], some .int⟩ := by decide +kernel
theorem pd_1 : parseMethodDescriptor "([BIII)I" = some ⟨[(.array .byte), .int, .int, .int], some .int⟩ := by decide +kernel
theorem pd_2 : parseMethodDescriptor "([BII)I" = some ⟨[(.array .byte), .int, .int], some .int⟩ := by decide +kernel
theorem pn_0 : plainName "com/example/stablemate/stablemate/layout/LayoutTextCharactersPinLaw" = true := by first | (simp [plainName, overriddenIn]; done) | decide +kernel
theorem pn_1 : plainName "com/example/stablemate/stablemate/layout/LayoutText" = true := by first | (simp [plainName, overriddenIn]; done) | decide +kernel
theorem ef_w (x0 : Int32) (m : MethodId) : entryFrame m #[(.int x0)] 2 = mkF m 0 #[.val (.int x0), .unset] [] := by first | (simp [entryFrame, mkF, argsToLocals, Value.category]; done) | rfl
theorem ef_t (x0 : Addr) (x1 : Int32) (x2 : Int32) (x3 : Int32) (m : MethodId) : entryFrame m #[(.ref x0), (.int x1), (.int x2), (.int x3)] 4 = mkF m 0 #[.val (.ref x0), .val (.int x1), .val (.int x2), .val (.int x3)] [] := by first | (simp [entryFrame, mkF, argsToLocals, Value.category]; done) | rfl
theorem ef_c (x0 : Addr) (x1 : Int32) (x2 : Int32) (m : MethodId) : entryFrame m #[(.ref x0), (.int x1), (.int x2)] 8 = mkF m 0 #[.val (.ref x0), .val (.int x1), .val (.int x2), .unset, .unset, .unset, .unset, .unset] [] := by first | (simp [entryFrame, mkF, argsToLocals, Value.category]; done) | rfl
theorem ef_0 (x0 : Int32) (x1 : Int32) (x2 : Int32) (m : MethodId) : entryFrame m #[(.int x0), (.int x1), (.int x2)] maxLocals = mkF m 0 #[.val (.int x0), .val (.int x1), .val (.int x2), .unset, .unset, .unset, .unset] [] := by first | (simp [entryFrame, mkF, argsToLocals, Value.category, maxLocals]; done) | rfl
set_option maxRecDepth 65536 in
set_option maxHeartbeats 40000000 in
theorem weight_ct {l : Launch} {Z : State} {a0 : Array Value} (hw : ∀ d ∈ tables_1, d.before a0 Z = true) (b : Int32) (h0 : Heap) (n0 : Nat) :
    Ct l Z (⟨"com/example/stablemate/stablemate/layout/LayoutTextCharactersPinLaw", "weight", "(B)I"⟩ : MethodName) method_4_code 2 (some .int) ({ frames := 0, cells := 0, slots := 0, locals := 0 } : Room) n0 #[(.int b)] h0 (fun v h' => v = some (.int (own_wt b)) ∧ h' = h0) := by
  refine Ct.of (plainFor_of_name pn_0) (fun m => ef_w b m) ?_
  intro W V H r0
  have r1 : W h0 0 0 6 #[.val (.int b), .val (.int (b &&& (255 : Int32)))] [] := (H.istoreN d3_5 (H.iand d3_4 (H.sipush (z := (255 : Int32)) d3_1 (H.iloadN d3_0 r0 rfl) rfl)) rfl)
  have r2 : W h0 0 0 10 #[.val (.int b), .val (.int (b &&& (255 : Int32)))] [(.int (128 : Int32)), (.int (b &&& (255 : Int32)))] := (H.sipush (z := (128 : Int32)) d3_7 (H.iloadN d3_6 r1 rfl) rfl)
  by_cases h1 : (b &&& (255 : Int32)) < (128 : Int32)
  · have r3 : W h0 0 0 22 #[.val (.int b), .val (.int (b &&& (255 : Int32)))] [] := (H.icmpYes (pc' := 22) d3_10 r2 (by decide) (by decide) (tlt h1).1)
    have r5 : W h0 0 0 26 #[.val (.int b), .val (.int (b &&& (255 : Int32)))] [(.int (240 : Int32)), (.int (b &&& (255 : Int32)))] := (H.sipush (z := (240 : Int32)) d3_23 (H.iloadN d3_22 r3 rfl) rfl)
    by_cases h3a : (b &&& (255 : Int32)) < (240 : Int32)
    · have r6 : W h0 0 0 38 #[.val (.int b), .val (.int (b &&& (255 : Int32)))] [] := (H.icmpYes (pc' := 38) d3_26 r5 (by decide) (by decide) (tlt h3a).1)
      have r8 : W h0 0 0 39 #[.val (.int b), .val (.int (b &&& (255 : Int32)))] [(.int (1 : Int32))] := (H.iconst (z := (1 : Int32)) d3_38 r6 rfl)
      exact ⟨_, _, H.retI rfl (Nat.le_refl _) (Nat.le_refl _) d3_39 r8, by rw [own_wt, if_pos h1, if_pos h3a], rfl⟩
    · have r7 : W h0 0 0 29 #[.val (.int b), .val (.int (b &&& (255 : Int32)))] [] := (H.icmpNo d3_26 r5 (flt h3a).1)
      have r9 : W h0 0 0 33 #[.val (.int b), .val (.int (b &&& (255 : Int32)))] [(.int (247 : Int32)), (.int (b &&& (255 : Int32)))] := (H.sipush (z := (247 : Int32)) d3_30 (H.iloadN d3_29 r7 rfl) rfl)
      by_cases h4a : (247 : Int32) < (b &&& (255 : Int32))
      · have r10 : W h0 0 0 38 #[.val (.int b), .val (.int (b &&& (255 : Int32)))] [] := (H.icmpYes (pc' := 38) d3_33 r9 (by decide) (by decide) (tlt h4a).2.2.1)
        have r12 : W h0 0 0 39 #[.val (.int b), .val (.int (b &&& (255 : Int32)))] [(.int (1 : Int32))] := (H.iconst (z := (1 : Int32)) d3_38 r10 rfl)
        exact ⟨_, _, H.retI rfl (Nat.le_refl _) (Nat.le_refl _) d3_39 r12, by rw [own_wt, if_pos h1, if_neg h3a, if_pos h4a], rfl⟩
      · have r11 : W h0 0 0 36 #[.val (.int b), .val (.int (b &&& (255 : Int32)))] [] := (H.icmpNo d3_33 r9 (flt h4a).2.2.1)
        have r13 : W h0 0 0 37 #[.val (.int b), .val (.int (b &&& (255 : Int32)))] [(.int (2 : Int32))] := (H.iconst (z := (2 : Int32)) d3_36 r11 rfl)
        exact ⟨_, _, H.retI rfl (Nat.le_refl _) (Nat.le_refl _) d3_37 r13, by rw [own_wt, if_pos h1, if_neg h3a, if_neg h4a], rfl⟩
  · have r4 : W h0 0 0 13 #[.val (.int b), .val (.int (b &&& (255 : Int32)))] [] := (H.icmpNo d3_10 r2 (flt h1).1)
    have r14 : W h0 0 0 17 #[.val (.int b), .val (.int (b &&& (255 : Int32)))] [(.int (191 : Int32)), (.int (b &&& (255 : Int32)))] := (H.sipush (z := (191 : Int32)) d3_14 (H.iloadN d3_13 r4 rfl) rfl)
    by_cases h2 : (191 : Int32) < (b &&& (255 : Int32))
    · have r15 : W h0 0 0 22 #[.val (.int b), .val (.int (b &&& (255 : Int32)))] [] := (H.icmpYes (pc' := 22) d3_17 r14 (by decide) (by decide) (tlt h2).2.2.1)
      have r17 : W h0 0 0 26 #[.val (.int b), .val (.int (b &&& (255 : Int32)))] [(.int (240 : Int32)), (.int (b &&& (255 : Int32)))] := (H.sipush (z := (240 : Int32)) d3_23 (H.iloadN d3_22 r15 rfl) rfl)
      by_cases h3b : (b &&& (255 : Int32)) < (240 : Int32)
      · have r18 : W h0 0 0 38 #[.val (.int b), .val (.int (b &&& (255 : Int32)))] [] := (H.icmpYes (pc' := 38) d3_26 r17 (by decide) (by decide) (tlt h3b).1)
        have r20 : W h0 0 0 39 #[.val (.int b), .val (.int (b &&& (255 : Int32)))] [(.int (1 : Int32))] := (H.iconst (z := (1 : Int32)) d3_38 r18 rfl)
        exact ⟨_, _, H.retI rfl (Nat.le_refl _) (Nat.le_refl _) d3_39 r20, by rw [own_wt, if_neg h1, if_pos h2, if_pos h3b], rfl⟩
      · have r19 : W h0 0 0 29 #[.val (.int b), .val (.int (b &&& (255 : Int32)))] [] := (H.icmpNo d3_26 r17 (flt h3b).1)
        have r21 : W h0 0 0 33 #[.val (.int b), .val (.int (b &&& (255 : Int32)))] [(.int (247 : Int32)), (.int (b &&& (255 : Int32)))] := (H.sipush (z := (247 : Int32)) d3_30 (H.iloadN d3_29 r19 rfl) rfl)
        by_cases h4b : (247 : Int32) < (b &&& (255 : Int32))
        · have r22 : W h0 0 0 38 #[.val (.int b), .val (.int (b &&& (255 : Int32)))] [] := (H.icmpYes (pc' := 38) d3_33 r21 (by decide) (by decide) (tlt h4b).2.2.1)
          have r24 : W h0 0 0 39 #[.val (.int b), .val (.int (b &&& (255 : Int32)))] [(.int (1 : Int32))] := (H.iconst (z := (1 : Int32)) d3_38 r22 rfl)
          exact ⟨_, _, H.retI rfl (Nat.le_refl _) (Nat.le_refl _) d3_39 r24, by rw [own_wt, if_neg h1, if_pos h2, if_neg h3b, if_pos h4b], rfl⟩
        · have r23 : W h0 0 0 36 #[.val (.int b), .val (.int (b &&& (255 : Int32)))] [] := (H.icmpNo d3_33 r21 (flt h4b).2.2.1)
          have r25 : W h0 0 0 37 #[.val (.int b), .val (.int (b &&& (255 : Int32)))] [(.int (2 : Int32))] := (H.iconst (z := (2 : Int32)) d3_36 r23 rfl)
          exact ⟨_, _, H.retI rfl (Nat.le_refl _) (Nat.le_refl _) d3_37 r25, by rw [own_wt, if_neg h1, if_pos h2, if_neg h3b, if_neg h4b], rfl⟩
    · have r16 : W h0 0 0 20 #[.val (.int b), .val (.int (b &&& (255 : Int32)))] [] := (H.icmpNo d3_17 r14 (flt h2).2.2.1)
      have r26 : W h0 0 0 21 #[.val (.int b), .val (.int (b &&& (255 : Int32)))] [(.int (0 : Int32))] := (H.iconst (z := (0 : Int32)) d3_20 r16 rfl)
      exact ⟨_, _, H.retI rfl (Nat.le_refl _) (Nat.le_refl _) d3_21 r26, by rw [own_wt, if_neg h1, if_neg h2], rfl⟩
set_option maxRecDepth 65536 in
set_option maxHeartbeats 40000000 in
theorem term_ct {l : Launch} {Z : State} {a0 : Array Value} (hw : ∀ d ∈ tables_1, d.before a0 Z = true) {vs : List Value} {bt : Nat → Int32} (a : Addr) (i p e : Nat) (hi : i < 4) (hp : p < 5) (he : e < 5) (hbt : own_at vs bt) (h0 : Heap) (n0 : Nat) (A0 : Ary Z h0 a .byte vs) :
    Ct l Z (⟨"com/example/stablemate/stablemate/layout/LayoutTextCharactersPinLaw", "term", "([BIII)I"⟩ : MethodName) method_3_code 4 (some .int) ({ frames := 1, cells := 0, slots := 0, locals := 20 } : Room) n0 #[(.ref a), (.int (Int32.ofNat i)), (.int (Int32.ofNat p)), (.int (Int32.ofNat e))] h0 (fun v h' => v = some (.int (own_tm (fun j => own_wt (bt j)) i p e)) ∧ h' = h0) := by
  refine Ct.of (plainFor_of_name pn_0) (fun m => ef_t a (Int32.ofNat i) (Int32.ofNat p) (Int32.ofNat e) m) ?_
  intro W V H r0
  have r27 : W h0 0 0 2 #[.val (.ref a), .val (.int (Int32.ofNat i)), .val (.int (Int32.ofNat p)), .val (.int (Int32.ofNat e))] [(.int (Int32.ofNat p)), (.int (Int32.ofNat i))] := (H.iloadN d1_1 (H.iloadN d1_0 r0 rfl) rfl)
  by_cases h1 : (Int32.ofNat i) < (Int32.ofNat p)
  · have r28 : W h0 0 0 10 #[.val (.ref a), .val (.int (Int32.ofNat i)), .val (.int (Int32.ofNat p)), .val (.int (Int32.ofNat e))] [] := (H.icmpYes (pc' := 10) d1_2 r27 (by decide) (by decide) (tlt h1).1)
    have r30 : W h0 0 0 11 #[.val (.ref a), .val (.int (Int32.ofNat i)), .val (.int (Int32.ofNat p)), .val (.int (Int32.ofNat e))] [(.int (0 : Int32))] := (H.iconst (z := (0 : Int32)) d1_10 r28 rfl)
    exact ⟨_, _, H.retI rfl (Nat.le_refl _) (Nat.le_refl _) d1_11 r30, by rw [own_tm, if_pos ((own_ltN (by omega) (by omega)).mp h1)], rfl⟩
  · have r29 : W h0 0 0 5 #[.val (.ref a), .val (.int (Int32.ofNat i)), .val (.int (Int32.ofNat p)), .val (.int (Int32.ofNat e))] [] := (H.icmpNo d1_2 r27 (flt h1).1)
    have r31 : W h0 0 0 7 #[.val (.ref a), .val (.int (Int32.ofNat i)), .val (.int (Int32.ofNat p)), .val (.int (Int32.ofNat e))] [(.int (Int32.ofNat e)), (.int (Int32.ofNat i))] := (H.iloadN d1_6 (H.iloadN d1_5 r29 rfl) rfl)
    by_cases h2 : (Int32.ofNat i) < (Int32.ofNat e)
    · have r32 : W h0 0 0 12 #[.val (.ref a), .val (.int (Int32.ofNat i)), .val (.int (Int32.ofNat p)), .val (.int (Int32.ofNat e))] [] := (H.icmpYes (pc' := 12) d1_7 r31 (by decide) (by decide) (tlt h2).1)
      have r34 : W h0 0 0 14 #[.val (.ref a), .val (.int (Int32.ofNat i)), .val (.int (Int32.ofNat p)), .val (.int (Int32.ofNat e))] [(.int (Int32.ofNat i)), (.ref a)] := (H.iloadN d1_13 (H.aloadN d1_12 r32 rfl rfl) rfl)
      have r35 : W h0 0 0 15 #[.val (.ref a), .val (.int (Int32.ofNat i)), .val (.int (Int32.ofNat p)), .val (.int (Int32.ofNat e))] [(.int (bt i))] := H.ldB (i := i) (v := (.int (bt i))) A0 (own_ofNat (by omega)) (hbt i hi) d1_14 r34
      have r36 : W h0 0 0 18 #[.val (.ref a), .val (.int (Int32.ofNat i)), .val (.int (Int32.ofNat p)), .val (.int (Int32.ofNat e))] [(.int (own_wt (bt i)))] := H.callSP (w := 0) (argsL := [(.int (bt i))]) (rest := []) (hw _ (List.mem_of_getElem? (i := 10) rfl)) (hw _ (List.mem_of_getElem? (i := 11) rfl)) (hw _ (List.mem_of_getElem? (i := 4) rfl)) (hw _ (List.mem_of_getElem? (i := 12) rfl)) (by decide) pd_0 (by decide) (by decide) (by decide) (by decide) (weight_ct hw (bt i) h0 n0) rfl rfl (Nat.le_of_eq rfl) rfl d1_15 r35
      exact ⟨_, _, H.retI rfl (Nat.le_refl _) (Nat.le_refl _) d1_18 r36, by rw [own_tm, if_neg (fun q => h1 ((own_ltN (by omega) (by omega)).mpr q)), if_pos ((own_ltN (by omega) (by omega)).mp h2)], rfl⟩
    · have r33 : W h0 0 0 10 #[.val (.ref a), .val (.int (Int32.ofNat i)), .val (.int (Int32.ofNat p)), .val (.int (Int32.ofNat e))] [] := (H.icmpNo d1_7 r31 (flt h2).1)
      have r37 : W h0 0 0 11 #[.val (.ref a), .val (.int (Int32.ofNat i)), .val (.int (Int32.ofNat p)), .val (.int (Int32.ofNat e))] [(.int (0 : Int32))] := (H.iconst (z := (0 : Int32)) d1_10 r33 rfl)
      exact ⟨_, _, H.retI rfl (Nat.le_refl _) (Nat.le_refl _) d1_11 r37, by rw [own_tm, if_neg (fun q => h1 ((own_ltN (by omega) (by omega)).mpr q)), if_neg (fun q => h2 ((own_ltN (by omega) (by omega)).mpr q))], rfl⟩
theorem own_acc (S b T : Int32) : (S + own_turn b) + T = S + (own_wt b + T) := by rw [own_tw, Int32.add_assoc]
set_option maxRecDepth 65536 in
set_option maxHeartbeats 40000000 in
theorem chars_loop {l : Launch} {Z : State} {y : MethodName} {mx : Nat} {ret : Option FieldType} {R : Room} {n0 : Nat} {W : WT} {V : VT} {vs : List Value} {bt : Nat → Int32} {a : Addr} {h0 : Heap} (H : Wk l Z y prog_47_method_10_code mx ret R n0 W V) (p e : Nat) (he : e < 5) (hbt : own_at vs bt) (A0 : Ary Z h0 a .byte vs) :
    ∀ (k i : Nat) (S : Int32) (s5 s6 s7 : Slot), e - i = k → i < 5 → One s5 → One s6 → One s7 → W h0 0 0 5 #[.val (.ref a), .val (.int (Int32.ofNat p)), .val (.int (Int32.ofNat e)), .val (.int S), .val (.int (Int32.ofNat i)), s5, s6, s7] [] → ∃ (j : Int32) (t5 t6 t7 : Slot), W h0 0 0 89 #[.val (.ref a), .val (.int (Int32.ofNat p)), .val (.int (Int32.ofNat e)), .val (.int (S + own_sum (fun j => own_wt (bt j)) k i)), .val (.int j), t5, t6, t7] [] := by
  intro k
  induction k with
  | zero =>
    intro i S s5 s6 s7 hk hi o5 o6 o7 r0
    have hge : ¬ Int32.ofNat i < Int32.ofNat e := fun q => absurd ((own_ltN (by omega) (by omega)).mp q) (by omega)
    have r38 : W h0 0 0 89 #[.val (.ref a), .val (.int (Int32.ofNat p)), .val (.int (Int32.ofNat e)), .val (.int S), .val (.int (Int32.ofNat i)), s5, s6, s7] [] := (H.icmpYes (pc' := 89) d2_8 (H.iloadN d2_7 (H.iload d2_5 r0 rfl) rfl) (by decide) (by decide) (flt hge).2.1)
    rw [own_sum, Int32.add_zero]
    exact ⟨_, _, _, _, r38⟩
  | succ k ih =>
    intro i S s5 s6 s7 hk hi o5 o6 o7 r0
    have hlt : Int32.ofNat i < Int32.ofNat e := (own_ltN (by omega) (by omega)).mpr (by omega)
    have hi4 : i < 4 := by omega
    have r39 : W h0 0 0 11 #[.val (.ref a), .val (.int (Int32.ofNat p)), .val (.int (Int32.ofNat e)), .val (.int S), .val (.int (Int32.ofNat i)), s5, s6, s7] [] := (H.icmpNo d2_8 (H.iloadN d2_7 (H.iload d2_5 r0 rfl) rfl) (tlt hlt).2.1)
    have r40 : W h0 0 0 14 #[.val (.ref a), .val (.int (Int32.ofNat p)), .val (.int (Int32.ofNat e)), .val (.int S), .val (.int (Int32.ofNat i)), s5, s6, s7] [(.int (Int32.ofNat i)), (.ref a)] := (H.iload d2_12 (H.aloadN d2_11 r39 rfl rfl) rfl)
    have r41 : W h0 0 0 15 #[.val (.ref a), .val (.int (Int32.ofNat p)), .val (.int (Int32.ofNat e)), .val (.int S), .val (.int (Int32.ofNat i)), s5, s6, s7] [(.int (bt i))] := H.ldB (i := i) (v := (.int (bt i))) A0 (own_ofNat (by omega)) (hbt i hi4) d2_14 r40
    have r42 : W h0 0 0 21 #[.val (.ref a), .val (.int (Int32.ofNat p)), .val (.int (Int32.ofNat e)), .val (.int S), .val (.int (Int32.ofNat i)), .val (.int ((bt i) &&& (255 : Int32))), s6, s7] [] := (H.istoreS d2_19 (H.iand d2_18 (H.sipush (z := (255 : Int32)) d2_15 r41 rfl)) rfl o5)
    have r43 : W h0 0 0 30 #[.val (.ref a), .val (.int (Int32.ofNat p)), .val (.int (Int32.ofNat e)), .val (.int S), .val (.int (Int32.ofNat i)), .val (.int ((bt i) &&& (255 : Int32))), s6, s7] [(.int (128 : Int32)), (.int (((bt i) &&& (255 : Int32)) &&& (192 : Int32)))] := (H.sipush (z := (128 : Int32)) d2_27 (H.iand d2_26 (H.sipush (z := (192 : Int32)) d2_23 (H.iload d2_21 r42 rfl) rfl)) rfl)
    have r48 : W h0 0 0 38 #[.val (.ref a), .val (.int (Int32.ofNat p)), .val (.int (Int32.ofNat e)), .val (.int S), .val (.int (Int32.ofNat i)), .val (.int ((bt i) &&& (255 : Int32))), s6, s7] [(.int (if (((bt i) &&& (255 : Int32)) &&& (192 : Int32)) = (128 : Int32) then (1 : Int32) else (0 : Int32)))] := by
      by_cases c1 : (((bt i) &&& (255 : Int32)) &&& (192 : Int32)) = (128 : Int32)
      · have r44 : W h0 0 0 33 #[.val (.ref a), .val (.int (Int32.ofNat p)), .val (.int (Int32.ofNat e)), .val (.int S), .val (.int (Int32.ofNat i)), .val (.int ((bt i) &&& (255 : Int32))), s6, s7] [] := (H.icmpNo d2_30 r43 (teq c1).2)
        have r46 : W h0 0 0 38 #[.val (.ref a), .val (.int (Int32.ofNat p)), .val (.int (Int32.ofNat e)), .val (.int S), .val (.int (Int32.ofNat i)), .val (.int ((bt i) &&& (255 : Int32))), s6, s7] [(.int (1 : Int32))] := (H.goto (pc' := 38) d2_34 (H.iconst (z := (1 : Int32)) d2_33 r44 rfl) (by decide) (by decide))
        first | (simp only [if_pos c1]; exact r46) | exact r46 | (simp only [if_pos c1] at r46 ⊢; exact r46)
      · have r45 : W h0 0 0 37 #[.val (.ref a), .val (.int (Int32.ofNat p)), .val (.int (Int32.ofNat e)), .val (.int S), .val (.int (Int32.ofNat i)), .val (.int ((bt i) &&& (255 : Int32))), s6, s7] [] := (H.icmpYes (pc' := 37) d2_30 r43 (by decide) (by decide) (feq c1).2)
        have r47 : W h0 0 0 38 #[.val (.ref a), .val (.int (Int32.ofNat p)), .val (.int (Int32.ofNat e)), .val (.int S), .val (.int (Int32.ofNat i)), .val (.int ((bt i) &&& (255 : Int32))), s6, s7] [(.int (0 : Int32))] := (H.iconst (z := (0 : Int32)) d2_37 r45 rfl)
        first | (simp only [if_neg c1]; exact r47) | exact r47 | (simp only [if_neg c1] at r47 ⊢; exact r47)
    have r49 : W h0 0 0 40 #[.val (.ref a), .val (.int (Int32.ofNat p)), .val (.int (Int32.ofNat e)), .val (.int S), .val (.int (Int32.ofNat i)), .val (.int ((bt i) &&& (255 : Int32))), .val (.int (if (((bt i) &&& (255 : Int32)) &&& (192 : Int32)) = (128 : Int32) then (1 : Int32) else (0 : Int32))), s7] [] := (H.istoreS d2_38 r48 rfl o6)
    have r50 : W h0 0 0 49 #[.val (.ref a), .val (.int (Int32.ofNat p)), .val (.int (Int32.ofNat e)), .val (.int S), .val (.int (Int32.ofNat i)), .val (.int ((bt i) &&& (255 : Int32))), .val (.int (if (((bt i) &&& (255 : Int32)) &&& (192 : Int32)) = (128 : Int32) then (1 : Int32) else (0 : Int32))), s7] [(.int (240 : Int32)), (.int (((bt i) &&& (255 : Int32)) &&& (248 : Int32)))] := (H.sipush (z := (240 : Int32)) d2_46 (H.iand d2_45 (H.sipush (z := (248 : Int32)) d2_42 (H.iload d2_40 r49 rfl) rfl)) rfl)
    have r55 : W h0 0 0 57 #[.val (.ref a), .val (.int (Int32.ofNat p)), .val (.int (Int32.ofNat e)), .val (.int S), .val (.int (Int32.ofNat i)), .val (.int ((bt i) &&& (255 : Int32))), .val (.int (if (((bt i) &&& (255 : Int32)) &&& (192 : Int32)) = (128 : Int32) then (1 : Int32) else (0 : Int32))), s7] [(.int (if (((bt i) &&& (255 : Int32)) &&& (248 : Int32)) = (240 : Int32) then (1 : Int32) else (0 : Int32)))] := by
      by_cases c2 : (((bt i) &&& (255 : Int32)) &&& (248 : Int32)) = (240 : Int32)
      · have r51 : W h0 0 0 52 #[.val (.ref a), .val (.int (Int32.ofNat p)), .val (.int (Int32.ofNat e)), .val (.int S), .val (.int (Int32.ofNat i)), .val (.int ((bt i) &&& (255 : Int32))), .val (.int (if (((bt i) &&& (255 : Int32)) &&& (192 : Int32)) = (128 : Int32) then (1 : Int32) else (0 : Int32))), s7] [] := (H.icmpNo d2_49 r50 (teq c2).2)
        have r53 : W h0 0 0 57 #[.val (.ref a), .val (.int (Int32.ofNat p)), .val (.int (Int32.ofNat e)), .val (.int S), .val (.int (Int32.ofNat i)), .val (.int ((bt i) &&& (255 : Int32))), .val (.int (if (((bt i) &&& (255 : Int32)) &&& (192 : Int32)) = (128 : Int32) then (1 : Int32) else (0 : Int32))), s7] [(.int (1 : Int32))] := (H.goto (pc' := 57) d2_53 (H.iconst (z := (1 : Int32)) d2_52 r51 rfl) (by decide) (by decide))
        first | (simp only [if_pos c2]; exact r53) | exact r53 | (simp only [if_pos c2] at r53 ⊢; exact r53)
      · have r52 : W h0 0 0 56 #[.val (.ref a), .val (.int (Int32.ofNat p)), .val (.int (Int32.ofNat e)), .val (.int S), .val (.int (Int32.ofNat i)), .val (.int ((bt i) &&& (255 : Int32))), .val (.int (if (((bt i) &&& (255 : Int32)) &&& (192 : Int32)) = (128 : Int32) then (1 : Int32) else (0 : Int32))), s7] [] := (H.icmpYes (pc' := 56) d2_49 r50 (by decide) (by decide) (feq c2).2)
        have r54 : W h0 0 0 57 #[.val (.ref a), .val (.int (Int32.ofNat p)), .val (.int (Int32.ofNat e)), .val (.int S), .val (.int (Int32.ofNat i)), .val (.int ((bt i) &&& (255 : Int32))), .val (.int (if (((bt i) &&& (255 : Int32)) &&& (192 : Int32)) = (128 : Int32) then (1 : Int32) else (0 : Int32))), s7] [(.int (0 : Int32))] := (H.iconst (z := (0 : Int32)) d2_56 r52 rfl)
        first | (simp only [if_neg c2]; exact r54) | exact r54 | (simp only [if_neg c2] at r54 ⊢; exact r54)
    have r56 : W h0 0 0 59 #[.val (.ref a), .val (.int (Int32.ofNat p)), .val (.int (Int32.ofNat e)), .val (.int S), .val (.int (Int32.ofNat i)), .val (.int ((bt i) &&& (255 : Int32))), .val (.int (if (((bt i) &&& (255 : Int32)) &&& (192 : Int32)) = (128 : Int32) then (1 : Int32) else (0 : Int32))), .val (.int (if (((bt i) &&& (255 : Int32)) &&& (248 : Int32)) = (240 : Int32) then (1 : Int32) else (0 : Int32)))] [] := (H.istoreS d2_57 r55 rfl o7)
    have r57 : W h0 0 0 62 #[.val (.ref a), .val (.int (Int32.ofNat p)), .val (.int (Int32.ofNat e)), .val (.int S), .val (.int (Int32.ofNat i)), .val (.int ((bt i) &&& (255 : Int32))), .val (.int (if (((bt i) &&& (255 : Int32)) &&& (192 : Int32)) = (128 : Int32) then (1 : Int32) else (0 : Int32))), .val (.int (if (((bt i) &&& (255 : Int32)) &&& (248 : Int32)) = (240 : Int32) then (1 : Int32) else (0 : Int32)))] [(.int (if (((bt i) &&& (255 : Int32)) &&& (192 : Int32)) = (128 : Int32) then (1 : Int32) else (0 : Int32))), (.int S)] := (H.iload d2_60 (H.iloadN d2_59 r56 rfl) rfl)
    have r62 : W h0 0 0 70 #[.val (.ref a), .val (.int (Int32.ofNat p)), .val (.int (Int32.ofNat e)), .val (.int S), .val (.int (Int32.ofNat i)), .val (.int ((bt i) &&& (255 : Int32))), .val (.int (if (((bt i) &&& (255 : Int32)) &&& (192 : Int32)) = (128 : Int32) then (1 : Int32) else (0 : Int32))), .val (.int (if (((bt i) &&& (255 : Int32)) &&& (248 : Int32)) = (240 : Int32) then (1 : Int32) else (0 : Int32)))] [(.int (if (if (((bt i) &&& (255 : Int32)) &&& (192 : Int32)) = (128 : Int32) then (1 : Int32) else (0 : Int32)) = (0 : Int32) then (1 : Int32) else (0 : Int32))), (.int S)] := by
      by_cases c3 : (if (((bt i) &&& (255 : Int32)) &&& (192 : Int32)) = (128 : Int32) then (1 : Int32) else (0 : Int32)) = (0 : Int32)
      · have r58 : W h0 0 0 69 #[.val (.ref a), .val (.int (Int32.ofNat p)), .val (.int (Int32.ofNat e)), .val (.int S), .val (.int (Int32.ofNat i)), .val (.int ((bt i) &&& (255 : Int32))), .val (.int (if (((bt i) &&& (255 : Int32)) &&& (192 : Int32)) = (128 : Int32) then (1 : Int32) else (0 : Int32))), .val (.int (if (((bt i) &&& (255 : Int32)) &&& (248 : Int32)) = (240 : Int32) then (1 : Int32) else (0 : Int32)))] [(.int S)] := (H.ifYes (pc' := 69) d2_62 r57 (by decide) (by decide) (teq c3).1)
        have r60 : W h0 0 0 70 #[.val (.ref a), .val (.int (Int32.ofNat p)), .val (.int (Int32.ofNat e)), .val (.int S), .val (.int (Int32.ofNat i)), .val (.int ((bt i) &&& (255 : Int32))), .val (.int (if (((bt i) &&& (255 : Int32)) &&& (192 : Int32)) = (128 : Int32) then (1 : Int32) else (0 : Int32))), .val (.int (if (((bt i) &&& (255 : Int32)) &&& (248 : Int32)) = (240 : Int32) then (1 : Int32) else (0 : Int32)))] [(.int (1 : Int32)), (.int S)] := (H.iconst (z := (1 : Int32)) d2_69 r58 rfl)
        first | (simp only [if_pos c3]; exact r60) | exact r60 | (simp only [if_pos c3] at r60 ⊢; exact r60)
      · have r59 : W h0 0 0 65 #[.val (.ref a), .val (.int (Int32.ofNat p)), .val (.int (Int32.ofNat e)), .val (.int S), .val (.int (Int32.ofNat i)), .val (.int ((bt i) &&& (255 : Int32))), .val (.int (if (((bt i) &&& (255 : Int32)) &&& (192 : Int32)) = (128 : Int32) then (1 : Int32) else (0 : Int32))), .val (.int (if (((bt i) &&& (255 : Int32)) &&& (248 : Int32)) = (240 : Int32) then (1 : Int32) else (0 : Int32)))] [(.int S)] := (H.ifNo d2_62 r57 (feq c3).1)
        have r61 : W h0 0 0 70 #[.val (.ref a), .val (.int (Int32.ofNat p)), .val (.int (Int32.ofNat e)), .val (.int S), .val (.int (Int32.ofNat i)), .val (.int ((bt i) &&& (255 : Int32))), .val (.int (if (((bt i) &&& (255 : Int32)) &&& (192 : Int32)) = (128 : Int32) then (1 : Int32) else (0 : Int32))), .val (.int (if (((bt i) &&& (255 : Int32)) &&& (248 : Int32)) = (240 : Int32) then (1 : Int32) else (0 : Int32)))] [(.int (0 : Int32)), (.int S)] := (H.goto (pc' := 70) d2_66 (H.iconst (z := (0 : Int32)) d2_65 r59 rfl) (by decide) (by decide))
        first | (simp only [if_neg c3]; exact r61) | exact r61 | (simp only [if_neg c3] at r61 ⊢; exact r61)
    have r63 : W h0 0 0 72 #[.val (.ref a), .val (.int (Int32.ofNat p)), .val (.int (Int32.ofNat e)), .val (.int S), .val (.int (Int32.ofNat i)), .val (.int ((bt i) &&& (255 : Int32))), .val (.int (if (((bt i) &&& (255 : Int32)) &&& (192 : Int32)) = (128 : Int32) then (1 : Int32) else (0 : Int32))), .val (.int (if (((bt i) &&& (255 : Int32)) &&& (248 : Int32)) = (240 : Int32) then (1 : Int32) else (0 : Int32)))] [(.int (if (((bt i) &&& (255 : Int32)) &&& (248 : Int32)) = (240 : Int32) then (1 : Int32) else (0 : Int32))), (.int (if (if (((bt i) &&& (255 : Int32)) &&& (192 : Int32)) = (128 : Int32) then (1 : Int32) else (0 : Int32)) = (0 : Int32) then (1 : Int32) else (0 : Int32))), (.int S)] := (H.iload d2_70 r62 rfl)
    have r68 : W h0 0 0 80 #[.val (.ref a), .val (.int (Int32.ofNat p)), .val (.int (Int32.ofNat e)), .val (.int S), .val (.int (Int32.ofNat i)), .val (.int ((bt i) &&& (255 : Int32))), .val (.int (if (((bt i) &&& (255 : Int32)) &&& (192 : Int32)) = (128 : Int32) then (1 : Int32) else (0 : Int32))), .val (.int (if (((bt i) &&& (255 : Int32)) &&& (248 : Int32)) = (240 : Int32) then (1 : Int32) else (0 : Int32)))] [(.int (if (if (((bt i) &&& (255 : Int32)) &&& (248 : Int32)) = (240 : Int32) then (1 : Int32) else (0 : Int32)) = (0 : Int32) then (0 : Int32) else (1 : Int32))), (.int (if (if (((bt i) &&& (255 : Int32)) &&& (192 : Int32)) = (128 : Int32) then (1 : Int32) else (0 : Int32)) = (0 : Int32) then (1 : Int32) else (0 : Int32))), (.int S)] := by
      by_cases c4 : (if (((bt i) &&& (255 : Int32)) &&& (248 : Int32)) = (240 : Int32) then (1 : Int32) else (0 : Int32)) = (0 : Int32)
      · have r64 : W h0 0 0 79 #[.val (.ref a), .val (.int (Int32.ofNat p)), .val (.int (Int32.ofNat e)), .val (.int S), .val (.int (Int32.ofNat i)), .val (.int ((bt i) &&& (255 : Int32))), .val (.int (if (((bt i) &&& (255 : Int32)) &&& (192 : Int32)) = (128 : Int32) then (1 : Int32) else (0 : Int32))), .val (.int (if (((bt i) &&& (255 : Int32)) &&& (248 : Int32)) = (240 : Int32) then (1 : Int32) else (0 : Int32)))] [(.int (if (if (((bt i) &&& (255 : Int32)) &&& (192 : Int32)) = (128 : Int32) then (1 : Int32) else (0 : Int32)) = (0 : Int32) then (1 : Int32) else (0 : Int32))), (.int S)] := (H.ifYes (pc' := 79) d2_72 r63 (by decide) (by decide) (teq c4).1)
        have r66 : W h0 0 0 80 #[.val (.ref a), .val (.int (Int32.ofNat p)), .val (.int (Int32.ofNat e)), .val (.int S), .val (.int (Int32.ofNat i)), .val (.int ((bt i) &&& (255 : Int32))), .val (.int (if (((bt i) &&& (255 : Int32)) &&& (192 : Int32)) = (128 : Int32) then (1 : Int32) else (0 : Int32))), .val (.int (if (((bt i) &&& (255 : Int32)) &&& (248 : Int32)) = (240 : Int32) then (1 : Int32) else (0 : Int32)))] [(.int (0 : Int32)), (.int (if (if (((bt i) &&& (255 : Int32)) &&& (192 : Int32)) = (128 : Int32) then (1 : Int32) else (0 : Int32)) = (0 : Int32) then (1 : Int32) else (0 : Int32))), (.int S)] := (H.iconst (z := (0 : Int32)) d2_79 r64 rfl)
        first | (simp only [if_pos c4]; exact r66) | exact r66 | (simp only [if_pos c4] at r66 ⊢; exact r66)
      · have r65 : W h0 0 0 75 #[.val (.ref a), .val (.int (Int32.ofNat p)), .val (.int (Int32.ofNat e)), .val (.int S), .val (.int (Int32.ofNat i)), .val (.int ((bt i) &&& (255 : Int32))), .val (.int (if (((bt i) &&& (255 : Int32)) &&& (192 : Int32)) = (128 : Int32) then (1 : Int32) else (0 : Int32))), .val (.int (if (((bt i) &&& (255 : Int32)) &&& (248 : Int32)) = (240 : Int32) then (1 : Int32) else (0 : Int32)))] [(.int (if (if (((bt i) &&& (255 : Int32)) &&& (192 : Int32)) = (128 : Int32) then (1 : Int32) else (0 : Int32)) = (0 : Int32) then (1 : Int32) else (0 : Int32))), (.int S)] := (H.ifNo d2_72 r63 (feq c4).1)
        have r67 : W h0 0 0 80 #[.val (.ref a), .val (.int (Int32.ofNat p)), .val (.int (Int32.ofNat e)), .val (.int S), .val (.int (Int32.ofNat i)), .val (.int ((bt i) &&& (255 : Int32))), .val (.int (if (((bt i) &&& (255 : Int32)) &&& (192 : Int32)) = (128 : Int32) then (1 : Int32) else (0 : Int32))), .val (.int (if (((bt i) &&& (255 : Int32)) &&& (248 : Int32)) = (240 : Int32) then (1 : Int32) else (0 : Int32)))] [(.int (1 : Int32)), (.int (if (if (((bt i) &&& (255 : Int32)) &&& (192 : Int32)) = (128 : Int32) then (1 : Int32) else (0 : Int32)) = (0 : Int32) then (1 : Int32) else (0 : Int32))), (.int S)] := (H.goto (pc' := 80) d2_76 (H.iconst (z := (1 : Int32)) d2_75 r65 rfl) (by decide) (by decide))
        first | (simp only [if_neg c4]; exact r67) | exact r67 | (simp only [if_neg c4] at r67 ⊢; exact r67)
    have r69 : W h0 0 0 83 #[.val (.ref a), .val (.int (Int32.ofNat p)), .val (.int (Int32.ofNat e)), .val (.int (S + ((if (if (((bt i) &&& (255 : Int32)) &&& (192 : Int32)) = (128 : Int32) then (1 : Int32) else (0 : Int32)) = (0 : Int32) then (1 : Int32) else (0 : Int32)) + (if (if (((bt i) &&& (255 : Int32)) &&& (248 : Int32)) = (240 : Int32) then (1 : Int32) else (0 : Int32)) = (0 : Int32) then (0 : Int32) else (1 : Int32))))), .val (.int (Int32.ofNat i)), .val (.int ((bt i) &&& (255 : Int32))), .val (.int (if (((bt i) &&& (255 : Int32)) &&& (192 : Int32)) = (128 : Int32) then (1 : Int32) else (0 : Int32))), .val (.int (if (((bt i) &&& (255 : Int32)) &&& (248 : Int32)) = (240 : Int32) then (1 : Int32) else (0 : Int32)))] [] := (H.istoreN d2_82 (H.iadd d2_81 (H.iadd d2_80 r68)) rfl)
    have r70 : W h0 0 0 86 #[.val (.ref a), .val (.int (Int32.ofNat p)), .val (.int (Int32.ofNat e)), .val (.int (S + ((if (if (((bt i) &&& (255 : Int32)) &&& (192 : Int32)) = (128 : Int32) then (1 : Int32) else (0 : Int32)) = (0 : Int32) then (1 : Int32) else (0 : Int32)) + (if (if (((bt i) &&& (255 : Int32)) &&& (248 : Int32)) = (240 : Int32) then (1 : Int32) else (0 : Int32)) = (0 : Int32) then (0 : Int32) else (1 : Int32))))), .val (.int ((Int32.ofNat i) + (1 : Int32))), .val (.int ((bt i) &&& (255 : Int32))), .val (.int (if (((bt i) &&& (255 : Int32)) &&& (192 : Int32)) = (128 : Int32) then (1 : Int32) else (0 : Int32))), .val (.int (if (((bt i) &&& (255 : Int32)) &&& (248 : Int32)) = (240 : Int32) then (1 : Int32) else (0 : Int32)))] [] := (H.iinc (z := ((Int32.ofNat i) + (1 : Int32))) d2_83 r69 rfl rfl rfl)
    have r71 : W h0 0 0 5 #[.val (.ref a), .val (.int (Int32.ofNat p)), .val (.int (Int32.ofNat e)), .val (.int (S + ((if (if (((bt i) &&& (255 : Int32)) &&& (192 : Int32)) = (128 : Int32) then (1 : Int32) else (0 : Int32)) = (0 : Int32) then (1 : Int32) else (0 : Int32)) + (if (if (((bt i) &&& (255 : Int32)) &&& (248 : Int32)) = (240 : Int32) then (1 : Int32) else (0 : Int32)) = (0 : Int32) then (0 : Int32) else (1 : Int32))))), .val (.int ((Int32.ofNat i) + (1 : Int32))), .val (.int ((bt i) &&& (255 : Int32))), .val (.int (if (((bt i) &&& (255 : Int32)) &&& (192 : Int32)) = (128 : Int32) then (1 : Int32) else (0 : Int32))), .val (.int (if (((bt i) &&& (255 : Int32)) &&& (248 : Int32)) = (240 : Int32) then (1 : Int32) else (0 : Int32)))] [] := (H.goto (pc' := 5) d2_86 r70 (by decide) (by decide))
    rw [own_succ] at r71
    obtain ⟨j, t5, t6, t7, r9⟩ := ih (i + 1) _ _ _ _ (by omega) (by omega) (One.val rfl) (One.val rfl) (One.val rfl) r71
    rw [own_sum, ← own_acc]
    exact ⟨j, t5, t6, t7, r9⟩
set_option maxRecDepth 65536 in
set_option maxHeartbeats 40000000 in
theorem chars_ct {l : Launch} {Z : State} {a0 : Array Value} (hw : ∀ d ∈ tables_1, d.before a0 Z = true) {vs : List Value} {bt : Nat → Int32} (a : Addr) (p e : Nat) (hp : p < 5) (he : e < 5) (hbt : own_at vs bt) (h0 : Heap) (n0 : Nat) (A0 : Ary Z h0 a .byte vs) :
    Ct l Z (⟨"com/example/stablemate/stablemate/layout/LayoutText", "characters", "([BII)I"⟩ : MethodName) prog_47_method_10_code 8 (some .int) ({ frames := 0, cells := 0, slots := 0, locals := 0 } : Room) n0 #[(.ref a), (.int (Int32.ofNat p)), (.int (Int32.ofNat e))] h0 (fun v h' => v = some (.int ((0 : Int32) + own_sum (fun j => own_wt (bt j)) (e - p) p)) ∧ h' = h0) := by
  refine Ct.of (plainFor_of_name pn_1) (fun m => ef_c a (Int32.ofNat p) (Int32.ofNat e) m) ?_
  intro W V H r0
  have r72 : W h0 0 0 2 #[.val (.ref a), .val (.int (Int32.ofNat p)), .val (.int (Int32.ofNat e)), .val (.int (0 : Int32)), .unset, .unset, .unset, .unset] [] := (H.istoreN d2_1 (H.iconst (z := (0 : Int32)) d2_0 r0 rfl) rfl)
  have r73 : W h0 0 0 5 #[.val (.ref a), .val (.int (Int32.ofNat p)), .val (.int (Int32.ofNat e)), .val (.int (0 : Int32)), .val (.int (Int32.ofNat p)), .unset, .unset, .unset] [] := (H.istore d2_3 (H.iloadN d2_2 r72 rfl) rfl)
  obtain ⟨j, t5, t6, t7, r9⟩ := chars_loop H p e he hbt A0 (e - p) p _ _ _ _ rfl hp One.u One.u One.u r73
  have r74 : W h0 0 0 90 #[.val (.ref a), .val (.int (Int32.ofNat p)), .val (.int (Int32.ofNat e)), .val (.int ((0 : Int32) + own_sum (fun j => own_wt (bt j)) (e - p) p)), .val (.int j), t5, t6, t7] [(.int ((0 : Int32) + own_sum (fun j => own_wt (bt j)) (e - p) p))] := (H.iloadN d2_89 r9 rfl)
  exact ⟨_, _, H.retI rfl (Nat.le_refl _) (Nat.le_refl _) d2_90 r74, rfl, rfl⟩
set_option maxRecDepth 65536 in
set_option maxHeartbeats 40000000 in
theorem law_ct {l : Launch} {Z : State} {a0 : Array Value} (hw : ∀ d ∈ tables_1, d.before a0 Z = true) (x f g : Int32) (h0 : Heap) (n0 : Nat) (Z0 : n0 ≤ h0.size) :
    Ct l Z Jvm.Pilot.@@N@@.x code maxLocals ret room_1 n0 #[(.int x), (.int f), (.int g)] h0 (fun v h' => v = some (.int 1)) := by
  refine Ct.of (plainFor_of_name pn_0) (fun m => ef_0 x f g m) ?_
  intro W V H r0
  have r75 : W h0 0 0 1 #[.val (.int x), .val (.int f), .val (.int g), .unset, .unset, .unset, .unset] [(.int (4 : Int32))] := (H.iconst (z := (4 : Int32)) at_0 r0 rfl)
  obtain ⟨h76, ba, ea77, E78, A79, r80⟩ := H.newA (i := 4) (cap := 4) (d := (.int 0)) rfl rfl (hw _ (List.mem_of_getElem? (i := 0) rfl)) (by decide) (by decide) (by decide) (by decide) (by decide) at_1 r75
  have N81 : n0 ≤ ba := by rw [ea77]; exact Z0
  have Z82 : n0 ≤ h76.size := Nat.le_trans Z0 E78.1
  have A79l : Ary Z h76 ba .byte [.int 0, .int 0, .int 0, .int 0] := A79
  replace r80 : W h76 1 4 3 #[.val (.int x), .val (.int f), .val (.int g), .unset, .unset, .unset, .unset] [(.ref ba)] := r80
  have r83 : W h76 1 4 4 #[.val (.int x), .val (.int f), .val (.int g), .val (.ref ba), .unset, .unset, .unset] [] := (H.astoreN at_3 r80 rfl rfl)
  have r84 : W h76 1 4 8 #[.val (.int x), .val (.int f), .val (.int g), .val (.ref ba), .unset, .unset, .unset] [(.int (x.toInt8.toInt32)), (.int (0 : Int32)), (.ref ba)] := (H.i2b at_7 (H.iloadN at_6 (H.iconst (z := (0 : Int32)) at_5 (H.aloadN at_4 r83 rfl rfl) rfl) rfl))
  obtain ⟨h85, w86, A87, r88⟩ := H.putB (i := 0) (z := ((x.toInt8.toInt32).toInt8.toInt32)) rfl A79l (by decide) (by decide : 0 < 4) N81 at_8 r84
  have Z89 : n0 ≤ h85.size := by rw [w86.size]; exact Z82
  replace A87 : Ary Z h85 ba .byte [.int ((x.toInt8.toInt32).toInt8.toInt32), .int 0, .int 0, .int 0] := A87
  replace r88 : W h85 1 4 9 #[.val (.int x), .val (.int f), .val (.int g), .val (.ref ba), .unset, .unset, .unset] [] := r88
  generalize ((x.toInt8.toInt32).toInt8.toInt32) = b0 at A87
  have r90 : W h85 1 4 16 #[.val (.int x), .val (.int f), .val (.int g), .val (.ref ba), .unset, .unset, .unset] [(.int (((x.toUInt32 >>> ((8 : Int32) &&& 31).toUInt32).toInt32).toInt8.toInt32)), (.int (1 : Int32)), (.ref ba)] := (H.i2b at_15 (H.iushr at_14 (H.bipush (z := (8 : Int32)) at_12 (H.iloadN at_11 (H.iconst (z := (1 : Int32)) at_10 (H.aloadN at_9 r88 rfl rfl) rfl) rfl) rfl)))
  obtain ⟨h91, w92, A93, r94⟩ := H.putB (i := 1) (z := ((((x.toUInt32 >>> ((8 : Int32) &&& 31).toUInt32).toInt32).toInt8.toInt32).toInt8.toInt32)) rfl A87 (by decide) (by decide : 1 < 4) N81 at_16 r90
  have Z95 : n0 ≤ h91.size := by rw [w92.size]; exact Z89
  replace A93 : Ary Z h91 ba .byte [.int b0, .int ((((x.toUInt32 >>> ((8 : Int32) &&& 31).toUInt32).toInt32).toInt8.toInt32).toInt8.toInt32), .int 0, .int 0] := A93
  replace r94 : W h91 1 4 17 #[.val (.int x), .val (.int f), .val (.int g), .val (.ref ba), .unset, .unset, .unset] [] := r94
  generalize ((((x.toUInt32 >>> ((8 : Int32) &&& 31).toUInt32).toInt32).toInt8.toInt32).toInt8.toInt32) = b1 at A93
  have r96 : W h91 1 4 24 #[.val (.int x), .val (.int f), .val (.int g), .val (.ref ba), .unset, .unset, .unset] [(.int (((x.toUInt32 >>> ((16 : Int32) &&& 31).toUInt32).toInt32).toInt8.toInt32)), (.int (2 : Int32)), (.ref ba)] := (H.i2b at_23 (H.iushr at_22 (H.bipush (z := (16 : Int32)) at_20 (H.iloadN at_19 (H.iconst (z := (2 : Int32)) at_18 (H.aloadN at_17 r94 rfl rfl) rfl) rfl) rfl)))
  obtain ⟨h97, w98, A99, r100⟩ := H.putB (i := 2) (z := ((((x.toUInt32 >>> ((16 : Int32) &&& 31).toUInt32).toInt32).toInt8.toInt32).toInt8.toInt32)) rfl A93 (by decide) (by decide : 2 < 4) N81 at_24 r96
  have Z101 : n0 ≤ h97.size := by rw [w98.size]; exact Z95
  replace A99 : Ary Z h97 ba .byte [.int b0, .int b1, .int ((((x.toUInt32 >>> ((16 : Int32) &&& 31).toUInt32).toInt32).toInt8.toInt32).toInt8.toInt32), .int 0] := A99
  replace r100 : W h97 1 4 25 #[.val (.int x), .val (.int f), .val (.int g), .val (.ref ba), .unset, .unset, .unset] [] := r100
  generalize ((((x.toUInt32 >>> ((16 : Int32) &&& 31).toUInt32).toInt32).toInt8.toInt32).toInt8.toInt32) = b2 at A99
  have r102 : W h97 1 4 32 #[.val (.int x), .val (.int f), .val (.int g), .val (.ref ba), .unset, .unset, .unset] [(.int (((x.toUInt32 >>> ((24 : Int32) &&& 31).toUInt32).toInt32).toInt8.toInt32)), (.int (3 : Int32)), (.ref ba)] := (H.i2b at_31 (H.iushr at_30 (H.bipush (z := (24 : Int32)) at_28 (H.iloadN at_27 (H.iconst (z := (3 : Int32)) at_26 (H.aloadN at_25 r100 rfl rfl) rfl) rfl) rfl)))
  obtain ⟨h103, w104, A105, r106⟩ := H.putB (i := 3) (z := ((((x.toUInt32 >>> ((24 : Int32) &&& 31).toUInt32).toInt32).toInt8.toInt32).toInt8.toInt32)) rfl A99 (by decide) (by decide : 3 < 4) N81 at_32 r102
  have Z107 : n0 ≤ h103.size := by rw [w104.size]; exact Z101
  replace A105 : Ary Z h103 ba .byte [.int b0, .int b1, .int b2, .int ((((x.toUInt32 >>> ((24 : Int32) &&& 31).toUInt32).toInt32).toInt8.toInt32).toInt8.toInt32)] := A105
  replace r106 : W h103 1 4 33 #[.val (.int x), .val (.int f), .val (.int g), .val (.ref ba), .unset, .unset, .unset] [] := r106
  generalize ((((x.toUInt32 >>> ((24 : Int32) &&& 31).toUInt32).toInt32).toInt8.toInt32).toInt8.toInt32) = b3 at A105
  have r108 : W h103 1 4 41 #[.val (.int x), .val (.int f), .val (.int g), .val (.ref ba), .val (.int ((f &&& (2147483647 : Int32)) % (5 : Int32))), .unset, .unset] [] := (H.istore at_39 (H.irem at_38 (H.iconst (z := (5 : Int32)) at_37 (H.iand at_36 (H.ldcInt at_34 (H.iloadN at_33 r106 rfl) (hw _ (List.mem_of_getElem? (i := 1) rfl)))) rfl) (by decide)) rfl)
  obtain ⟨p, hp, ep⟩ := own_modn f 5 (by decide) (by decide)
  replace ep : ((f &&& (2147483647 : Int32)) % (5 : Int32)) = Int32.ofNat p := ep
  rw [ep] at r108
  have r109 : W h103 1 4 49 #[.val (.int x), .val (.int f), .val (.int g), .val (.ref ba), .val (.int (Int32.ofNat p)), .val (.int ((g &&& (2147483647 : Int32)) % (5 : Int32))), .unset] [] := (H.istore at_47 (H.irem at_46 (H.iconst (z := (5 : Int32)) at_45 (H.iand at_44 (H.ldcInt at_42 (H.iloadN at_41 r108 rfl) (hw _ (List.mem_of_getElem? (i := 1) rfl)))) rfl) (by decide)) rfl)
  obtain ⟨e, he, ee⟩ := own_modn g 5 (by decide) (by decide)
  replace ee : ((g &&& (2147483647 : Int32)) % (5 : Int32)) = Int32.ofNat e := ee
  rw [ee] at r109
  obtain ⟨bt, hbt⟩ : ∃ bt : Nat → Int32, own_at [.int b0, .int b1, .int b2, .int b3] bt := ⟨fun i => match i with | 0 => b0 | 1 => b1 | 2 => b2 | _ => b3, fun i hi => by match i, hi with | 0, _ => rfl | 1, _ => rfl | 2, _ => rfl | 3, _ => rfl⟩
  have r110 : W h103 1 4 55 #[.val (.int x), .val (.int f), .val (.int g), .val (.ref ba), .val (.int (Int32.ofNat p)), .val (.int (Int32.ofNat e)), .unset] [(.int (Int32.ofNat e)), (.int (Int32.ofNat p)), (.int (0 : Int32)), (.ref ba)] := (H.iload at_53 (H.iload at_51 (H.iconst (z := (0 : Int32)) at_50 (H.aloadN at_49 r109 rfl rfl) rfl) rfl) rfl)
  have r111 : W h103 1 4 58 #[.val (.int x), .val (.int f), .val (.int g), .val (.ref ba), .val (.int (Int32.ofNat p)), .val (.int (Int32.ofNat e)), .unset] [(.int (own_tm (fun j => own_wt (bt j)) 0 p e))] := H.callSP (w := 0) (argsL := [(.ref ba), (.int (0 : Int32)), (.int (Int32.ofNat p)), (.int (Int32.ofNat e))]) (rest := []) (hw _ (List.mem_of_getElem? (i := 2) rfl)) (hw _ (List.mem_of_getElem? (i := 3) rfl)) (hw _ (List.mem_of_getElem? (i := 4) rfl)) (hw _ (List.mem_of_getElem? (i := 5) rfl)) (by decide) pd_1 (by decide) (by decide) (by decide) (by decide) (term_ct hw ba 0 p e (by decide) hp he hbt h103 n0 A105) rfl rfl (Nat.le_of_eq rfl) rfl at_55 r110
  have r112 : W h103 1 4 64 #[.val (.int x), .val (.int f), .val (.int g), .val (.ref ba), .val (.int (Int32.ofNat p)), .val (.int (Int32.ofNat e)), .unset] [(.int (Int32.ofNat e)), (.int (Int32.ofNat p)), (.int (1 : Int32)), (.ref ba), (.int (own_tm (fun j => own_wt (bt j)) 0 p e))] := (H.iload at_62 (H.iload at_60 (H.iconst (z := (1 : Int32)) at_59 (H.aloadN at_58 r111 rfl rfl) rfl) rfl) rfl)
  have r113 : W h103 1 4 67 #[.val (.int x), .val (.int f), .val (.int g), .val (.ref ba), .val (.int (Int32.ofNat p)), .val (.int (Int32.ofNat e)), .unset] [(.int (own_tm (fun j => own_wt (bt j)) 1 p e)), (.int (own_tm (fun j => own_wt (bt j)) 0 p e))] := H.callSP (w := 1) (argsL := [(.ref ba), (.int (1 : Int32)), (.int (Int32.ofNat p)), (.int (Int32.ofNat e))]) (rest := [(.int (own_tm (fun j => own_wt (bt j)) 0 p e))]) (hw _ (List.mem_of_getElem? (i := 2) rfl)) (hw _ (List.mem_of_getElem? (i := 3) rfl)) (hw _ (List.mem_of_getElem? (i := 4) rfl)) (hw _ (List.mem_of_getElem? (i := 5) rfl)) (by decide) pd_1 (by decide) (by decide) (by decide) (by decide) (term_ct hw ba 1 p e (by decide) hp he hbt h103 n0 A105) rfl rfl (Nat.le_of_eq rfl) rfl at_64 r112
  have r114 : W h103 1 4 74 #[.val (.int x), .val (.int f), .val (.int g), .val (.ref ba), .val (.int (Int32.ofNat p)), .val (.int (Int32.ofNat e)), .unset] [(.int (Int32.ofNat e)), (.int (Int32.ofNat p)), (.int (2 : Int32)), (.ref ba), (.int ((own_tm (fun j => own_wt (bt j)) 0 p e) + (own_tm (fun j => own_wt (bt j)) 1 p e)))] := (H.iload at_72 (H.iload at_70 (H.iconst (z := (2 : Int32)) at_69 (H.aloadN at_68 (H.iadd at_67 r113) rfl rfl) rfl) rfl) rfl)
  have r115 : W h103 1 4 77 #[.val (.int x), .val (.int f), .val (.int g), .val (.ref ba), .val (.int (Int32.ofNat p)), .val (.int (Int32.ofNat e)), .unset] [(.int (own_tm (fun j => own_wt (bt j)) 2 p e)), (.int ((own_tm (fun j => own_wt (bt j)) 0 p e) + (own_tm (fun j => own_wt (bt j)) 1 p e)))] := H.callSP (w := 1) (argsL := [(.ref ba), (.int (2 : Int32)), (.int (Int32.ofNat p)), (.int (Int32.ofNat e))]) (rest := [(.int ((own_tm (fun j => own_wt (bt j)) 0 p e) + (own_tm (fun j => own_wt (bt j)) 1 p e)))]) (hw _ (List.mem_of_getElem? (i := 2) rfl)) (hw _ (List.mem_of_getElem? (i := 3) rfl)) (hw _ (List.mem_of_getElem? (i := 4) rfl)) (hw _ (List.mem_of_getElem? (i := 5) rfl)) (by decide) pd_1 (by decide) (by decide) (by decide) (by decide) (term_ct hw ba 2 p e (by decide) hp he hbt h103 n0 A105) rfl rfl (Nat.le_of_eq rfl) rfl at_74 r114
  have r116 : W h103 1 4 84 #[.val (.int x), .val (.int f), .val (.int g), .val (.ref ba), .val (.int (Int32.ofNat p)), .val (.int (Int32.ofNat e)), .unset] [(.int (Int32.ofNat e)), (.int (Int32.ofNat p)), (.int (3 : Int32)), (.ref ba), (.int (((own_tm (fun j => own_wt (bt j)) 0 p e) + (own_tm (fun j => own_wt (bt j)) 1 p e)) + (own_tm (fun j => own_wt (bt j)) 2 p e)))] := (H.iload at_82 (H.iload at_80 (H.iconst (z := (3 : Int32)) at_79 (H.aloadN at_78 (H.iadd at_77 r115) rfl rfl) rfl) rfl) rfl)
  have r117 : W h103 1 4 87 #[.val (.int x), .val (.int f), .val (.int g), .val (.ref ba), .val (.int (Int32.ofNat p)), .val (.int (Int32.ofNat e)), .unset] [(.int (own_tm (fun j => own_wt (bt j)) 3 p e)), (.int (((own_tm (fun j => own_wt (bt j)) 0 p e) + (own_tm (fun j => own_wt (bt j)) 1 p e)) + (own_tm (fun j => own_wt (bt j)) 2 p e)))] := H.callSP (w := 1) (argsL := [(.ref ba), (.int (3 : Int32)), (.int (Int32.ofNat p)), (.int (Int32.ofNat e))]) (rest := [(.int (((own_tm (fun j => own_wt (bt j)) 0 p e) + (own_tm (fun j => own_wt (bt j)) 1 p e)) + (own_tm (fun j => own_wt (bt j)) 2 p e)))]) (hw _ (List.mem_of_getElem? (i := 2) rfl)) (hw _ (List.mem_of_getElem? (i := 3) rfl)) (hw _ (List.mem_of_getElem? (i := 4) rfl)) (hw _ (List.mem_of_getElem? (i := 5) rfl)) (by decide) pd_1 (by decide) (by decide) (by decide) (by decide) (term_ct hw ba 3 p e (by decide) hp he hbt h103 n0 A105) rfl rfl (Nat.le_of_eq rfl) rfl at_84 r116
  have r118 : W h103 1 4 90 #[.val (.int x), .val (.int f), .val (.int g), .val (.ref ba), .val (.int (Int32.ofNat p)), .val (.int (Int32.ofNat e)), .val (.int ((((own_tm (fun j => own_wt (bt j)) 0 p e) + (own_tm (fun j => own_wt (bt j)) 1 p e)) + (own_tm (fun j => own_wt (bt j)) 2 p e)) + (own_tm (fun j => own_wt (bt j)) 3 p e)))] [] := (H.istore at_88 (H.iadd at_87 r117) rfl)
  have r119 : W h103 1 4 95 #[.val (.int x), .val (.int f), .val (.int g), .val (.ref ba), .val (.int (Int32.ofNat p)), .val (.int (Int32.ofNat e)), .val (.int ((((own_tm (fun j => own_wt (bt j)) 0 p e) + (own_tm (fun j => own_wt (bt j)) 1 p e)) + (own_tm (fun j => own_wt (bt j)) 2 p e)) + (own_tm (fun j => own_wt (bt j)) 3 p e)))] [(.int (Int32.ofNat e)), (.int (Int32.ofNat p)), (.ref ba)] := (H.iload at_93 (H.iload at_91 (H.aloadN at_90 r118 rfl rfl) rfl) rfl)
  have r120 : W h103 1 4 98 #[.val (.int x), .val (.int f), .val (.int g), .val (.ref ba), .val (.int (Int32.ofNat p)), .val (.int (Int32.ofNat e)), .val (.int ((((own_tm (fun j => own_wt (bt j)) 0 p e) + (own_tm (fun j => own_wt (bt j)) 1 p e)) + (own_tm (fun j => own_wt (bt j)) 2 p e)) + (own_tm (fun j => own_wt (bt j)) 3 p e)))] [(.int ((0 : Int32) + own_sum (fun j => own_wt (bt j)) (e - p) p))] := H.callSP (w := 0) (argsL := [(.ref ba), (.int (Int32.ofNat p)), (.int (Int32.ofNat e))]) (rest := []) (hw _ (List.mem_of_getElem? (i := 6) rfl)) (hw _ (List.mem_of_getElem? (i := 7) rfl)) (hw _ (List.mem_of_getElem? (i := 8) rfl)) (hw _ (List.mem_of_getElem? (i := 9) rfl)) (by decide) pd_2 (by decide) (by decide) (by decide) (by decide) (chars_ct hw ba p e hp he hbt h103 n0 A105) rfl rfl (Nat.le_of_eq rfl) rfl at_95 r119
  have r121 : W h103 1 4 103 #[.val (.int x), .val (.int f), .val (.int g), .val (.ref ba), .val (.int (Int32.ofNat p)), .val (.int (Int32.ofNat e)), .val (.int ((((own_tm (fun j => own_wt (bt j)) 0 p e) + (own_tm (fun j => own_wt (bt j)) 1 p e)) + (own_tm (fun j => own_wt (bt j)) 2 p e)) + (own_tm (fun j => own_wt (bt j)) 3 p e)))] [] := (H.icmpNo at_100 (H.iload at_98 r120 rfl) (teq (own_total (fun j => own_wt (bt j)) p e hp he)).2)
  have r122 : W h103 1 4 108 #[.val (.int x), .val (.int f), .val (.int g), .val (.ref ba), .val (.int (Int32.ofNat p)), .val (.int (Int32.ofNat e)), .val (.int ((((own_tm (fun j => own_wt (bt j)) 0 p e) + (own_tm (fun j => own_wt (bt j)) 1 p e)) + (own_tm (fun j => own_wt (bt j)) 2 p e)) + (own_tm (fun j => own_wt (bt j)) 3 p e)))] [(.int (1 : Int32))] := (H.goto (pc' := 108) at_104 (H.iconst (z := (1 : Int32)) at_103 r121 rfl) (by decide) (by decide))
  exact ⟨_, _, H.retZ rfl rfl (by decide) (by decide) at_108 r122, rfl⟩
set_option maxRecDepth 65536 in
set_option maxHeartbeats 40000000 in
theorem comes_1 {Post : Tables → Env → Array Value → State → Outcome → State → Prop} (hpost : ∀ tb e args s v u, (limb_1_1.after args s (.returned v) u = true ∧ limb_1_2.after args s (.returned v) u = true ∧ True) → FrameEnd s (.returned v) u (Jvm.fieldLocs frame_1_writes args s ++ Jvm.arrayLocs frame_1_arrays args s ++ Jvm.staticLocs frame_1_statics s) 16 128 → Post tb e args s (.returned v) u) :
    ArmFor flags0 classFile x code maxLocals ret World_1 tables_1 room_1 Calls_1 rest_1 Pre_1 Post := by
  intro l hfl _ _ p e ha hc hk s m args below hf hA hF happ hP
  obtain ⟨hcalls, hrest, hpre⟩ := hP
  obtain ⟨-, -, -, hnamed, -, -, -, hat⟩ := (Spec.applies_iff hf).mp happ
  obtain ⟨hg, hn⟩ := and_e (Cond.before_iff.mp (show (Jvm.Cond.and given_1 narrow_1).before args s = true from hpre))
  obtain ⟨hcnt, hg0⟩ := and_e hg
  obtain ⟨ha0, hg1⟩ := and_e hg0
  obtain ⟨ha1, hg2⟩ := and_e hg1
  obtain ⟨w0, w1, w2, rfl⟩ : ∃ w0 w1 w2 : Value, args = #[w0, w1, w2] := by
    have hs : args.size = 3 := by simpa [Cond.value, given_1] using hcnt
    obtain ⟨L⟩ := args
    match L, hs with
    | [w0, w1, w2], _ => exact ⟨w0, w1, w2, rfl⟩
  have hw := fun d (hd : d ∈ tables_1) => atoms_spec (ws := Jvm.Cond.code x code maxLocals ret :: tables_1) hat d (List.mem_cons_of_mem _ hd)
  have hfit : Fit s := fun {y c} hc i hi => by
    obtain ⟨ha, rfl⟩ := Array.getElem?_eq_some_iff.mp hc
    have q := List.all_eq_true.mp ((Array.all_eq_true_iff_forall_mem.mp hF) _ (Array.getElem_mem ha)) i (List.mem_range.mpr hi)
    simpa [Array.getElem?_eq_getElem hi] using q
  obtain ⟨i0, ei0⟩ := is_v ha0
  obtain rfl : w0 = (.int i0) := Option.some.inj ei0
  obtain ⟨i1, ei1⟩ := is_v ha1
  obtain rfl : w1 = (.int i1) := Option.some.inj ei1
  obtain ⟨i2, ei2⟩ := is_v hg2
  obtain rfl : w2 = (.int i2) := Option.some.inj ei2
  obtain ⟨n, o, h1, h2, h3, _, L, rfl, ⟨rfl, N⟩, hq⟩ := law_ct (l := l) hw i0 i1 i2  s.heap s.heap.size (Nat.le_refl _) tables_1 p e ha hc hk s m _ below hf ((Spec.applies_iff_loose hf).mp happ).1 ⟨rfl, State.Warmed39.refl s, rfl⟩ trivial
  refine ⟨n, _, h1, h2, h3, hpost _ _ _ _ _ _ ⟨Cond.after_iff.mpr rfl, Cond.after_iff.mpr (eq_i res_at (Term.int_eval (1)) rfl), trivial⟩ ⟨hq.1, hq.2.1, (hq.2.2.sift fun y hy => Or.inr (N y hy)).mono (by decide) (by decide)⟩⟩
theorem main_1_1 : Claimed_1_1 := comes_1 fun _ _ _ _ _ _ h hF => ⟨h.1, hF⟩
theorem main_1_2 : Claimed_1_2 := comes_1 fun _ _ _ _ _ _ h hF => ⟨h.2.1, hF⟩
end Jvm.Pilot.@@N@@
namespace Jvm.Pilot.@@N@@
open Jvm Jvm.ClassFile Sem Op Lib Jvm.Free Jvm.Stand Jvm.Pilot.@@N@@.Jvm.D
/-! MADE BY PROGRAM (witnessworld.py) out of the Statement's table words and the real class files: 9 classes; the members and pool entries that the words name. The judged class is class 1, her method 1. -/
namespace start1
open Jvm.ClassFile
def u (s : String) : CpInfo := .utf8 (stringToUtf16 s)
/-- a pool by its gaps: so many unusable entries, then the entry; so many at the end -/
def gap : Nat → List CpInfo → List CpInfo
  | 0, r => r
  | n + 1, r => .unusable :: gap n r
def poolList (es : List (Nat × CpInfo)) (last : Nat) : List CpInfo := es.foldr (fun e r => gap e.1 (e.2 :: r)) (gap last [])
def pool (es : List (Nat × CpInfo)) (last : Nat) : Array CpInfo := ⟨poolList es last⟩
def fileOf (pool : Array CpInfo) (this : Nat) (attrs : Array Attribute := #[]) (ms : Array MethodInfo := #[]) (fl : Nat := 33) (sup : Nat := 0) (ifs : Array Nat := #[]) (fds : Array FieldInfo := #[]) : ClassFile where
  minorVersion := 0
  majorVersion := 65
  constantPool := pool
  accessFlags := fl
  thisClass := this
  superClass := sup
  interfaces := ifs
  fields := fds
  methods := ms
  attributes := attrs
def plain (name : String) (sup : Option ClassId) : Class where
  name := name
  kind := .ordinary
  loader := none
  accessFlags := 33
  super := sup
  interfaces := #[]
  cf := none
  fields := #[]
  methods := #[]
  instanceTypes := #[]
  staticTypes := #[]
  resolved := #[]
  callSites := []
  init := .initialized
  statics := none
  mirror := none

def pool0 : Array CpInfo := pool [(5, u "<init>"), (0, u "()V"), (1, .class_ 10), (1, u "java/lang/Object")] 113

def k0m0 : Method := { name := "<init>", desc := "()V", sig := { parameters := [], returnType := none }, accessFlags := 1, code := none }
/-- java/lang/Object -/
def k0 : Class := { plain "java/lang/Object" none with
  accessFlags := 33
  interfaces := #[]
  cf := some (fileOf pool0 8 #[] #[{ accessFlags := 1, nameIndex := 5, descriptorIndex := 6, attributes := #[] }] 33 0 #[] #[])
  fields := #[]
  methods := #[k0m0]
  instanceTypes := #[]
  staticTypes := #[]
  resolved := Array.replicate 124 none
  statics := none }

def pool1 : Array CpInfo := pool [(2, .class_ 4), (1, u "java/lang/Object"), (0, u "<init>"), (0, u "()V"), (0, .integer 2147483647), (0, .methodref 9 10), (0, .class_ 11), (0, .nameAndType 12 13), (0, u "com/example/stablemate/stablemate/layout/LayoutTextCharactersPinLaw"), (0, u "term"), (0, u "([BIII)I"), (0, .methodref 15 16), (0, .class_ 17), (0, .nameAndType 18 19), (0, u "com/example/stablemate/stablemate/layout/LayoutText"), (0, u "characters"), (0, u "([BII)I"), (0, .methodref 9 21), (0, .nameAndType 22 23), (0, u "weight"), (0, u "(B)I"), (2, u "law"), (0, u "(III)Z")] 5

def k1m0 : Method := { name := "<init>", desc := "()V", sig := { parameters := [], returnType := none }, accessFlags := 1, code := none }
def k1c1 : Code := { maxStack := 5, maxLocals := 7, code := code, exceptionTable := #[], attributes := #[] }
def k1m1 : Method := { name := "law", desc := "(III)Z", sig := { parameters := [.int, .int, .int], returnType := some .boolean }, accessFlags := 9, code := some k1c1 }
def k1c2 : Code := { maxStack := 2, maxLocals := 4, code := method_3_code, exceptionTable := #[], attributes := #[] }
def k1m2 : Method := { name := "term", desc := "([BIII)I", sig := { parameters := [(.array .byte), .int, .int, .int], returnType := some .int }, accessFlags := 10, code := some k1c2 }
def k1c3 : Code := { maxStack := 2, maxLocals := 2, code := method_4_code, exceptionTable := #[], attributes := #[] }
def k1m3 : Method := { name := "weight", desc := "(B)I", sig := { parameters := [.byte], returnType := some .int }, accessFlags := 10, code := some k1c3 }
/-- com/example/stablemate/stablemate/layout/LayoutTextCharactersPinLaw -/
def k1 : Class := { plain "com/example/stablemate/stablemate/layout/LayoutTextCharactersPinLaw" (some 0) with
  accessFlags := 49
  interfaces := #[]
  cf := some (fileOf pool1 9 #[] #[{ accessFlags := 1, nameIndex := 5, descriptorIndex := 6, attributes := #[] }, { accessFlags := 9, nameIndex := 26, descriptorIndex := 27, attributes := #[] }, { accessFlags := 10, nameIndex := 12, descriptorIndex := 13, attributes := #[] }, { accessFlags := 10, nameIndex := 22, descriptorIndex := 23, attributes := #[] }] 49 2 #[] #[])
  fields := #[]
  methods := #[k1m0, k1m1, k1m2, k1m3]
  instanceTypes := #[]
  staticTypes := #[]
  resolved := Array.replicate 33 none
  statics := none }

def pool2 : Array CpInfo := pool [(1, .class_ 2), (0, u "com/example/stablemate/stablemate/layout/LayoutText"), (1, .class_ 6), (1, u "java/lang/Object"), (0, u "<init>"), (0, u "()V"), (30, u "characters"), (0, u "([BII)I"), (99, u "TIE_MARKS"), (0, u "Ljava/lang/String;"), (1, u "LONGEST_ECHOED_TOKEN"), (0, u "I"), (1, u "LONGEST_ECHOED_BYTES")] 37

def k2m0 : Method := { name := "<init>", desc := "()V", sig := { parameters := [], returnType := none }, accessFlags := 2, code := none }
def k2c1 : Code := { maxStack := 3, maxLocals := 8, code := prog_47_method_10_code, exceptionTable := #[], attributes := #[] }
def k2m1 : Method := { name := "characters", desc := "([BII)I", sig := { parameters := [(.array .byte), .int, .int], returnType := some .int }, accessFlags := 8, code := some k2c1 }
/-- com/example/stablemate/stablemate/layout/LayoutText -/
def k2 : Class := { plain "com/example/stablemate/stablemate/layout/LayoutText" (some 0) with
  accessFlags := 32
  interfaces := #[]
  cf := some (fileOf pool2 1 #[] #[{ accessFlags := 2, nameIndex := 7, descriptorIndex := 8, attributes := #[] }, { accessFlags := 8, nameIndex := 39, descriptorIndex := 40, attributes := #[] }] 32 4 #[] #[{ accessFlags := 26, nameIndex := 140, descriptorIndex := 141, attributes := #[] }, { accessFlags := 26, nameIndex := 143, descriptorIndex := 144, attributes := #[] }, { accessFlags := 26, nameIndex := 146, descriptorIndex := 144, attributes := #[] }])
  fields := #[{ name := "TIE_MARKS", type := (.object "java/lang/String"), accessFlags := 26, slot := 0, constantValue := 0 }, { name := "LONGEST_ECHOED_TOKEN", type := .int, accessFlags := 26, slot := 1, constantValue := 0 }, { name := "LONGEST_ECHOED_BYTES", type := .int, accessFlags := 26, slot := 2, constantValue := 0 }]
  methods := #[k2m0, k2m1]
  instanceTypes := #[]
  staticTypes := #[(.object "java/lang/String"), .int, .int]
  resolved := Array.replicate 184 none
  statics := none }

def pool3 : Array CpInfo := pool [(1, u "java/lang/Cloneable"), (0, .class_ 1), (0, u "java/lang/Object"), (0, .class_ 3)] 3

/-- java/lang/Cloneable -/
def k3 : Class := { plain "java/lang/Cloneable" (some 0) with
  accessFlags := 1537
  interfaces := #[]
  cf := some (fileOf pool3 2 #[] #[] 1537 4 #[] #[])
  fields := #[]
  methods := #[]
  instanceTypes := #[]
  staticTypes := #[]
  resolved := Array.replicate 8 none
  statics := none }

def pool4 : Array CpInfo := pool [(1, u "java/io/Serializable"), (0, .class_ 1), (0, u "java/lang/Object"), (0, .class_ 3)] 3

/-- java/io/Serializable -/
def k4 : Class := { plain "java/io/Serializable" (some 0) with
  accessFlags := 1537
  interfaces := #[]
  cf := some (fileOf pool4 2 #[] #[] 1537 4 #[] #[])
  fields := #[]
  methods := #[]
  instanceTypes := #[]
  staticTypes := #[]
  resolved := Array.replicate 8 none
  statics := none }

/-- the primitive byte -/
def k5 : Class := { plain "byte" none with kind := .primitive 'B', accessFlags := 0x411 }
/-- [B -/
def k6 : Class := { plain "[B" (some 0) with kind := .array 5 .byte, interfaces := #[3, 4], accessFlags := 1041 }

/-- the primitive int -/
def k7 : Class := { plain "int" none with kind := .primitive 'I', accessFlags := 0x411 }
/-- [I -/
def k8 : Class := { plain "[I" (some 0) with kind := .array 7 .int, interfaces := #[3, 4], accessFlags := 1041 }

def heap : Heap := #[]
def classes : Array Class := #[k0, k1, k2, k3, k4, k5, k6, k7, k8]
def interned : List (Array UInt16 × Addr) := []
def slotsUsed : Nat := 0
def theMethod : MethodId := ⟨1, 1⟩
def args0 : Array Value := #[.int 5, .int 2, .int 3]
def aboutOver (below : List Frame) : State where
  vm := { classes := classes, interned := interned.toArray }
  heap := heap
  slotsUsed := slotsUsed
  threads := #[{ frames := .invoking theMethod args0 :: below }]
def below0 : List Frame := [.native { method := ⟨0, 0⟩, args := #[] }]
def about1 : State := aboutOver below0
def p0 : Program := .bare "" "" ""
def e0 : Env := launch0.env 0 0 0
theorem w_frames : about1.frames = Frame.invoking theMethod args0 :: below0 := rfl
set_option maxRecDepth 65536 in
theorem w_args : argsFit about1.vm theMethod args0 = true := by decide +kernel
set_option maxRecDepth 65536 in
theorem w_heap : heapFits about1 = true := by decide +kernel
set_option maxRecDepth 65536 in
theorem w_runnable : about1.curStatus? = some .runnable := by decide +kernel
set_option maxRecDepth 65536 in
theorem w_alone : about1.alone = true := by decide +kernel
set_option maxRecDepth 65536 in
theorem w_named : about1.methodNamed? x = some theMethod := by decide +kernel
set_option maxRecDepth 65536 in
theorem w_hears : about1.hears theMethod below0 = true := by decide +kernel
set_option maxRecDepth 65536 in
theorem w_ripe : about1.ripe theMethod args0 below0 = true := by decide +kernel
theorem w_running : about1.status = .running := rfl
set_option maxRecDepth 65536 in
theorem w_room : about1.hasRoom e0.platform room_1 = true :=
  launch0.hasRoom_least _ room_1 (by decide +kernel) (by decide +kernel) (by decide +kernel) (by decide +kernel) (by decide +kernel) (by decide +kernel)
theorem allAtoms_all (ts : List Jvm.Cond) (a : Array Jvm.Value) (st : Jvm.State) : (allAtoms ts).before a st = ts.all (fun c => c.before a st) := by
  induction ts with
  | nil => rfl
  | cons c t ih =>
    show (Jvm.Cond.and c (allAtoms t)).before a st = _
    rw [Jvm.Cond.before_and, ih, List.all_cons]
def words1 : List Jvm.Cond := Jvm.Cond.code x code maxLocals ret :: tables_1
/-- a 'code' word, met by the world's own term for the bytes: nothing is compared byte by byte -/
theorem code_word {y : MethodName} {bytes : ByteArray} {mx : Nat} {rt : Option FieldType} {a : Array Value} {s : State} {m : MethodId} {meth : Method} {c : Code} (h1 : s.methodNamed? y = some m) (h2 : s.vm.method? m = some meth) (h3 : meth.code = some c) (h4 : c.code = bytes)
    (h5 : (c.maxLocals == mx && c.exceptionTable.isEmpty && decide (c.maxStack ≤ mostOperands) && decide (meth.sig.returnType = rt) && !meth.locks && decide (parseMethodDescriptor y.desc = some meth.sig)) = true) : (Jvm.Cond.code y bytes mx rt).before a s = true := by
  simp only [Bool.and_eq_true, beq_iff_eq, Bool.not_eq_true', decide_eq_true_eq] at h5
  obtain ⟨⟨⟨⟨⟨g1, g2⟩, g3⟩, g4⟩, g5⟩, g6⟩ := h5
  simp [Cond.before, Cond.holds, Cond.value, h1, h2, h3, h4, g1, g2, g3, g4, g5, g6]
def isCode : Jvm.Cond → Bool
  | .code _ _ _ _ => true
  | _ => false
theorem all_split {L : List Jvm.Cond} {P : Jvm.Cond → Bool} (h1 : L.all (fun c => isCode c || P c) = true) (h2 : ∀ c ∈ L.filter isCode, P c = true) : L.all P = true := by
  refine List.all_eq_true.mpr fun c hc => ?_
  have h := List.all_eq_true.mp h1 c hc
  rcases Bool.eq_false_or_eq_true (isCode c) with hi | hi
  · exact h2 c (List.mem_filter.mpr ⟨hc, hi⟩)
  · simpa [hi] using h
set_option maxRecDepth 65536 in
theorem w_c0 : (Jvm.Cond.code x code maxLocals ret).before args0 about1 = true := code_word (m := ⟨1, 1⟩) (meth := k1m1) (c := k1c1) (by decide +kernel) rfl rfl rfl (by decide +kernel)
set_option maxRecDepth 65536 in
theorem w_c1 : (Jvm.Cond.code ({ cls := "com/example/stablemate/stablemate/layout/LayoutTextCharactersPinLaw", name := "term", desc := "([BIII)I" } : Jvm.MethodName) method_3_code (4 : Nat) (Option.some Jvm.ClassFile.FieldType.int)).before args0 about1 = true := code_word (m := ⟨1, 2⟩) (meth := k1m2) (c := k1c2) (by decide +kernel) rfl rfl rfl (by decide +kernel)
set_option maxRecDepth 65536 in
theorem w_c2 : (Jvm.Cond.code ({ cls := "com/example/stablemate/stablemate/layout/LayoutText", name := "characters", desc := "([BII)I" } : Jvm.MethodName) prog_47_method_10_code (8 : Nat) (Option.some Jvm.ClassFile.FieldType.int)).before args0 about1 = true := code_word (m := ⟨2, 1⟩) (meth := k2m1) (c := k2c1) (by decide +kernel) rfl rfl rfl (by decide +kernel)
set_option maxRecDepth 65536 in
theorem w_c3 : (Jvm.Cond.code ({ cls := "com/example/stablemate/stablemate/layout/LayoutTextCharactersPinLaw", name := "weight", desc := "(B)I" } : Jvm.MethodName) method_4_code (2 : Nat) (Option.some Jvm.ClassFile.FieldType.int)).before args0 about1 = true := code_word (m := ⟨1, 3⟩) (meth := k1m3) (c := k1c3) (by decide +kernel) rfl rfl rfl (by decide +kernel)
def codes1 : List Jvm.Cond := [Jvm.Cond.code x code maxLocals ret, Jvm.Cond.code ({ cls := "com/example/stablemate/stablemate/layout/LayoutTextCharactersPinLaw", name := "term", desc := "([BIII)I" } : Jvm.MethodName) method_3_code (4 : Nat) (Option.some Jvm.ClassFile.FieldType.int), Jvm.Cond.code ({ cls := "com/example/stablemate/stablemate/layout/LayoutText", name := "characters", desc := "([BII)I" } : Jvm.MethodName) prog_47_method_10_code (8 : Nat) (Option.some Jvm.ClassFile.FieldType.int), Jvm.Cond.code ({ cls := "com/example/stablemate/stablemate/layout/LayoutTextCharactersPinLaw", name := "weight", desc := "(B)I" } : Jvm.MethodName) method_4_code (2 : Nat) (Option.some Jvm.ClassFile.FieldType.int)]
set_option maxRecDepth 65536 in
theorem codes_eq : words1.filter isCode = codes1 := rfl
theorem w_codes : ∀ c ∈ words1.filter isCode, c.before args0 about1 = true := by
  rw [codes_eq]
  intro c hc
  simp only [codes1, List.mem_cons, List.not_mem_nil, or_false] at hc
  rcases hc with rfl | rfl | rfl | rfl
  · exact w_c0
  · exact w_c1
  · exact w_c2
  · exact w_c3
set_option maxRecDepth 65536 in
theorem w_t1 : words1.all (fun c => isCode c || c.before args0 about1) = true := by decide +kernel
theorem w_tables : (allAtoms (Jvm.Cond.code x code maxLocals ret :: tables_1)).before args0 about1 = true := by
  rw [allAtoms_all]
  show words1.all (fun c => c.before args0 about1) = true
  refine all_split ?_ w_codes
  rw [w_t1]
set_option maxRecDepth 65536 in
theorem w_case : (Jvm.Cond.and given_1 narrow_1).before args0 about1 = true := by decide +kernel
theorem w_applies : (headSpec (Jvm.Cond.code x code maxLocals ret :: tables_1) room_1).applies x e0.platform about1 = true :=
  (Spec.applies_iff w_frames).mpr ⟨w_running, w_runnable, w_alone, w_named, w_hears, w_ripe, w_room, w_tables⟩
theorem atStart : AtStart classFile x code maxLocals ret World_1 tables_1 room_1 Calls_1 rest_1 Pre_1 launch0 p0 e0 about1 theMethod args0 below0 :=
  ⟨lists_1, trivial, launch0.admits_env _ _ _, launch0.least_env, fairChoices_fair.cas, fairChoices_fair.clock, w_frames, w_args, w_heap, w_applies, trivial, trivial, w_case⟩
end start1
theorem witness_1 : WitnessClaimed_1 := ⟨start1.p0, start1.e0, start1.about1, start1.theMethod, start1.args0, start1.below0, start1.atStart⟩
end Jvm.Pilot.@@N@@
