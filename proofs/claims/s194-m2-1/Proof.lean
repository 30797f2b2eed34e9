import JvmDerived
import JvmDerived.Pilot.@@N@@Statement
import JvmDerived.Pilot.@@N@@Code
set_option linter.unusedVariables false
set_option linter.unusedSimpArgs false
namespace Jvm.OwnW
open Jvm Jvm.ClassFile Sem Op Lib Jvm.Free Jvm.Stand Jvm.LawKit Jvm.RoadKit Bundle
/-- the walk stands at pc, over the heap h; k cells and n slots have come; nothing that stood at the start is written -/
def At0 (p : Program) (l : Launch) (e : Env) (R : Room) (s : State) (m : MethodId) (args : Array Value) (below : List Frame) (meth : Method) (c : Code) (n0 : Nat) (S0 : State) (h : Heap) (k n pc : Nat) (Ls : Array Slot) (st : List Value) : Prop :=
  ∃ (T : State) (locs : List Loc), Stand p l e R s m args below meth c T locs k n ∧ T.heap = h ∧ Fr n0 locs ∧ ∀ t, Steps p.tables e below (T.setTop (mkF m pc Ls st)) t → Steps p.tables e below S0 t
/-- the walk has returned v, over the heap h -/
def End0 (p : Program) (e : Env) (R : Room) (s : State) (below : List Frame) (n0 : Nat) (S0 : State) (v : Option Value) (h : Heap) : Prop :=
  ∃ (s₂ : State) (L : List Loc), Steps p.tables e below S0 s₂ ∧ s₂.status = .running ∧ Ended s₂ below (.returned v) ∧ s₂.heap = h ∧ Fr n0 L ∧ FrameEnd s (.returned v) s₂ L R.cells R.slots
abbrev WT := Heap → Nat → Nat → Nat → Array Slot → List Value → Prop
abbrev VT := Option Value → Heap → Prop
/-- W and V are of one walk of the body of y -/
def Wk (l : Launch) (Z : State) (y : MethodName) (code : ByteArray) (mx : Nat) (ret : Option FieldType) (R : Room) (n0 : Nat) (W : WT) (V : VT) : Prop :=
  ∃ (p : Program) (e : Env) (s : State) (m : MethodId) (args : Array Value) (below : List Frame) (meth : Method) (c : Code) (S0 : State),
    p.tables.exec = Jvm.exec ∧ c.code = code ∧ c.maxLocals = mx ∧ s.vm.findClass y.cls = some m.cls ∧ Z.Warmed39 s.vm ∧ meth.name = y.name ∧ meth.sig.returnType = ret ∧ meth.locks = false ∧
    W = At0 p l e R s m args below meth c n0 S0 ∧ V = End0 p e R s below n0 S0
/-- a contract: called with 'as' over the heap h the method returns v and leaves h' with Q v h' -/
def Ct (l : Launch) (Z : State) (y : MethodName) (bytes : ByteArray) (mx : Nat) (ret : Option FieldType) (rm : Room) (n0 : Nat) (as : Array Value) (h : Heap) (Q : Option Value → Heap → Prop) : Prop :=
  ∀ ws : List Jvm.Cond, MetFree l y (head1 (Jvm.Cond.code y bytes mx ret :: ws) rm) (fun a U => a = as ∧ Z.Warmed39 U.vm ∧ U.heap = h) (fun _ _ _ _ _ => True) (fun _ U o U' => ∃ v L, o = .returned v ∧ (Q v U'.heap ∧ Fr n0 L) ∧ FrameEnd U o U' L rm.cells rm.slots)
theorem Ct.of {l : Launch} {Z : State} {y : MethodName} {bytes : ByteArray} {mx : Nat} {ret : Option FieldType} {rm : Room} {n0 : Nat} {as : Array Value} {h : Heap} {Q : Option Value → Heap → Prop} {Ls : Array Slot} (hpn : plainFor y = true) (hef : ∀ m, entryFrame m as mx = mkF m 0 Ls [])
    (body : ∀ W V, Wk l Z y bytes mx ret rm n0 W V → W h 0 0 0 Ls [] → ∃ v h', V v h' ∧ Q v h') : Ct l Z y bytes mx ret rm n0 as h Q := by
  intro ws
  refine MetFree.of_bodySF hpn hisR ?_
  intro p e s m args below meth c s₁ Bd hml0 hP hK
  obtain ⟨rfl, hZ, hh⟩ := hP
  have X0 : Stand p l e rm s m args below meth c s₁ [] 0 0 := Stand.of_body Bd
  have e0 : s₁.heap = h := by rw [← hh, Bd.state]; rfl
  obtain ⟨v, h', ⟨s₂, L, g1, g2, g3, g4, g5, g6⟩, hQ⟩ := body _ _ ⟨p, e, s, m, args, below, meth, c, s₁.setTop (entryFrame m args mx), Bd.exec, Bd.bytes, hml0, findClass_of_methodNamed Bd.named, hZ, (name_of_methodNamed Bd.named Bd.method).1, Bd.returns, Bd.notSynchronized, rfl, rfl⟩
    ⟨s₁, [], X0, e0, Fr.nil n0, fun t k => castTop (hef m) k⟩
  exact ⟨s₂, _, g1, g2, g3, v, L, rfl, ⟨by rw [g4]; exact hQ, g5⟩, g6⟩
theorem Ct.imp {l : Launch} {Z : State} {y : MethodName} {bytes : ByteArray} {mx : Nat} {ret : Option FieldType} {rm : Room} {n0 : Nat} {as : Array Value} {h : Heap} {Q Q' : Option Value → Heap → Prop} (hM : Ct l Z y bytes mx ret rm n0 as h Q) (hi : ∀ v h', Q v h' → Q' v h') : Ct l Z y bytes mx ret rm n0 as h Q' := by
  intro ws p e ha hc hk s m args below hf happ hP hK
  obtain ⟨n, o, h1, h2, h3, v, L, g1, ⟨g2, g3⟩, g4⟩ := hM ws p e ha hc hk s m args below hf happ hP hK
  exact ⟨n, o, h1, h2, h3, v, L, g1, ⟨hi _ _ g2, g3⟩, g4⟩
/-- the class that declares z is no interface, by a word of the sheet -/
def NF (Z : State) (a0 : Array Value) (z : MethodName) : Prop := (∃ C z2, (Jvm.Cond.selects C z2 z2).before a0 Z = true ∧ z2.cls = z.cls) ∨ (∃ S, (Jvm.Cond.superclass z.cls S).before a0 Z = true) ∨ (Jvm.Cond.noSuperclass z.cls).before a0 Z = true
theorem NF.at {Z s : State} {a0 : Array Value} {z : MethodName} (hZ : Z.Warmed39 s.vm) (f : NF Z a0 z) : NotFace s z := by
  rcases f with ⟨C, z2, w, e⟩ | ⟨S, w⟩ | w
  · intro r0 h0
    obtain ⟨c2, r2, m2, q1, q2, q3, q4, kP, hkP, hkPi⟩ := Cond.selects_spec (mvT (args := #[]) hZ w)
    have a := findClass_of_methodNamed h0
    have b := findClass_of_methodNamed q3
    rw [e] at b
    have d : r0.cls = m2.cls := Option.some.inj (a.symm.trans b)
    exact ⟨kP, by rw [d]; exact hkP, hkPi⟩
  · exact nf_super (args := #[]) (mvT hZ w)
  · exact nf_top (args := #[]) (mvT hZ w)
section Steps
variable {l : Launch} {Z : State} {y : MethodName} {code : ByteArray} {mx : Nat} {ret : Option FieldType} {R : Room} {n0 : Nat} {W : WT} {V : VT} {h : Heap} {k n pc pc' : Nat} {Ls Ls' : Array Slot} {st st' : List Value} {a0 : Array Value}
/-- a plain step, by the library's law for it -/
theorem Wk.step (H : Wk l Z y code mx ret R n0 W V) (r : W h k n pc Ls st)
    (f : ∀ {tb : Tables} [Ours tb] {e : Env} {below : List Frame} {T t : State} {m : MethodId} {c : Code}, At T m c below → tb.exec = Jvm.exec → c.code = code → Steps tb e below (T.setTop (mkF m pc' Ls' st')) t → Steps tb e below (T.setTop (mkF m pc Ls st)) t) : W h k n pc' Ls' st' := by
  obtain ⟨p, e, s, m, args, below, meth, c, S0, hx, hby, hml, hown, hZ, hnm, hret, hlk, rfl, rfl⟩ := H
  obtain ⟨T, locs, X, eh, N, sp⟩ := r
  exact ⟨T, locs, X, eh, N, fun t q => sp t (f X.here hx hby q)⟩
/-- the account of cells and slots may be widened -/
theorem Wk.more (H : Wk l Z y code mx ret R n0 W V) {k' n' : Nat} (hk : k ≤ k') (hn : n ≤ n') (r : W h k n pc Ls st) : W h k' n' pc Ls st := by
  obtain ⟨p, e, s, m, args, below, meth, c, S0, hx, hby, hml, hown, hZ, hnm, hret, hlk, rfl, rfl⟩ := H
  obtain ⟨T, locs, X, eh, N, sp⟩ := r
  exact ⟨T, locs, X.mono hk hn, eh, N, sp⟩
/-- a step that reads the tables or the heap -/
theorem Wk.stepX (H : Wk l Z y code mx ret R n0 W V) (r : W h k n pc Ls st)
    (f : ∀ {p : Program} {e : Env} {s : State} {m : MethodId} {args : Array Value} {below : List Frame} {meth : Method} {c : Code} {T : State} {locs : List Loc}, Stand p l e R s m args below meth c T locs k n → p.tables.exec = Jvm.exec → c.code = code → c.maxLocals = mx → s.vm.findClass y.cls = some m.cls → Z.Warmed39 s.vm → T.heap = h → ∃ T', Stand p l e R s m args below meth c T' locs k n ∧ T'.heap = h ∧ ∀ t, Steps p.tables e below (T'.setTop (mkF m pc' Ls' st')) t → Steps p.tables e below (T.setTop (mkF m pc Ls st)) t) : W h k n pc' Ls' st' := by
  obtain ⟨p, e, s, m, args, below, meth, c, S0, hx, hby, hml, hown, hZ, hnm, hret, hlk, rfl, rfl⟩ := H
  obtain ⟨T, locs, X, eh, N, sp⟩ := r
  obtain ⟨T', X', e', q⟩ := f X hx hby hml hown hZ eh
  exact ⟨T', locs, X', e', N, fun t u => sp t (q t u)⟩
theorem Wk.aloadN (H : Wk l Z y code mx ret R n0 W V) {i : Fin 4} {v : Value} (hd : decode code pc = .ok (.aload_n i, 1)) (r : W h k n pc Ls (st)) (hl : Ls[i.val]? = some (.val v)) (hv : v.isRef = true) : W h k n (pc + 1) Ls (v :: st) :=
  H.step r fun A hx hby q => XS.aloadN A hx rfl (hb hby hd) hl hv q
theorem Wk.aload (H : Wk l Z y code mx ret R n0 W V) {i : Nat} {v : Value} (hd : decode code pc = .ok (.aload i, 2)) (r : W h k n pc Ls (st)) (hl : Ls[i]? = some (.val v)) (hv : v.isRef = true) : W h k n (pc + 2) Ls (v :: st) :=
  H.step r fun A hx hby q => XS.aload A hx rfl (hb hby hd) hl hv q
theorem Wk.iloadN (H : Wk l Z y code mx ret R n0 W V) {i : Fin 4} {v : Int32} (hd : decode code pc = .ok (.iload_n i, 1)) (r : W h k n pc Ls (st)) (hl : Ls[i.val]? = some (.val (.int v))) : W h k n (pc + 1) Ls (.int v :: st) :=
  H.step r fun A hx hby q => XS.iloadN A hx rfl (hb hby hd) hl q
theorem Wk.iload (H : Wk l Z y code mx ret R n0 W V) {i : Nat} {v : Int32} (hd : decode code pc = .ok (.iload i, 2)) (r : W h k n pc Ls (st)) (hl : Ls[i]? = some (.val (.int v))) : W h k n (pc + 2) Ls (.int v :: st) :=
  H.step r fun A hx hby q => XS.iload A hx rfl (hb hby hd) hl q
theorem Wk.lloadN (H : Wk l Z y code mx ret R n0 W V) {i : Fin 4} {v : Int64} (hd : decode code pc = .ok (.lload_n i, 1)) (r : W h k n pc Ls (st)) (hl : Ls[i.val]? = some (.val (.long v))) : W h k n (pc + 1) Ls (.long v :: st) :=
  H.step r fun A hx hby q => XS.lloadN A hx rfl (hb hby hd) hl q
theorem Wk.lload (H : Wk l Z y code mx ret R n0 W V) {i : Nat} {v : Int64} (hd : decode code pc = .ok (.lload i, 2)) (r : W h k n pc Ls (st)) (hl : Ls[i]? = some (.val (.long v))) : W h k n (pc + 2) Ls (.long v :: st) :=
  H.step r fun A hx hby q => XS.lload A hx rfl (hb hby hd) hl q
theorem Wk.floadN (H : Wk l Z y code mx ret R n0 W V) {i : Fin 4} {v : UInt32} (hd : decode code pc = .ok (.fload_n i, 1)) (r : W h k n pc Ls (st)) (hl : Ls[i.val]? = some (.val (.float v))) : W h k n (pc + 1) Ls (.float v :: st) :=
  H.step r fun A hx hby q => XS.floadN A hx rfl (hb hby hd) hl q
theorem Wk.iconst (H : Wk l Z y code mx ret R n0 W V) {i : Int} {z : Int32} (hd : decode code pc = .ok (.iconst i, 1)) (r : W h k n pc Ls st) (hz : Int32.ofInt i = z) : W h k n (pc + 1) Ls (.int z :: st) := by
  subst hz
  exact H.step r fun A hx hby q => XS.iconst A hx rfl (hb hby hd) q
theorem Wk.bipush (H : Wk l Z y code mx ret R n0 W V) {i : Int} {z : Int32} (hd : decode code pc = .ok (.bipush i, 2)) (r : W h k n pc Ls st) (hz : (Int8.ofInt i).toInt32 = z) : W h k n (pc + 2) Ls (.int z :: st) := by
  subst hz
  exact H.step r fun A hx hby q => XS.bipush A hx rfl (hb hby hd) q
theorem Wk.sipush (H : Wk l Z y code mx ret R n0 W V) {i : Int} {z : Int32} (hd : decode code pc = .ok (.sipush i, 3)) (r : W h k n pc Ls st) (hz : (Int16.ofInt i).toInt32 = z) : W h k n (pc + 3) Ls (.int z :: st) := by
  subst hz
  exact H.step r fun A hx hby q => XS.sipush A hx rfl (hb hby hd) q
theorem Wk.lconst (H : Wk l Z y code mx ret R n0 W V) {i : Fin 2} {z : Int64} (hd : decode code pc = .ok (.lconst i, 1)) (r : W h k n pc Ls st) (hz : Int64.ofNat i = z) : W h k n (pc + 1) Ls (.long z :: st) := by
  subst hz
  exact H.step r fun A hx hby q => XS.lconst A hx rfl (hb hby hd) q
theorem Wk.fconst0 (H : Wk l Z y code mx ret R n0 W V) {v : UInt32} (hd : decode code pc = .ok (.fconst 0, 1)) (r : W h k n pc Ls st) (hv : FP.fconst0 = v) : W h k n (pc + 1) Ls (.float v :: st) :=
  H.step r fun A hx hby q => XS.fconst0 A hx rfl (hb hby hd) hv q
theorem Wk.fcmp (H : Wk l Z y code mx ret R n0 W V) {o : CmpOp} {x z : UInt32} {v : Int32} (hd : decode code pc = .ok (.fcmp o, 1)) (r : W h k n pc Ls (.float z :: .float x :: st)) (hv : cmpValue (FP.fcmp x z) o = v) : W h k n (pc + 1) Ls (.int v :: st) :=
  H.step r fun A hx hby q => XS.fcmpS A hx rfl (hb hby hd) rfl hv q
theorem Wk.aconstNull (H : Wk l Z y code mx ret R n0 W V) (hd : decode code pc = .ok (.aconst_null, 1)) (r : W h k n pc Ls (st)) : W h k n (pc + 1) Ls (.null :: st) :=
  H.step r fun A hx hby q => XS.aconstNull A hx rfl (hb hby hd)  q
theorem Wk.iadd (H : Wk l Z y code mx ret R n0 W V) {a b : Int32} (hd : decode code pc = .ok (.iadd, 1)) (r : W h k n pc Ls (.int b :: .int a :: st)) : W h k n (pc + 1) Ls (.int (a + b) :: st) :=
  H.step r fun A hx hby q => XS.iadd A hx rfl (hb hby hd) rfl q
theorem Wk.isub (H : Wk l Z y code mx ret R n0 W V) {a b : Int32} (hd : decode code pc = .ok (.isub, 1)) (r : W h k n pc Ls (.int b :: .int a :: st)) : W h k n (pc + 1) Ls (.int (a - b) :: st) :=
  H.step r fun A hx hby q => XS.isub A hx rfl (hb hby hd) rfl q
theorem Wk.iand (H : Wk l Z y code mx ret R n0 W V) {a b : Int32} (hd : decode code pc = .ok (.iand, 1)) (r : W h k n pc Ls (.int b :: .int a :: st)) : W h k n (pc + 1) Ls (.int (a &&& b) :: st) :=
  H.step r fun A hx hby q => XS.iand A hx rfl (hb hby hd) rfl q
theorem Wk.imul (H : Wk l Z y code mx ret R n0 W V) {a b : Int32} (hd : decode code pc = .ok (.imul, 1)) (r : W h k n pc Ls (.int b :: .int a :: st)) : W h k n (pc + 1) Ls (.int (a * b) :: st) :=
  H.step r fun A hx hby q => XS.imul A hx rfl (hb hby hd) rfl q
theorem Wk.ior (H : Wk l Z y code mx ret R n0 W V) {a b : Int32} (hd : decode code pc = .ok (.ior, 1)) (r : W h k n pc Ls (.int b :: .int a :: st)) : W h k n (pc + 1) Ls (.int (a ||| b) :: st) :=
  H.step r fun A hx hby q => XS.ior A hx rfl (hb hby hd) rfl q
theorem Wk.ixor (H : Wk l Z y code mx ret R n0 W V) {a b : Int32} (hd : decode code pc = .ok (.ixor, 1)) (r : W h k n pc Ls (.int b :: .int a :: st)) : W h k n (pc + 1) Ls (.int (a ^^^ b) :: st) :=
  H.step r fun A hx hby q => XS.ixor A hx rfl (hb hby hd) rfl q
theorem Wk.ishl (H : Wk l Z y code mx ret R n0 W V) {a b : Int32} (hd : decode code pc = .ok (.ishl, 1)) (r : W h k n pc Ls (.int b :: .int a :: st)) : W h k n (pc + 1) Ls (.int (a <<< (b &&& 31)) :: st) :=
  H.step r fun A hx hby q => XS.ishl A hx rfl (hb hby hd) rfl q
theorem Wk.ishr (H : Wk l Z y code mx ret R n0 W V) {a b : Int32} (hd : decode code pc = .ok (.ishr, 1)) (r : W h k n pc Ls (.int b :: .int a :: st)) : W h k n (pc + 1) Ls (.int (a >>> (b &&& 31)) :: st) :=
  H.step r fun A hx hby q => XS.ishr A hx rfl (hb hby hd) rfl q
theorem Wk.iushr (H : Wk l Z y code mx ret R n0 W V) {a b : Int32} (hd : decode code pc = .ok (.iushr, 1)) (r : W h k n pc Ls (.int b :: .int a :: st)) : W h k n (pc + 1) Ls (.int ((a.toUInt32 >>> (b &&& 31).toUInt32).toInt32) :: st) :=
  H.step r fun A hx hby q => XS.iushr A hx rfl (hb hby hd) rfl q
theorem Wk.ladd (H : Wk l Z y code mx ret R n0 W V) {a b : Int64} (hd : decode code pc = .ok (.ladd, 1)) (r : W h k n pc Ls (.long b :: .long a :: st)) : W h k n (pc + 1) Ls (.long (a + b) :: st) :=
  H.step r fun A hx hby q => XS.ladd A hx rfl (hb hby hd) rfl q
theorem Wk.lsub (H : Wk l Z y code mx ret R n0 W V) {a b : Int64} (hd : decode code pc = .ok (.lsub, 1)) (r : W h k n pc Ls (.long b :: .long a :: st)) : W h k n (pc + 1) Ls (.long (a - b) :: st) :=
  H.step r fun A hx hby q => XS.lsub A hx rfl (hb hby hd) rfl q
theorem Wk.lmul (H : Wk l Z y code mx ret R n0 W V) {a b : Int64} (hd : decode code pc = .ok (.lmul, 1)) (r : W h k n pc Ls (.long b :: .long a :: st)) : W h k n (pc + 1) Ls (.long (a * b) :: st) :=
  H.step r fun A hx hby q => XS.lmul A hx rfl (hb hby hd) rfl q
theorem Wk.land (H : Wk l Z y code mx ret R n0 W V) {a b : Int64} (hd : decode code pc = .ok (.land, 1)) (r : W h k n pc Ls (.long b :: .long a :: st)) : W h k n (pc + 1) Ls (.long (a &&& b) :: st) :=
  H.step r fun A hx hby q => XS.land A hx rfl (hb hby hd) rfl q
theorem Wk.lor (H : Wk l Z y code mx ret R n0 W V) {a b : Int64} (hd : decode code pc = .ok (.lor, 1)) (r : W h k n pc Ls (.long b :: .long a :: st)) : W h k n (pc + 1) Ls (.long (a ||| b) :: st) :=
  H.step r fun A hx hby q => XS.lor A hx rfl (hb hby hd) rfl q
theorem Wk.lxor (H : Wk l Z y code mx ret R n0 W V) {a b : Int64} (hd : decode code pc = .ok (.lxor, 1)) (r : W h k n pc Ls (.long b :: .long a :: st)) : W h k n (pc + 1) Ls (.long (a ^^^ b) :: st) :=
  H.step r fun A hx hby q => XS.lxor A hx rfl (hb hby hd) rfl q
theorem Wk.lshl (H : Wk l Z y code mx ret R n0 W V) {a : Int64} {b : Int32} (hd : decode code pc = .ok (.lshl, 1)) (r : W h k n pc Ls (.int b :: .long a :: st)) : W h k n (pc + 1) Ls (.long (a <<< (b &&& 0x3f).toInt64) :: st) :=
  H.step r fun A hx hby q => XS.lshl A hx rfl (hb hby hd) rfl q
theorem Wk.lshr (H : Wk l Z y code mx ret R n0 W V) {a : Int64} {b : Int32} (hd : decode code pc = .ok (.lshr, 1)) (r : W h k n pc Ls (.int b :: .long a :: st)) : W h k n (pc + 1) Ls (.long (a >>> (b &&& 0x3f).toInt64) :: st) :=
  H.step r fun A hx hby q => XS.lshr A hx rfl (hb hby hd) rfl q
theorem Wk.lushr (H : Wk l Z y code mx ret R n0 W V) {a : Int64} {b : Int32} (hd : decode code pc = .ok (.lushr, 1)) (r : W h k n pc Ls (.int b :: .long a :: st)) : W h k n (pc + 1) Ls (.long ((a.toUInt64 >>> (b &&& 0x3f).toInt64.toUInt64).toInt64) :: st) :=
  H.step r fun A hx hby q => XS.lushr A hx rfl (hb hby hd) rfl q
theorem Wk.ldiv (H : Wk l Z y code mx ret R n0 W V) {a b : Int64} (hd : decode code pc = .ok (.ldiv, 1)) (r : W h k n pc Ls (.long b :: .long a :: st)) (hy : b ≠ 0) : W h k n (pc + 1) Ls (.long (a / b) :: st) :=
  H.step r fun A hx hby q => XS.ldiv A hx rfl (hb hby hd) rfl hy q
theorem Wk.idiv (H : Wk l Z y code mx ret R n0 W V) {a b : Int32} (hd : decode code pc = .ok (.idiv, 1)) (r : W h k n pc Ls (.int b :: .int a :: st)) (hy : b ≠ 0) : W h k n (pc + 1) Ls (.int (a / b) :: st) :=
  H.step r fun A hx hby q => XS.idiv A hx rfl (hb hby hd) rfl hy q
theorem Wk.lrem (H : Wk l Z y code mx ret R n0 W V) {a b : Int64} (hd : decode code pc = .ok (.lrem, 1)) (r : W h k n pc Ls (.long b :: .long a :: st)) (hy : b ≠ 0) : W h k n (pc + 1) Ls (.long (a % b) :: st) := by
  rw [← lrem_mod a b]
  exact H.step r fun A hx hby q => XS.lrem A hx rfl (hb hby hd) rfl hy q
theorem Wk.irem (H : Wk l Z y code mx ret R n0 W V) {a b : Int32} (hd : decode code pc = .ok (.irem, 1)) (r : W h k n pc Ls (.int b :: .int a :: st)) (hy : b ≠ 0) : W h k n (pc + 1) Ls (.int (a % b) :: st) :=
  H.stepX r fun X hx hby hml hown hZ eT => ⟨_, X, eT, fun t q => iremM X hx rfl (hb hby hd) rfl hy q⟩
theorem Wk.i2b (H : Wk l Z y code mx ret R n0 W V) {a : Int32} (hd : decode code pc = .ok (.i2b, 1)) (r : W h k n pc Ls (.int a :: st)) : W h k n (pc + 1) Ls (.int (a.toInt8.toInt32) :: st) :=
  H.step r fun A hx hby q => XS.i2b A hx rfl (hb hby hd) rfl q
theorem Wk.i2c (H : Wk l Z y code mx ret R n0 W V) {a : Int32} (hd : decode code pc = .ok (.i2c, 1)) (r : W h k n pc Ls (.int a :: st)) : W h k n (pc + 1) Ls (.int (a.toUInt32.toUInt16.toUInt32.toInt32) :: st) :=
  H.step r fun A hx hby q => XS.i2c A hx rfl (hb hby hd) rfl q
theorem Wk.i2s (H : Wk l Z y code mx ret R n0 W V) {a : Int32} (hd : decode code pc = .ok (.i2s, 1)) (r : W h k n pc Ls (.int a :: st)) : W h k n (pc + 1) Ls (.int (a.toInt16.toInt32) :: st) :=
  H.step r fun A hx hby q => XS.i2s A hx rfl (hb hby hd) rfl q
theorem Wk.i2l (H : Wk l Z y code mx ret R n0 W V) {a : Int32} (hd : decode code pc = .ok (.i2l, 1)) (r : W h k n pc Ls (.int a :: st)) : W h k n (pc + 1) Ls (.long (a.toInt64) :: st) :=
  H.step r fun A hx hby q => XS.i2l A hx rfl (hb hby hd) rfl q
theorem Wk.l2i (H : Wk l Z y code mx ret R n0 W V) {a : Int64} (hd : decode code pc = .ok (.l2i, 1)) (r : W h k n pc Ls (.long a :: st)) : W h k n (pc + 1) Ls (.int (a.toInt32) :: st) :=
  H.step r fun A hx hby q => XS.l2i A hx rfl (hb hby hd) rfl q
theorem Wk.ineg (H : Wk l Z y code mx ret R n0 W V) {a : Int32} (hd : decode code pc = .ok (.ineg, 1)) (r : W h k n pc Ls (.int a :: st)) : W h k n (pc + 1) Ls (.int (-a) :: st) :=
  H.step r fun A hx hby q => XS.ineg A hx rfl (hb hby hd) rfl q
theorem Wk.lcmp (H : Wk l Z y code mx ret R n0 W V) {a b : Int64} (hd : decode code pc = .ok (.lcmp, 1)) (r : W h k n pc Ls (.long b :: .long a :: st)) : W h k n (pc + 1) Ls (.int (lcmpW a b) :: st) :=
  H.step r fun A hx hby q => XS.lcmp A hx rfl (hb hby hd) rfl q
theorem Wk.dup (H : Wk l Z y code mx ret R n0 W V) {v : Value} (hd : decode code pc = .ok (.dup, 1)) (r : W h k n pc Ls (v :: st)) (hc : v.category = 1) : W h k n (pc + 1) Ls (v :: v :: st) :=
  H.step r fun A hx hby q => XS.dup A hx rfl (hb hby hd) rfl hc q
theorem Wk.pop (H : Wk l Z y code mx ret R n0 W V) {v : Value} (hd : decode code pc = .ok (.pop, 1)) (r : W h k n pc Ls (v :: st)) (hc : v.category = 1) : W h k n (pc + 1) Ls (st) :=
  H.step r fun A hx hby q => XS.pop A hx rfl (hb hby hd) rfl hc q
theorem Wk.dupX1 (H : Wk l Z y code mx ret R n0 W V) {v w : Value} (hd : decode code pc = .ok (.dup_x1, 1)) (r : W h k n pc Ls (v :: w :: st)) (hc : v.category = 1) (hc2 : w.category = 1) : W h k n (pc + 1) Ls (v :: w :: v :: st) :=
  H.step r fun A hx hby q => XS.dupX1 A hx rfl (hb hby hd) rfl hc hc2 q
theorem Wk.istoreN (H : Wk l Z y code mx ret R n0 W V) {i : Fin 4} {v : Int32} (hd : decode code pc = .ok (.istore_n i, 1)) (r : W h k n pc Ls (.int v :: st)) (hl : storeLocals Ls i.val (.int v) = some Ls') : W h k n (pc + 1) Ls' (st) :=
  H.step r fun A hx hby q => XS.istoreN A hx rfl (hb hby hd) rfl hl q
theorem Wk.istore (H : Wk l Z y code mx ret R n0 W V) {i : Nat} {v : Int32} (hd : decode code pc = .ok (.istore i, 2)) (r : W h k n pc Ls (.int v :: st)) (hl : storeLocals Ls i (.int v) = some Ls') : W h k n (pc + 2) Ls' (st) :=
  H.step r fun A hx hby q => XS.istore A hx rfl (hb hby hd) rfl hl q
theorem Wk.lstoreN (H : Wk l Z y code mx ret R n0 W V) {i : Fin 4} {v : Int64} (hd : decode code pc = .ok (.lstore_n i, 1)) (r : W h k n pc Ls (.long v :: st)) (hl : storeLocals Ls i.val (.long v) = some Ls') : W h k n (pc + 1) Ls' (st) :=
  H.step r fun A hx hby q => XS.lstoreN A hx rfl (hb hby hd) rfl hl q
theorem Wk.lstore (H : Wk l Z y code mx ret R n0 W V) {i : Nat} {v : Int64} (hd : decode code pc = .ok (.lstore i, 2)) (r : W h k n pc Ls (.long v :: st)) (hl : storeLocals Ls i (.long v) = some Ls') : W h k n (pc + 2) Ls' (st) :=
  H.step r fun A hx hby q => XS.lstore A hx rfl (hb hby hd) rfl hl q
theorem Wk.astoreN (H : Wk l Z y code mx ret R n0 W V) {i : Fin 4} {v : Value} (hd : decode code pc = .ok (.astore_n i, 1)) (r : W h k n pc Ls (v :: st)) (hv : v.isRef = true) (hl : storeLocals Ls i.val v = some Ls') : W h k n (pc + 1) Ls' (st) :=
  H.step r fun A hx hby q => XS.astoreN A hx rfl (hb hby hd) rfl hv hl q
theorem Wk.astore (H : Wk l Z y code mx ret R n0 W V) {i : Nat} {v : Value} (hd : decode code pc = .ok (.astore i, 2)) (r : W h k n pc Ls (v :: st)) (hv : v.isRef = true) (hl : storeLocals Ls i v = some Ls') : W h k n (pc + 2) Ls' (st) :=
  H.step r fun A hx hby q => XS.astore A hx rfl (hb hby hd) rfl hv hl q
theorem Wk.istoreNS (H : Wk l Z y code mx ret R n0 W V) {i : Fin 4} {v : Int32} {o : Slot} (hd : decode code pc = .ok (.istore_n i, 1)) (r : W h k n pc Ls (.int v :: st)) (hold : Ls[i.val]? = some o) (ho : One o) : W h k n (pc + 1) (Ls.setIfInBounds i.val (.val (.int v))) st :=
  H.step r fun A hx hby q => XS.istoreNS A hx rfl (hb hby hd) rfl hold ho q
theorem Wk.istoreS (H : Wk l Z y code mx ret R n0 W V) {i : Nat} {v : Int32} {o : Slot} (hd : decode code pc = .ok (.istore i, 2)) (r : W h k n pc Ls (.int v :: st)) (hold : Ls[i]? = some o) (ho : One o) : W h k n (pc + 2) (Ls.setIfInBounds i (.val (.int v))) st :=
  H.step r fun A hx hby q => XS.istoreS A hx rfl (hb hby hd) rfl hold ho q
theorem Wk.iinc (H : Wk l Z y code mx ret R n0 W V) {i : Nat} {cst : Int} {v z : Int32} (hd : decode code pc = .ok (.iinc i cst, 3)) (r : W h k n pc Ls (st)) (hz : v + Int32.ofInt cst = z) (hl : Ls[i]? = some (.val (.int v))) (hl' : storeLocals Ls i (.int z) = some Ls') : W h k n (pc + 3) Ls' (st) :=
  H.step r fun A hx hby q => XS.iinc A hx rfl (hb hby hd) hl (hz ▸ hl') q
theorem Wk.goto (H : Wk l Z y code mx ret R n0 W V) {o : Int} (hd : decode code pc = .ok (.goto o, 3)) (r : W h k n pc Ls st) (ho : 0 ≤ (pc : Int) + o) (hp : ((pc : Int) + o).toNat = pc') : W h k n pc' Ls st :=
  H.step r fun A hx hby q => XS.goto A hx rfl rfl (hb hby hd) ho hp q
theorem Wk.ifYes (H : Wk l Z y code mx ret R n0 W V) {cd : ClassFile.Cond} {a : Int32} {o : Int} (hd : decode code pc = .ok (.ifCond cd o, 3)) (r : W h k n pc Ls (.int a :: st)) (ho : 0 ≤ (pc : Int) + o) (hp : ((pc : Int) + o).toNat = pc') (hc : if_icmp.holds cd a 0 = true) : W h k n pc' Ls st :=
  H.step r fun A hx hby q => XS.ifYes A hx rfl rfl (hb hby hd) rfl ((if0 cd a).trans hc) ho hp q
theorem Wk.ifNo (H : Wk l Z y code mx ret R n0 W V) {cd : ClassFile.Cond} {a : Int32} {o : Int} (hd : decode code pc = .ok (.ifCond cd o, 3)) (r : W h k n pc Ls (.int a :: st)) (hc : if_icmp.holds cd a 0 = false) : W h k n (pc + 3) Ls st :=
  H.step r fun A hx hby q => XS.ifNo A hx rfl (hb hby hd) rfl ((if0 cd a).trans hc) q
theorem Wk.icmpYes (H : Wk l Z y code mx ret R n0 W V) {cd : ClassFile.Cond} {a b : Int32} {o : Int} (hd : decode code pc = .ok (.if_icmp cd o, 3)) (r : W h k n pc Ls (.int b :: .int a :: st)) (ho : 0 ≤ (pc : Int) + o) (hp : ((pc : Int) + o).toNat = pc') (hc : if_icmp.holds cd a b = true) : W h k n pc' Ls st :=
  H.step r fun A hx hby q => XS.icmpYes A hx rfl rfl (hb hby hd) rfl hc ho hp q
theorem Wk.icmpNo (H : Wk l Z y code mx ret R n0 W V) {cd : ClassFile.Cond} {a b : Int32} {o : Int} (hd : decode code pc = .ok (.if_icmp cd o, 3)) (r : W h k n pc Ls (.int b :: .int a :: st)) (hc : if_icmp.holds cd a b = false) : W h k n (pc + 3) Ls st :=
  H.step r fun A hx hby q => XS.icmpNo A hx rfl (hb hby hd) rfl hc q
theorem Wk.ifnullYes (H : Wk l Z y code mx ret R n0 W V) {o : Int} (hd : decode code pc = .ok (.ifnull o, 3)) (r : W h k n pc Ls (.null :: st)) (ho : 0 ≤ (pc : Int) + o) (hp : ((pc : Int) + o).toNat = pc') : W h k n pc' Ls st :=
  H.step r fun A hx hby q => XS.ifnullYes A hx rfl rfl (hb hby hd) rfl ho hp q
theorem Wk.ifnullNo (H : Wk l Z y code mx ret R n0 W V) {a : Addr} {o : Int} (hd : decode code pc = .ok (.ifnull o, 3)) (r : W h k n pc Ls (.ref a :: st)) : W h k n (pc + 3) Ls st :=
  H.step r fun A hx hby q => XS.ifnullNo A hx rfl (hb hby hd) rfl q
theorem Wk.ifnonnullYes (H : Wk l Z y code mx ret R n0 W V) {a : Addr} {o : Int} (hd : decode code pc = .ok (.ifnonnull o, 3)) (r : W h k n pc Ls (.ref a :: st)) (ho : 0 ≤ (pc : Int) + o) (hp : ((pc : Int) + o).toNat = pc') : W h k n pc' Ls st :=
  H.step r fun A hx hby q => XS.ifnonnullYes A hx rfl rfl (hb hby hd) rfl ho hp q
theorem Wk.ifnonnullNo (H : Wk l Z y code mx ret R n0 W V) {o : Int} (hd : decode code pc = .ok (.ifnonnull o, 3)) (r : W h k n pc Ls (.null :: st)) : W h k n (pc + 3) Ls st :=
  H.step r fun A hx hby q => XS.ifnonnullNo A hx rfl (hb hby hd) rfl q
theorem Wk.acmpYes (H : Wk l Z y code mx ret R n0 W V) {cd : ClassFile.ACond} {a b : Value} {o : Int} (hd : decode code pc = .ok (.if_acmp cd o, 3)) (r : W h k n pc Ls (b :: a :: st)) (ho : 0 ≤ (pc : Int) + o) (hp : ((pc : Int) + o).toNat = pc') (ha : a.isRef = true) (hb' : b.isRef = true) (hc : XT.acmp cd a b = true) : W h k n pc' Ls st :=
  H.step r fun A hx hby q => XT.acmpYes A hx rfl rfl (hb hby hd) rfl ha hb' hc ho hp q
theorem Wk.acmpNo (H : Wk l Z y code mx ret R n0 W V) {cd : ClassFile.ACond} {a b : Value} {o : Int} (hd : decode code pc = .ok (.if_acmp cd o, 3)) (r : W h k n pc Ls (b :: a :: st)) (ha : a.isRef = true) (hb' : b.isRef = true) (hc : XT.acmp cd a b = false) : W h k n (pc + 3) Ls st :=
  H.step r fun A hx hby q => XT.acmpNo A hx rfl (hb hby hd) rfl ha hb' hc q
theorem Wk.lookHit (H : Wk l Z y code mx ret R n0 W V) {z : Int32} {dflt : Int} {pairs : Array (Int × Int)} {len : Nat} {a off : Int} (hsorted : (pairs.toList.zip (pairs.toList.drop 1)).all (fun (a, next) => a.1 < next.1) = true) (hfind : pairs.find? (·.1 == z.toInt) = some (a, off)) (ho : 0 ≤ (pc : Int) + off) (hp : ((pc : Int) + off).toNat = pc') (hd : decode code pc = .ok (.lookupswitch dflt pairs, len)) (r : W h k n pc Ls (.int z :: st)) : W h k n pc' Ls st := by
  subst hp
  exact H.stepX r fun X hx hby hml hown hZ eT => ⟨_, X, eT, fun t q => X.lookupswitchHit hx (g := mkF _ pc Ls (.int z :: st)) rfl rfl (hb hby hd) hsorted hfind ho t q⟩
theorem Wk.lookMiss (H : Wk l Z y code mx ret R n0 W V) {z : Int32} {dflt : Int} {pairs : Array (Int × Int)} {len : Nat} (hsorted : (pairs.toList.zip (pairs.toList.drop 1)).all (fun (a, next) => a.1 < next.1) = true) (hfind : pairs.find? (·.1 == z.toInt) = none) (ho : 0 ≤ (pc : Int) + dflt) (hp : ((pc : Int) + dflt).toNat = pc') (hd : decode code pc = .ok (.lookupswitch dflt pairs, len)) (r : W h k n pc Ls (.int z :: st)) : W h k n pc' Ls st := by
  subst hp
  exact H.stepX r fun X hx hby hml hown hZ eT => ⟨_, X, eT, fun t q => X.lookupswitchMiss hx (g := mkF _ pc Ls (.int z :: st)) rfl rfl (hb hby hd) hsorted hfind ho t q⟩
theorem Wk.getS (H : Wk l Z y code mx ret R n0 W V) {i : Nat} {O nm d : String} {v : Value} (w : (Jvm.Cond.fieldLink y.cls i O nm d).before a0 Z = true) (F : Sta Z h O nm d v) (hd : decode code pc = .ok (.getstatic i, 3)) (r : W h k n pc Ls st) : W h k n (pc + 3) Ls (v :: st) :=
  H.stepX r fun X hx hby hml hown hZ eT => RoadKit.getS X hx hZ (host := "") hown w Via.refl eT F (g := mkF _ pc Ls st) rfl (hb hby hd)
theorem Wk.instY (H : Wk l Z y code mx ret R n0 W V) {i : Nat} {K : String} {a : Addr} (w : (Jvm.Cond.classLink y.cls i K).before a0 Z = true) (F : Ins Z h a K true) (hd : decode code pc = .ok (.instanceof i, 3)) (r : W h k n pc Ls (.ref a :: st)) : W h k n (pc + 3) Ls (.int 1 :: st) :=
  H.stepX r fun X hx hby hml hown hZ eT => RoadKit.instY X hx hZ hown w eT F (g := mkF _ pc Ls (.ref a :: st)) rfl rfl (hb hby hd)
theorem Wk.instNo (H : Wk l Z y code mx ret R n0 W V) {i : Nat} {K C : String} {a : Addr} (w : (Jvm.Cond.classLink y.cls i K).before a0 Z = true) (E : Exa Z h a C) (F : ∃ c t, Z.vm.findClass C = some c ∧ Z.vm.findClass K = some t ∧ Z.vm.assignable c t = false) (hd : decode code pc = .ok (.instanceof i, 3)) (r : W h k n pc Ls (.ref a :: st)) : W h k n (pc + 3) Ls (.int 0 :: st) :=
  H.stepX r fun X hx hby hml hown hZ eT => RoadKit.instNo X hx hZ hown w eT E F (g := mkF _ pc Ls (.ref a :: st)) rfl rfl (hb hby hd)
theorem Wk.instNull (H : Wk l Z y code mx ret R n0 W V) {i : Nat} (hd : decode code pc = .ok (.instanceof i, 3)) (r : W h k n pc Ls (.null :: st)) : W h k n (pc + 3) Ls (.int 0 :: st) :=
  H.stepX r fun X hx hby hml hown hZ eT => ⟨_, X, eT, X.instanceofNull hx (g := mkF _ pc Ls (.null :: st)) rfl rfl (hb hby hd)⟩
theorem Wk.castY (H : Wk l Z y code mx ret R n0 W V) {i : Nat} {K : String} {a : Addr} (w : (Jvm.Cond.classLink y.cls i K).before a0 Z = true) (F : Ins Z h a K true) (hd : decode code pc = .ok (.checkcast i, 3)) (r : W h k n pc Ls (.ref a :: st)) : W h k n (pc + 3) Ls (.ref a :: st) :=
  H.stepX r fun X hx hby hml hown hZ eT => RoadKit.castY X hx hZ hown w eT F (g := mkF _ pc Ls (.ref a :: st)) rfl rfl (hb hby hd)
theorem Wk.castNull (H : Wk l Z y code mx ret R n0 W V) {i : Nat} (hd : decode code pc = .ok (.checkcast i, 3)) (r : W h k n pc Ls (.null :: st)) : W h k n (pc + 3) Ls (.null :: st) :=
  H.stepX r fun X hx hby hml hown hZ eT => ⟨_, X, eT, X.checkcastNull hx (g := mkF _ pc Ls (.null :: st)) rfl rfl (hb hby hd)⟩
theorem Wk.ldcInt (H : Wk l Z y code mx ret R n0 W V) {i : Nat} {v : Int32} (hd : decode code pc = .ok (.ldc i, 2)) (r : W h k n pc Ls st) (w : (Jvm.Cond.constant y.cls i v).before a0 Z = true) : W h k n (pc + 2) Ls (.int v :: st) :=
  H.stepX r fun X hx hby hml hown hZ eT => ⟨_, X, eT, X.ldcInt hx hown (mvT hZ w) (g := mkF _ pc Ls st) rfl (hb hby hd)⟩
theorem Wk.ldcWInt (H : Wk l Z y code mx ret R n0 W V) {i : Nat} {v : Int32} (hd : decode code pc = .ok (.ldc_w i, 3)) (r : W h k n pc Ls st) (w : (Jvm.Cond.constant y.cls i v).before a0 Z = true) : W h k n (pc + 3) Ls (.int v :: st) :=
  H.stepX r fun {p e s m args below meth c T locs} X hx hby hml hown hZ eT => ⟨T, X, eT, fun t q => by
    obtain ⟨kc, cf, bytes, hk, hcf, hcp, hb'⟩ := Cond.constant_spec hown (mvT (args := args) hZ w)
    obtain ⟨k', hk', he⟩ := X.warmed.alike.2.2 _ _ hk
    have hdg := hb hby hd
    show Steps p.tables e below (T.setTop (mkF m pc Ls st)) t
    jvm_step X.here [hx, hdg, ldc_w.wp_int (s := T) (f := mkF m pc Ls st) X.here.top hk' (by rw [he]; exact hcf) hcp, hb']
    exact q⟩
theorem Wk.ldcFloat (H : Wk l Z y code mx ret R n0 W V) {i : Nat} {v : UInt32} (w : (Jvm.Cond.constantFloat y.cls i v).before a0 Z = true) (hd : decode code pc = .ok (.ldc i, 2)) (r : W h k n pc Ls st) : W h k n (pc + 2) Ls (.float v :: st) :=
  H.stepX r fun X hx hby hml hown hZ eT => ⟨_, X, eT, X.ldcFloatC hx hown (mvT hZ w) (g := mkF _ pc Ls st) rfl (hb hby hd)⟩
theorem Wk.ldcLong (H : Wk l Z y code mx ret R n0 W V) {i : Nat} {v : Int64} (hd : decode code pc = .ok (.ldc2_w i, 3)) (r : W h k n pc Ls st) (w : (Jvm.Cond.constantLong y.cls i v).before a0 Z = true) : W h k n (pc + 3) Ls (.long v :: st) :=
  H.stepX r fun X hx hby hml hown hZ eT => ⟨_, X, eT, X.ldc2Long hx hown (mvT hZ w) (g := mkF _ pc Ls st) rfl (hb hby hd)⟩
theorem Wk.getF (H : Wk l Z y code mx ret R n0 W V) {i : Nat} {R0 O nm d host : String} {a : Addr} {v : Value} (w : (Jvm.Cond.fieldLink y.cls i R0 nm d).before a0 Z = true ∨ (Jvm.Cond.fieldLinkNest y.cls i R0 nm d host).before a0 Z = true) (via : Via Z R0 O nm d) (F : Fld Z h a O nm d v) (hd : decode code pc = .ok (.getfield i, 3)) (r : W h k n pc Ls (.ref a :: st)) : W h k n (pc + 3) Ls (v :: st) :=
  H.stepX r fun X hx hby hml hown hZ eT => RoadKit.getF X hx hZ hown w via eT F (g := mkF _ pc Ls (.ref a :: st)) rfl rfl (hb hby hd)
theorem Wk.getF' (H : Wk l Z y code mx ret R n0 W V) {i : Nat} {O nm d : String} {a : Addr} {v : Value} (w : (Jvm.Cond.fieldLink y.cls i O nm d).before a0 Z = true) (F : Fld Z h a O nm d v) (hd : decode code pc = .ok (.getfield i, 3)) (r : W h k n pc Ls (.ref a :: st)) : W h k n (pc + 3) Ls (v :: st) :=
  H.getF (host := "") (Or.inl w) Via.refl F hd r
theorem Wk.putF (H : Wk l Z y code mx ret R n0 W V) {i kk : Nat} {R0 O nm d host C : String} {ty : FieldType} {a : Addr} {v old : Value} (w : (Jvm.Cond.fieldLink y.cls i R0 nm d).before a0 Z = true ∨ (Jvm.Cond.fieldLinkNest y.cls i R0 nm d host).before a0 Z = true) (via : Via Z R0 O nm d) (F : Fld Z h a O nm d old) (E : Exa Z h a C) (L : (Jvm.Cond.lays C O nm d).before a0 Z = true ∨ ((Jvm.Cond.laysFinal C O nm d).before a0 Z = true ∧ y.cls = O ∧ y.name = "<init>")) (wi : (Jvm.Cond.instantiable C kk).before a0 Z = true)
    (hty : parseFieldDescriptor d = some ty) (hn : narrow ty v = v) (hf : fits ty v = true) (hn0 : n0 ≤ a) (hd : decode code pc = .ok (.putfield i, 3)) (r : W h k n pc Ls (v :: .ref a :: st)) : ∃ h', Wr h h' a (Jvm.RoadKit.slotOf Z O nm d) v ∧ W h' k n (pc + 3) Ls st := by
  obtain ⟨p, e, s, m, args, below, meth, c, S0, hx, hby, hml, hown, hZ, hnm, hret, hlk, rfl, rfl⟩ := H
  obtain ⟨T, locs, X, eh, N, sp⟩ := r
  obtain ⟨T', h', X', e', W', q⟩ := RoadKit.putF X hx hZ hown w via eh F E (L.imp id fun u => ⟨u.1, u.2.1, by rw [hnm]; exact u.2.2⟩) wi hty hn hf (g := mkF m pc Ls (v :: .ref a :: st)) rfl rfl (hb hby hd)
  exact ⟨h', W', T', _, X', e', Fr.snoc X' N hn0, fun t u => sp t (q t u)⟩
theorem Wk.newO (H : Wk l Z y code mx ret R n0 W V) {i q : Nat} {C : String} (w : (Jvm.Cond.classLink y.cls i C).before a0 Z = true) (wi : (Jvm.Cond.instantiable C q).before a0 Z = true) (wz : (Jvm.Cond.initialized C).before a0 Z = true) (hc : k + 1 ≤ R.cells) (hl : n + q ≤ R.slots) (hd : decode code pc = .ok (.new i, 3)) (r : W h k n pc Ls st) :
    ∃ h' a, a = h.size ∧ Ext h h' ∧ Exa Z h' a C ∧ (∀ {O nm d : String} {ty : FieldType}, Laid Z a0 C O nm d → parseFieldDescriptor d = some ty → Fld Z h' a O nm d (defaultValue ty)) ∧ (∃ cell : Cell, h'[a]? = some cell ∧ cell.vm = .none ∧ cell.monitor = {}) ∧ W h' (k + 1) (n + q) (pc + 3) Ls (.ref a :: st) := by
  obtain ⟨p, e, s, m, args, below, meth, c, S0, hx, hby, hml, hown, hZ, hnm, hret, hlk, rfl, rfl⟩ := H
  obtain ⟨T, locs, X, eh, N, sp⟩ := r
  obtain ⟨T', h', X', e', E', A', D', U', q'⟩ := RoadKit.newO X hx hZ hown w wi wz eh (g := mkF m pc Ls st) rfl (hb hby hd) hc hl
  exact ⟨h', _, rfl, E', A', D', U', T', _, X', e', N, fun t u => sp t (q' t u)⟩
theorem Wk.newP (H : Wk l Z y code mx ret R n0 W V) {aty : ArrayType} {ty : FieldType} {z : Int32} {cap : Nat} (hty : newarray.typeOf aty = ty) (w : (Jvm.Cond.arrayClass ty).before a0 Z = true) (hn : ¬ z < 0) (hcap : z.toNatClampNeg ≤ cap) (hb8 : cap * 8 ≤ 536870912) (hc : k + 1 ≤ R.cells) (hl : n + cap ≤ R.slots) (hd : decode code pc = .ok (.newarray aty, 2)) (r : W h k n pc Ls (.int z :: st)) :
    ∃ h' a cA, a = h.size ∧ Ext h h' ∧ Arr Z h' a (newA cA ty z) ty ∧ W h' (k + 1) (n + cap) (pc + 2) Ls (.ref a :: st) := by
  subst hty
  obtain ⟨p, e, s, m, args, below, meth, c, S0, hx, hby, hml, hown, hZ, hnm, hret, hlk, rfl, rfl⟩ := H
  obtain ⟨T, locs, X, eh, N, sp⟩ := r
  obtain ⟨T', h', cA, X', e', E', A', q'⟩ := RoadKit.newP X hx hZ w eh (g := mkF m pc Ls (.int z :: st)) rfl (hb hby hd) rfl hn hcap hb8 hc hl
  exact ⟨h', _, cA, rfl, E', A', T', _, X', e', N, fun t u => sp t (q' t u)⟩
theorem Wk.arrLen (H : Wk l Z y code mx ret R n0 W V) {a : Addr} {cl : Cell} {ty : FieldType} {z : Int32} (A : Arr Z h a cl ty) (hz : cl.slots.size.toInt32 = z) (hd : decode code pc = .ok (.arraylength, 1)) (r : W h k n pc Ls (.ref a :: st)) : W h k n (pc + 1) Ls (.int z :: st) := by
  subst hz
  exact H.stepX r fun X hx hby hml hown hZ eT => ⟨_, X, eT, X.arraylength hx (by rw [eT]; exact A.1) (State.isArrayOf_alike hZ.alike A.2.1) (g := mkF _ pc Ls (.ref a :: st)) rfl rfl (hb hby hd)⟩
theorem Wk.iaload (H : Wk l Z y code mx ret R n0 W V) {a : Addr} {cl : Cell} {j : Int32} {v : Value} (A : Arr Z h a cl .int) (hin : ¬ (j < 0 ∨ cl.slots.size ≤ j.toNatClampNeg)) (hv : cl.slots[j.toNatClampNeg]? = some v) (hd : decode code pc = .ok (.iaload, 1)) (r : W h k n pc Ls (.int j :: .ref a :: st)) : W h k n (pc + 1) Ls (v :: st) :=
  H.stepX r fun X hx hby hml hown hZ eT => ⟨_, X, eT, X.iaload hx (by rw [eT]; exact A.1) (State.isArrayOf_alike hZ.alike A.2.1) A.2.2 hin hv (g := mkF _ pc Ls (.int j :: .ref a :: st)) rfl rfl (hb hby hd)⟩
theorem Wk.laload (H : Wk l Z y code mx ret R n0 W V) {a : Addr} {cl : Cell} {j : Int32} {v : Value} (A : Arr Z h a cl .long) (hin : ¬ (j < 0 ∨ cl.slots.size ≤ j.toNatClampNeg)) (hv : cl.slots[j.toNatClampNeg]? = some v) (hd : decode code pc = .ok (.laload, 1)) (r : W h k n pc Ls (.int j :: .ref a :: st)) : W h k n (pc + 1) Ls (v :: st) :=
  H.stepX r fun X hx hby hml hown hZ eT => ⟨_, X, eT, X.laload hx (by rw [eT]; exact A.1) (State.isArrayOf_alike hZ.alike A.2.1) A.2.2 hin hv (g := mkF _ pc Ls (.int j :: .ref a :: st)) rfl rfl (hb hby hd)⟩
theorem Wk.caload (H : Wk l Z y code mx ret R n0 W V) {a : Addr} {cl : Cell} {j : Int32} {v : Value} (A : Arr Z h a cl .char) (hin : ¬ (j < 0 ∨ cl.slots.size ≤ j.toNatClampNeg)) (hv : cl.slots[j.toNatClampNeg]? = some v) (hd : decode code pc = .ok (.caload, 1)) (r : W h k n pc Ls (.int j :: .ref a :: st)) : W h k n (pc + 1) Ls (v :: st) :=
  H.stepX r fun X hx hby hml hown hZ eT => ⟨_, X, eT, X.caload hx (by rw [eT]; exact A.1) (State.isArrayOf_alike hZ.alike A.2.1) A.2.2 hin hv (g := mkF _ pc Ls (.int j :: .ref a :: st)) rfl rfl (hb hby hd)⟩
theorem Wk.baload (H : Wk l Z y code mx ret R n0 W V) {a : Addr} {cl : Cell} {j : Int32} {v : Value} (A : Arr Z h a cl .byte) (hin : ¬ (j < 0 ∨ cl.slots.size ≤ j.toNatClampNeg)) (hv : cl.slots[j.toNatClampNeg]? = some v) (hd : decode code pc = .ok (.baload, 1)) (r : W h k n pc Ls (.int j :: .ref a :: st)) : W h k n (pc + 1) Ls (v :: st) :=
  H.stepX r fun X hx hby hml hown hZ eT => ⟨_, X, eT, X.baloadBytes hx (by rw [eT]; exact A.1) (State.isArrayOf_alike hZ.alike A.2.1) A.2.2 hin hv (g := mkF _ pc Ls (.int j :: .ref a :: st)) rfl rfl (hb hby hd)⟩
theorem Wk.aaload (H : Wk l Z y code mx ret R n0 W V) {a : Addr} {cl : Cell} {ty : FieldType} {j : Int32} {v : Value} (A : Arr Z h a cl ty) (hty : ty.isReference = true) (hin : ¬ (j < 0 ∨ cl.slots.size ≤ j.toNatClampNeg)) (hv : cl.slots[j.toNatClampNeg]? = some v) (hd : decode code pc = .ok (.aaload, 1)) (r : W h k n pc Ls (.int j :: .ref a :: st)) : W h k n (pc + 1) Ls (v :: st) :=
  H.stepX r fun X hx hby hml hown hZ eT => ⟨_, X, eT, X.aaload hx (by rw [eT]; exact A.1) (State.isArrayOf_alike hZ.alike A.2.1) hty A.2.2 hin hv (g := mkF _ pc Ls (.int j :: .ref a :: st)) rfl rfl (hb hby hd)⟩
theorem Wk.stI (H : Wk l Z y code mx ret R n0 W V) {a : Addr} {cl : Cell} {j : Int32} {x : Int32} (A : Arr Z h a cl .int) (hin : ¬ (j < 0 ∨ cl.slots.size ≤ j.toNatClampNeg)) (hn0 : n0 ≤ a) (hd : decode code pc = .ok (.iastore, 1)) (r : W h k n pc Ls (.int x :: .int j :: .ref a :: st)) : ∃ h', Wr h h' a j.toNatClampNeg (.int x) ∧ W h' k n (pc + 1) Ls st := by
  obtain ⟨p, e, s, m, args, below, meth, c, S0, hx, hby, hml, hown, hZ, hnm, hret, hlk, rfl, rfl⟩ := H
  obtain ⟨T, locs, X, eh, N, sp⟩ := r
  obtain ⟨T', h', X', e', W', q⟩ := RoadKit.stI X hx hZ eh A hin (g := mkF m pc Ls (.int x :: .int j :: .ref a :: st)) rfl rfl (hb hby hd)
  exact ⟨h', W', T', _, X', e', Fr.snoc X' N hn0, fun t u => sp t (q t u)⟩
theorem Wk.stJ (H : Wk l Z y code mx ret R n0 W V) {a : Addr} {cl : Cell} {j : Int32} {x : Int64} (A : Arr Z h a cl .long) (hin : ¬ (j < 0 ∨ cl.slots.size ≤ j.toNatClampNeg)) (hn0 : n0 ≤ a) (hd : decode code pc = .ok (.lastore, 1)) (r : W h k n pc Ls (.long x :: .int j :: .ref a :: st)) : ∃ h', Wr h h' a j.toNatClampNeg (.long x) ∧ W h' k n (pc + 1) Ls st := by
  obtain ⟨p, e, s, m, args, below, meth, c, S0, hx, hby, hml, hown, hZ, hnm, hret, hlk, rfl, rfl⟩ := H
  obtain ⟨T, locs, X, eh, N, sp⟩ := r
  obtain ⟨T', h', X', e', W', q⟩ := RoadKit.stJ X hx hZ eh A hin (g := mkF m pc Ls (.long x :: .int j :: .ref a :: st)) rfl rfl (hb hby hd)
  exact ⟨h', W', T', _, X', e', Fr.snoc X' N hn0, fun t u => sp t (q t u)⟩
theorem Wk.stC (H : Wk l Z y code mx ret R n0 W V) {a : Addr} {cl : Cell} {j : Int32} {x : Int32} (A : Arr Z h a cl .char) (hin : ¬ (j < 0 ∨ cl.slots.size ≤ j.toNatClampNeg)) (hn0 : n0 ≤ a) (hd : decode code pc = .ok (.castore, 1)) (r : W h k n pc Ls (.int x :: .int j :: .ref a :: st)) : ∃ h', Wr h h' a j.toNatClampNeg (.int (nar .char x)) ∧ W h' k n (pc + 1) Ls st := by
  obtain ⟨p, e, s, m, args, below, meth, c, S0, hx, hby, hml, hown, hZ, hnm, hret, hlk, rfl, rfl⟩ := H
  obtain ⟨T, locs, X, eh, N, sp⟩ := r
  obtain ⟨T', h', X', e', W', q⟩ := RoadKit.stC X hx hZ eh A hin (g := mkF m pc Ls (.int x :: .int j :: .ref a :: st)) rfl rfl (hb hby hd)
  exact ⟨h', W', T', _, X', e', Fr.snoc X' N hn0, fun t u => sp t (q t u)⟩
theorem Wk.stB (H : Wk l Z y code mx ret R n0 W V) {a : Addr} {cl : Cell} {j : Int32} {x : Int32} (A : Arr Z h a cl .byte) (hin : ¬ (j < 0 ∨ cl.slots.size ≤ j.toNatClampNeg)) (hn0 : n0 ≤ a) (hd : decode code pc = .ok (.bastore, 1)) (r : W h k n pc Ls (.int x :: .int j :: .ref a :: st)) : ∃ h', Wr h h' a j.toNatClampNeg (.int (nar .byte x)) ∧ W h' k n (pc + 1) Ls st := by
  obtain ⟨p, e, s, m, args, below, meth, c, S0, hx, hby, hml, hown, hZ, hnm, hret, hlk, rfl, rfl⟩ := H
  obtain ⟨T, locs, X, eh, N, sp⟩ := r
  obtain ⟨T', h', X', e', W', q⟩ := RoadKit.stB X hx hZ eh A hin (g := mkF m pc Ls (.int x :: .int j :: .ref a :: st)) rfl rfl (hb hby hd)
  exact ⟨h', W', T', _, X', e', Fr.snoc X' N hn0, fun t u => sp t (q t u)⟩
theorem Wk.initO (H : Wk l Z y code mx ret R n0 W V) {i w : Nat} {a : Addr} (w1 : (Jvm.Cond.methodLink y.cls i Lib.objectInit).before a0 Z = true) (w2 : (Jvm.Cond.instanceMethod Lib.objectInit).before a0 Z = true) (w3 : (Jvm.Cond.code Lib.objectInit ⟨#[0xb1]⟩ 1 none).before a0 Z = true) (hsz : Ls.size = mx) (hf : 1 ≤ R.frames) (hw : (st.map fun v => v.category).sum ≤ w) (hl : w + 12 ≤ R.locals) (hd : decode code pc = .ok (.invokespecial i, 3)) (r : W h k n pc Ls (.ref a :: st)) : W h k n (pc + 3) Ls st :=
  H.stepX r fun X hx hby hml hown hZ eT => RoadKit.initO X hx hZ hown w1 w2 w3 eT (g := mkF _ pc Ls (.ref a :: st)) rfl (by rw [hml]; exact hsz) rfl (hb hby hd) hf (by show 2 * 0 + _ ≤ _; omega) hl
variable {y' : MethodName} {bytes' : ByteArray} {mx' : Nat} {ret' : Option FieldType} {rm' : Room} {as' : Array Value} {Q : Option Value → Heap → Prop} {i w : Nat} {ps : List FieldType} {rt : Option FieldType} {argsL rest : List Value}
theorem Wk.callS (H : Wk l Z y code mx ret R n0 W V) (w1 : (Jvm.Cond.methodLink y.cls i y').before a0 Z = true) (w2 : (Jvm.Cond.static y').before a0 Z = true) (w3 : (Jvm.Cond.initialized y'.cls).before a0 Z = true) (w4 : (Jvm.Cond.code y' bytes' mx' ret').before a0 Z = true) (hy : y'.cls ≠ "java/lang/invoke/MethodHandle" ∧ y'.cls ≠ "java/lang/invoke/VarHandle")
    (hpd : parseMethodDescriptor y'.desc = some ⟨ps, rt⟩) (hf : rm'.frames + 1 ≤ R.frames) (hl : w + (mx' + 11) + rm'.locals ≤ R.locals) (hc : k + rm'.cells ≤ R.cells) (hn : n + rm'.slots ≤ R.slots) (hM : Ct l Z y' bytes' mx' ret' rm' n0 argsL.toArray h Q) (hlen : argsL.length = ps.length) (hsz : Ls.size = mx) (hw : (rest.map fun v => v.category).sum ≤ w) (hst : st = argsL.reverse ++ rest) (hd : decode code pc = .ok (.invokestatic i, 3)) (r : W h k n pc Ls st) :
    ∃ v h', Q v h' ∧ W h' (k + rm'.cells) (n + rm'.slots) (pc + 3) Ls (v.toList ++ rest) := by
  subst hst
  obtain ⟨p, e, s, m, args, below, meth, c, S0, hx, hby, hml, hown, hZ, hnm, hret, hlk, rfl, rfl⟩ := H
  obtain ⟨T, locs, X, eh, N, sp⟩ := r
  obtain ⟨v, _, ⟨T1, L1, k1, n1⟩, -, X1, ⟨Lc, hQ, g1, g2, g3⟩, st1⟩ := Jvm.LawKit.callS X hx (y := y') hown (mvT hZ w1) (mvT hZ w2) (mvT hZ w3) (mvT hZ w4) hy (backOf (W := w) (Q := fun v hh L => Q v hh ∧ Fr n0 L) (hM []) hZ w4 w3 hf hl) (g := mkF m pc Ls (argsL.reverse ++ rest)) rfl (by rw [hml]; exact hsz) (argsL := argsL) (rest := rest) (lenOf hpd hlen) rfl (by show 2 * 0 + _ ≤ _; omega) (hb hby hd) (fun _ _ => ⟨rfl, eh, hc, hn⟩)
  dsimp only [Pt.U, Pt.locs, Pt.cells, Pt.slots] at X1 g1 g2 g3 st1 hQ
  subst g1 g2 g3
  exact ⟨v, T1.heap, hQ.1, T1, _, X1, rfl, Fr.app N hQ.2, fun t u => sp t (st1 t u)⟩
theorem Wk.callI (H : Wk l Z y code mx ret R n0 W V) {a : Addr} (hi : y'.name = "<init>") (w1 : (Jvm.Cond.methodLink y.cls i y').before a0 Z = true) (w2 : (Jvm.Cond.instanceMethod y').before a0 Z = true) (w3 : (Jvm.Cond.initialized y'.cls).before a0 Z = true) (w4 : (Jvm.Cond.code y' bytes' mx' none).before a0 Z = true) (hy : y'.cls ≠ "java/lang/invoke/MethodHandle" ∧ y'.cls ≠ "java/lang/invoke/VarHandle")
    (hpd : parseMethodDescriptor y'.desc = some ⟨ps, rt⟩) (hf : rm'.frames + 1 ≤ R.frames) (hl : w + (mx' + 11) + rm'.locals ≤ R.locals) (hc : k + rm'.cells ≤ R.cells) (hn : n + rm'.slots ≤ R.slots) (hM : Ct l Z y' bytes' mx' none rm' n0 (.ref a :: argsL).toArray h Q) (hlen : argsL.length = ps.length) (hsz : Ls.size = mx) (hw : (rest.map fun v => v.category).sum ≤ w) (hst : st = argsL.reverse ++ .ref a :: rest) (hd : decode code pc = .ok (.invokespecial i, 3)) (r : W h k n pc Ls st) :
    ∃ v h', Q v h' ∧ W h' (k + rm'.cells) (n + rm'.slots) (pc + 3) Ls (v.toList ++ rest) := by
  subst hst
  obtain ⟨p, e, s, m, args, below, meth, c, S0, hx, hby, hml, hown, hZ, hnm, hret, hlk, rfl, rfl⟩ := H
  obtain ⟨T, locs, X, eh, N, sp⟩ := r
  obtain ⟨v, _, ⟨T1, L1, k1, n1⟩, -, X1, ⟨Lc, hQ, g1, g2, g3⟩, st1⟩ := X.specialBack hx (y := y') hi hown (mvT hZ w1) (mvT hZ w2) (mvT hZ w4) hy (backOf (W := w) (Q := fun v hh L => Q v hh ∧ Fr n0 L) (hM []) hZ w4 w3 hf hl) (g := mkF m pc Ls (argsL.reverse ++ .ref a :: rest)) rfl (by rw [hml]; exact hsz) (Steps.refl _) (a := a) (argsL := argsL) (rest := rest) (lenOf hpd hlen) rfl (by show 2 * 0 + _ ≤ _; omega) (hb hby hd) (fun _ _ => ⟨rfl, eh, hc, hn⟩)
  dsimp only [Pt.U, Pt.locs, Pt.cells, Pt.slots] at X1 g1 g2 g3 st1 hQ
  subst g1 g2 g3
  exact ⟨v, T1.heap, hQ.1, T1, _, X1, rfl, Fr.app N hQ.2, fun t u => sp t (st1.trans u)⟩
theorem Wk.callV (H : Wk l Z y code mx ret R n0 W V) {a : Addr} {C : String} {z' : MethodName} (w1 : (Jvm.Cond.methodLink y.cls i z').before a0 Z = true) (w2 : (Jvm.Cond.declares z').before a0 Z = true) (nf : NF Z a0 z') (w5 : (Jvm.Cond.selects C z' y').before a0 Z = true) (w6 : (Jvm.Cond.instanceMethod y').before a0 Z = true) (w3 : (Jvm.Cond.initialized y'.cls).before a0 Z = true) (w4 : (Jvm.Cond.code y' bytes' mx' ret').before a0 Z = true) (hy : z'.cls ≠ "java/lang/invoke/MethodHandle" ∧ z'.cls ≠ "java/lang/invoke/VarHandle")
    (hpd : parseMethodDescriptor z'.desc = some ⟨ps, rt⟩) (hf : rm'.frames + 1 ≤ R.frames) (hl : w + (mx' + 11) + rm'.locals ≤ R.locals) (hc : k + rm'.cells ≤ R.cells) (hn : n + rm'.slots ≤ R.slots) (E : Exa Z h a C) (hM : Ct l Z y' bytes' mx' ret' rm' n0 (.ref a :: argsL).toArray h Q) (hlen : argsL.length = ps.length) (hsz : Ls.size = mx) (hw : (rest.map fun v => v.category).sum ≤ w) (hst : st = argsL.reverse ++ .ref a :: rest) (hd : decode code pc = .ok (.invokevirtual i, 3)) (r : W h k n pc Ls st) :
    ∃ v h', Q v h' ∧ W h' (k + rm'.cells) (n + rm'.slots) (pc + 3) Ls (v.toList ++ rest) := by
  subst hst
  obtain ⟨p, e, s, m, args, below, meth, c, S0, hx, hby, hml, hown, hZ, hnm, hret, hlk, rfl, rfl⟩ := H
  obtain ⟨T, locs, X, eh, N, sp⟩ := r
  obtain ⟨cq, kq, qa, qb, qc⟩ := isOf (s := s) (T := T) hZ eh E
  obtain ⟨v, _, ⟨T1, L1, k1, n1⟩, -, X1, ⟨Lc, hQ, g1, g2, g3⟩, st1⟩ := X.virtualBack hx (y := z') (z := y') hown (mvT hZ w1) (mvT hZ w2) (nf.at hZ) (mvT hZ w5) (mvT hZ w6) hy (backOf (W := w) (Q := fun v hh L => Q v hh ∧ Fr n0 L) (hM []) hZ w4 w3 hf hl) qa qc (g := mkF m pc Ls (argsL.reverse ++ .ref a :: rest)) rfl (by rw [hml]; exact hsz) (Steps.refl _) (argsL := argsL) (rest := rest) (lenOf hpd hlen) rfl (by show 2 * 0 + _ ≤ _; omega) (hb hby hd) (fun _ _ => ⟨rfl, eh, hc, hn⟩)
  dsimp only [Pt.U, Pt.locs, Pt.cells, Pt.slots] at X1 g1 g2 g3 st1 hQ
  subst g1 g2 g3
  exact ⟨v, T1.heap, hQ.1, T1, _, X1, rfl, Fr.app N hQ.2, fun t u => sp t (st1.trans u)⟩
theorem Wk.callSP (H : Wk l Z y code mx ret R n0 W V) {v0 : Option Value} (w1 : (Jvm.Cond.methodLink y.cls i y').before a0 Z = true) (w2 : (Jvm.Cond.static y').before a0 Z = true) (w3 : (Jvm.Cond.initialized y'.cls).before a0 Z = true) (w4 : (Jvm.Cond.code y' bytes' mx' ret').before a0 Z = true) (hy : y'.cls ≠ "java/lang/invoke/MethodHandle" ∧ y'.cls ≠ "java/lang/invoke/VarHandle")
    (hpd : parseMethodDescriptor y'.desc = some ⟨ps, rt⟩) (hf : rm'.frames + 1 ≤ R.frames) (hl : w + (mx' + 11) + rm'.locals ≤ R.locals) (hc : k + rm'.cells ≤ R.cells) (hn : n + rm'.slots ≤ R.slots) (hM : Ct l Z y' bytes' mx' ret' rm' n0 argsL.toArray h (fun v h' => v = v0 ∧ h' = h)) (hlen : argsL.length = ps.length) (hsz : Ls.size = mx) (hw : (rest.map fun v => v.category).sum ≤ w) (hst : st = argsL.reverse ++ rest) (hd : decode code pc = .ok (.invokestatic i, 3)) (r : W h k n pc Ls st) :
    W h (k + rm'.cells) (n + rm'.slots) (pc + 3) Ls (v0.toList ++ rest) := by
  obtain ⟨v, h', ⟨e1, e2⟩, r'⟩ := H.callS w1 w2 w3 w4 hy hpd hf hl hc hn hM hlen hsz hw hst hd r
  rw [← e1, ← e2]
  rw [e2] at r' ⊢
  exact r'
theorem Wk.callVP (H : Wk l Z y code mx ret R n0 W V) {v0 : Option Value} {a : Addr} {C : String} {z' : MethodName} (w1 : (Jvm.Cond.methodLink y.cls i z').before a0 Z = true) (w2 : (Jvm.Cond.declares z').before a0 Z = true) (nf : NF Z a0 z') (w5 : (Jvm.Cond.selects C z' y').before a0 Z = true) (w6 : (Jvm.Cond.instanceMethod y').before a0 Z = true) (w3 : (Jvm.Cond.initialized y'.cls).before a0 Z = true) (w4 : (Jvm.Cond.code y' bytes' mx' ret').before a0 Z = true) (hy : z'.cls ≠ "java/lang/invoke/MethodHandle" ∧ z'.cls ≠ "java/lang/invoke/VarHandle")
    (hpd : parseMethodDescriptor z'.desc = some ⟨ps, rt⟩) (hf : rm'.frames + 1 ≤ R.frames) (hl : w + (mx' + 11) + rm'.locals ≤ R.locals) (hc : k + rm'.cells ≤ R.cells) (hn : n + rm'.slots ≤ R.slots) (E : Exa Z h a C) (hM : Ct l Z y' bytes' mx' ret' rm' n0 (.ref a :: argsL).toArray h (fun v h' => v = v0 ∧ h' = h)) (hlen : argsL.length = ps.length) (hsz : Ls.size = mx) (hw : (rest.map fun v => v.category).sum ≤ w) (hst : st = argsL.reverse ++ .ref a :: rest) (hd : decode code pc = .ok (.invokevirtual i, 3)) (r : W h k n pc Ls st) :
    W h (k + rm'.cells) (n + rm'.slots) (pc + 3) Ls (v0.toList ++ rest) := by
  obtain ⟨v, h', ⟨e1, e2⟩, r'⟩ := H.callV w1 w2 nf w5 w6 w3 w4 hy hpd hf hl hc hn E hM hlen hsz hw hst hd r
  rw [← e1, ← e2]
  rw [e2] at r' ⊢
  exact r'
theorem Wk.retV (H : Wk l Z y code mx ret R n0 W V) {v : Value} {t : FieldType} {ins : Instr} (ht : ret = some t) (hn' : narrow t v = v) (hi : (ins = .ireturn ∧ (t = .int ∨ t = .boolean ∨ t = .byte ∨ t = .char ∨ t = .short) ∧ ∃ z, v = .int z) ∨ (ins = .lreturn ∧ t = .long ∧ ∃ z, v = .long z) ∨ (ins = .dreturn ∧ t = .double ∧ ∃ z, v = .double z) ∨ (ins = .freturn ∧ t = .float ∧ ∃ z, v = .float z) ∨ (ins = .areturn ∧ t.isReference = true ∧ v.isRef = true))
    (hk : k ≤ R.cells) (hn : n ≤ R.slots) (hd : decode code pc = .ok (ins, 1)) (r : W h k n pc Ls (v :: st)) : V (some v) h := by
  obtain ⟨p, e, s, m, args, below, meth, c, S0, hx, hby, hml, hown, hZ, hnm, hret, hlk, rfl, rfl⟩ := H
  obtain ⟨T, locs, X, eh, N, sp⟩ := r
  have hrt : meth.sig.returnType = some t := hret.trans ht
  obtain ⟨fs, hr, hrun, hended, hW, hsame⟩ := X.leave (v := some v) (fun q => by rw [hrt] at q; cases q) hlk
  exact ⟨_, locs, sp _ (retOut X hx hrt hn' hi (hb hby hd) hr), hrun, hended, eh, N, ⟨_, rfl⟩, hW, hsame.mono hk hn⟩
theorem Wk.retI (H : Wk l Z y code mx ret R n0 W V) {z : Int32} (ht : ret = some .int) (hk : k ≤ R.cells) (hn : n ≤ R.slots) (hd : decode code pc = .ok (.ireturn, 1)) (r : W h k n pc Ls (.int z :: st)) : V (some (.int z)) h :=
  H.retV ht rfl (Or.inl ⟨rfl, Or.inl rfl, z, rfl⟩) hk hn hd r
theorem Wk.retJ (H : Wk l Z y code mx ret R n0 W V) {z : Int64} (ht : ret = some .long) (hk : k ≤ R.cells) (hn : n ≤ R.slots) (hd : decode code pc = .ok (.lreturn, 1)) (r : W h k n pc Ls (.long z :: st)) : V (some (.long z)) h :=
  H.retV ht rfl (Or.inr (Or.inl ⟨rfl, rfl, z, rfl⟩)) hk hn hd r
theorem Wk.retZ (H : Wk l Z y code mx ret R n0 W V) {z z' : Int32} (hz : z &&& 1 = z') (ht : ret = some .boolean) (hk : k ≤ R.cells) (hn : n ≤ R.slots) (hd : decode code pc = .ok (.ireturn, 1)) (r : W h k n pc Ls (.int z :: st)) : V (some (.int z')) h := by
  subst hz
  obtain ⟨p, e, s, m, args, below, meth, c, S0, hx, hby, hml, hown, hZ, hnm, hret, hlk, rfl, rfl⟩ := H
  obtain ⟨T, locs, X, eh, N, sp⟩ := r
  have hrt : meth.sig.returnType = some .boolean := hret.trans ht
  obtain ⟨fs, hr, hrun, hended, hW, hsame⟩ := X.leave (v := some (.int (nar .boolean z))) (fun q => by rw [hrt] at q; cases q) hlk
  exact ⟨_, locs, sp _ (retN X hx hrt (by simp) (hb hby hd) hr), hrun, hended, eh, N, ⟨_, rfl⟩, hW, hsame.mono hk hn⟩
theorem Wk.retB (H : Wk l Z y code mx ret R n0 W V) {z z' : Int32} (hz : z.toInt8.toInt32 = z') (ht : ret = some .byte) (hk : k ≤ R.cells) (hn : n ≤ R.slots) (hd : decode code pc = .ok (.ireturn, 1)) (r : W h k n pc Ls (.int z :: st)) : V (some (.int z')) h := by
  subst hz
  obtain ⟨p, e, s, m, args, below, meth, c, S0, hx, hby, hml, hown, hZ, hnm, hret, hlk, rfl, rfl⟩ := H
  obtain ⟨T, locs, X, eh, N, sp⟩ := r
  have hrt : meth.sig.returnType = some .byte := hret.trans ht
  obtain ⟨fs, hr, hrun, hended, hW, hsame⟩ := X.leave (v := some (.int (nar .byte z))) (fun q => by rw [hrt] at q; cases q) hlk
  exact ⟨_, locs, sp _ (retN X hx hrt (by simp) (hb hby hd) hr), hrun, hended, eh, N, ⟨_, rfl⟩, hW, hsame.mono hk hn⟩
theorem Wk.retC (H : Wk l Z y code mx ret R n0 W V) {z z' : Int32} (hz : z.toUInt32.toUInt16.toUInt32.toInt32 = z') (ht : ret = some .char) (hk : k ≤ R.cells) (hn : n ≤ R.slots) (hd : decode code pc = .ok (.ireturn, 1)) (r : W h k n pc Ls (.int z :: st)) : V (some (.int z')) h := by
  subst hz
  obtain ⟨p, e, s, m, args, below, meth, c, S0, hx, hby, hml, hown, hZ, hnm, hret, hlk, rfl, rfl⟩ := H
  obtain ⟨T, locs, X, eh, N, sp⟩ := r
  have hrt : meth.sig.returnType = some .char := hret.trans ht
  obtain ⟨fs, hr, hrun, hended, hW, hsame⟩ := X.leave (v := some (.int (nar .char z))) (fun q => by rw [hrt] at q; cases q) hlk
  exact ⟨_, locs, sp _ (retN X hx hrt (by simp) (hb hby hd) hr), hrun, hended, eh, N, ⟨_, rfl⟩, hW, hsame.mono hk hn⟩
theorem Wk.retR (H : Wk l Z y code mx ret R n0 W V) {v : Value} {t : FieldType} (ht : ret = some t) (htr : t.isReference = true) (hv : v.isRef = true) (hk : k ≤ R.cells) (hn : n ≤ R.slots) (hd : decode code pc = .ok (.areturn, 1)) (r : W h k n pc Ls (v :: st)) : V (some v) h :=
  H.retV ht (by cases v <;> simp [Value.isRef] at hv <;> cases t <;> simp [FieldType.isReference] at htr <;> rfl) (Or.inr (Or.inr (Or.inr (Or.inr ⟨rfl, htr, hv⟩)))) hk hn hd r
theorem Wk.retN (H : Wk l Z y code mx ret R n0 W V) (ht : ret = none) (hk : k ≤ R.cells) (hn : n ≤ R.slots) (hd : decode code pc = .ok (.return_, 1)) (r : W h k n pc Ls []) : V none h := by
  obtain ⟨p, e, s, m, args, below, meth, c, S0, hx, hby, hml, hown, hZ, hnm, hret, hlk, rfl, rfl⟩ := H
  obtain ⟨T, locs, X, eh, N, sp⟩ := r
  have hrt : meth.sig.returnType = none := hret.trans ht
  obtain ⟨fs, hr, hrun, hended, hW, hsame⟩ := X.leave (v := none) (fun _ => rfl) hlk
  exact ⟨_, locs, sp _ (X.returnOut hx hrt (hb hby hd) hr), hrun, hended, eh, N, ⟨_, rfl⟩, hW, hsame.mono hk hn⟩
end Steps
end Jvm.OwnW
namespace Jvm.OwnW
open Jvm Jvm.ClassFile Sem Op Lib Jvm.Free Jvm.Stand Jvm.LawKit Jvm.RoadKit Bundle
/-- an array at a, of components ty, that holds just vs -/
def Ary (Z : State) (h : Heap) (a : Addr) (ty : FieldType) (vs : List Value) : Prop := ∃ c : Cell, Arr Z h a c ty ∧ c.slots = vs.toArray
section Arrays
variable {l : Launch} {Z : State} {y : MethodName} {code : ByteArray} {mx : Nat} {ret : Option FieldType} {R : Room} {n0 : Nat} {W : WT} {V : VT} {h h' : Heap} {k n pc : Nat} {Ls : Array Slot} {st : List Value} {a0 : Array Value} {a b : Addr} {ty : FieldType} {vs : List Value} {ws : List Addr} {sl : Nat} {v : Value}
theorem Ary.lt (A : Ary Z h a ty vs) : a < h.size := by obtain ⟨c, A, -⟩ := A; exact A.lt
theorem Ary.ext (A : Ary Z h a ty vs) (E : Ext h h') : Ary Z h' a ty vs := by obtain ⟨c, A, q⟩ := A; exact ⟨c, A.ext E, q⟩
theorem Ary.other (A : Ary Z h b ty vs) (w : Wr h h' a sl v) (ne : b ≠ a) : Ary Z h' b ty vs := by obtain ⟨c, A, q⟩ := A; exact ⟨c, A.other w ne, q⟩
theorem Ary.keep (A : Ary Z h a ty vs) (K : Keep h h' ws) (q : a ∉ ws) : Ary Z h' a ty vs := by obtain ⟨c, A, r⟩ := A; exact ⟨c, ⟨K.2.1 a c A.1 q, A.2⟩, r⟩
theorem Ary.same (A : Ary Z h a ty vs) (w : Wr h h' a sl v) : Ary Z h' a ty (vs.set sl v) := by
  obtain ⟨c, A, q⟩ := A
  refine ⟨_, A.same w, ?_⟩
  show c.slots.setIfInBounds sl v = _
  rw [q, List.setIfInBounds_toArray]
theorem idx_ok {j : Int32} {i : Nat} (hj : j.toInt = i) : j.toNatClampNeg = i ∧ ¬ j < 0 := by
  refine ⟨?_, ?_⟩
  · show j.toInt.toNat = i
    rw [hj]; rfl
  · rw [Int32.lt_iff_toInt_lt, hj, Int32.toInt_zero]
    omega
theorem idx_in' {j : Int32} {i : Nat} (hj : j.toInt = i) {c : Cell} (q : c.slots = vs.toArray) (hi : i < vs.length) : ¬ (j < 0 ∨ c.slots.size ≤ j.toNatClampNeg) := by
  obtain ⟨h1, h2⟩ := idx_ok hj
  rw [h1, q, List.size_toArray]
  exact fun u => u.elim h2 (fun u => by omega)
theorem Wk.newA (H : Wk l Z y code mx ret R n0 W V) {aty : ArrayType} {z : Int32} {cap i : Nat} {d : Value} (hty : newarray.typeOf aty = ty) (hdv : defaultValue ty = d) (w : (Jvm.Cond.arrayClass ty).before a0 Z = true) (hz : z.toInt = i) (hcap : i ≤ cap) (hb8 : cap * 8 ≤ 536870912) (hc : k + 1 ≤ R.cells) (hl : n + cap ≤ R.slots) (hd : decode code pc = .ok (.newarray aty, 2)) (r : W h k n pc Ls (.int z :: st)) :
    ∃ h' a, a = h.size ∧ Ext h h' ∧ Ary Z h' a ty (List.replicate i d) ∧ W h' (k + 1) (n + cap) (pc + 2) Ls (.ref a :: st) := by
  obtain ⟨h1, h2⟩ := idx_ok hz
  obtain ⟨h', a, cA, e, E, A, r'⟩ := H.newP hty w h2 (by rw [h1]; exact hcap) hb8 hc hl hd r
  refine ⟨h', a, e, E, ⟨_, A, ?_⟩, r'⟩
  show Array.replicate z.toNatClampNeg (defaultValue ty) = _
  rw [h1, hdv, List.toArray_replicate]
theorem Wk.newAE (H : Wk l Z y code mx ret R n0 W V) {aty : ArrayType} {z : Int32} {cap i : Nat} {d : Value} {ad : String} (hty : newarray.typeOf aty = ty) (hdv : defaultValue ty = d) (had : "[" ++ ty.toString = ad) (w : (Jvm.Cond.arrayClass ty).before a0 Z = true) (hz : z.toInt = i) (hcap : i ≤ cap) (hb8 : cap * 8 ≤ 536870912) (hc : k + 1 ≤ R.cells) (hl : n + cap ≤ R.slots) (hd : decode code pc = .ok (.newarray aty, 2)) (r : W h k n pc Ls (.int z :: st)) :
    ∃ h' a, a = h.size ∧ Ext h h' ∧ Ary Z h' a ty (List.replicate i d) ∧ Exa Z h' a ad ∧ W h' (k + 1) (n + cap) (pc + 2) Ls (.ref a :: st) := by
  obtain ⟨h1, h2⟩ := idx_ok hz
  subst hty
  obtain ⟨p, e, s, m, args, below, meth, c, S0, hx, hby, hml, hown, hZ, hnm, hret, hlk, rfl, rfl⟩ := H
  obtain ⟨T, locs, X, eh, N, sp⟩ := r
  obtain ⟨T', h', cA, X', e', E', A', EX, q'⟩ := RoadKit.newPE X hx hZ w eh (g := mkF m pc Ls (.int z :: st)) rfl (hb hby hd) rfl h2 (by rw [h1]; exact hcap) hb8 hc hl had
  refine ⟨h', _, rfl, E', ⟨_, A', ?_⟩, EX, T', _, X', e', N, fun t u => sp t (q' t u)⟩
  show Array.replicate z.toNatClampNeg (defaultValue (newarray.typeOf aty)) = _
  rw [h1, hdv, List.toArray_replicate]
theorem Wk.cloneA (H : Wk l Z y code mx ret R n0 W V) {i w cap : Nat} {ad : String} (w1 : (Jvm.Cond.methodLink y.cls i ⟨ad, "clone", "()Ljava/lang/Object;"⟩).before a0 Z = true) (w2 : (Jvm.Cond.sameMethod ad "java/lang/Object" "clone" "()Ljava/lang/Object;").before a0 Z = true) (w3 : (Jvm.Cond.native ⟨"java/lang/Object", "clone", "()Ljava/lang/Object;"⟩).before a0 Z = true)
    (w4 : (Jvm.Cond.instanceMethod ⟨"java/lang/Object", "clone", "()Ljava/lang/Object;"⟩).before a0 Z = true) (w5 : (Jvm.Cond.selects ad ⟨ad, "clone", "()Ljava/lang/Object;"⟩ ⟨"java/lang/Object", "clone", "()Ljava/lang/Object;"⟩).before a0 Z = true) (w6 : (Jvm.Cond.castable ad "java/lang/Cloneable").before a0 Z = true)
    (A : Ary Z h a ty vs) (E : Exa Z h a ad) (hfit : ∀ v ∈ vs, fits ty v = true) (hsz : Ls.size = mx) (hf : 1 ≤ R.frames) (hw : (st.map fun v => v.category).sum ≤ w) (hl : w + 14 ≤ R.locals) (hcap : vs.length ≤ cap) (hc : k + 1 ≤ R.cells) (hsl : n + cap ≤ R.slots) (hd : decode code pc = .ok (.invokevirtual i, 3)) (r : W h k n pc Ls (.ref a :: st)) :
    ∃ h' b, b = h.size ∧ Ext h h' ∧ Ary Z h' b ty vs ∧ Exa Z h' b ad ∧ W h' (k + 1) (n + cap) (pc + 3) Ls (.ref b :: st) := by
  obtain ⟨p, e, s, m, args, below, meth, c, S0, hx, hby, hml, hown, hZ, hnm, hret, hlk, rfl, rfl⟩ := H
  obtain ⟨T, locs, X, eh, N, sp⟩ := r
  obtain ⟨cl, Ar, q⟩ := A
  have hF : FitC Z cl := fitC_of Ar (fun j hj v hv => hfit v (by rw [q, List.getElem?_toArray] at hv; exact List.mem_of_getElem? hv))
  obtain ⟨T', h', X', e', E', A', EX, q'⟩ := RoadKit.cloneA X hx hZ hown w1 w2 w3 w4 w5 w6 eh Ar E hF (g := mkF m pc Ls (.ref a :: st)) rfl (by rw [hml]; exact hsz) rfl (hb hby hd) hf (by show 2 * 0 + _ ≤ _; omega) hl (by rw [q, List.size_toArray]; exact hcap) hc hsl
  exact ⟨h', _, rfl, E', ⟨_, A', q⟩, EX, T', _, X', e', N, fun t u => sp t (q' t u)⟩
theorem Wk.lenA (H : Wk l Z y code mx ret R n0 W V) {z : Int32} (A : Ary Z h a ty vs) (hz : vs.length.toInt32 = z) (hd : decode code pc = .ok (.arraylength, 1)) (r : W h k n pc Ls (.ref a :: st)) : W h k n (pc + 1) Ls (.int z :: st) := by
  obtain ⟨c, A, q⟩ := A
  exact H.arrLen A (by rw [q, List.size_toArray]; exact hz) hd r
theorem Wk.ldI (H : Wk l Z y code mx ret R n0 W V) {j : Int32} {i : Nat} (A : Ary Z h a .int vs) (hj : j.toInt = i) (hv : vs[i]? = some v) (hd : decode code pc = .ok (.iaload, 1)) (r : W h k n pc Ls (.int j :: .ref a :: st)) : W h k n (pc + 1) Ls (v :: st) := by
  obtain ⟨c, A, q⟩ := A
  obtain ⟨h1, h2⟩ := idx_ok hj
  exact H.iaload A (idx_in' hj q (List.getElem?_eq_some_iff.mp hv).1) (by rw [h1, q, List.getElem?_toArray]; exact hv) hd r
theorem Wk.ldJ (H : Wk l Z y code mx ret R n0 W V) {j : Int32} {i : Nat} (A : Ary Z h a .long vs) (hj : j.toInt = i) (hv : vs[i]? = some v) (hd : decode code pc = .ok (.laload, 1)) (r : W h k n pc Ls (.int j :: .ref a :: st)) : W h k n (pc + 1) Ls (v :: st) := by
  obtain ⟨c, A, q⟩ := A
  obtain ⟨h1, h2⟩ := idx_ok hj
  exact H.laload A (idx_in' hj q (List.getElem?_eq_some_iff.mp hv).1) (by rw [h1, q, List.getElem?_toArray]; exact hv) hd r
theorem Wk.ldC (H : Wk l Z y code mx ret R n0 W V) {j : Int32} {i : Nat} (A : Ary Z h a .char vs) (hj : j.toInt = i) (hv : vs[i]? = some v) (hd : decode code pc = .ok (.caload, 1)) (r : W h k n pc Ls (.int j :: .ref a :: st)) : W h k n (pc + 1) Ls (v :: st) := by
  obtain ⟨c, A, q⟩ := A
  obtain ⟨h1, h2⟩ := idx_ok hj
  exact H.caload A (idx_in' hj q (List.getElem?_eq_some_iff.mp hv).1) (by rw [h1, q, List.getElem?_toArray]; exact hv) hd r
theorem Wk.ldB (H : Wk l Z y code mx ret R n0 W V) {j : Int32} {i : Nat} (A : Ary Z h a .byte vs) (hj : j.toInt = i) (hv : vs[i]? = some v) (hd : decode code pc = .ok (.baload, 1)) (r : W h k n pc Ls (.int j :: .ref a :: st)) : W h k n (pc + 1) Ls (v :: st) := by
  obtain ⟨c, A, q⟩ := A
  obtain ⟨h1, h2⟩ := idx_ok hj
  exact H.baload A (idx_in' hj q (List.getElem?_eq_some_iff.mp hv).1) (by rw [h1, q, List.getElem?_toArray]; exact hv) hd r
theorem Wk.putI (H : Wk l Z y code mx ret R n0 W V) {j : Int32} {i : Nat} {x : Int32} (A : Ary Z h a .int vs) (hj : j.toInt = i) (hi : i < vs.length) (hn0 : n0 ≤ a) (hd : decode code pc = .ok (.iastore, 1)) (r : W h k n pc Ls (.int x :: .int j :: .ref a :: st)) : ∃ h', Wr h h' a i (.int x) ∧ Ary Z h' a .int (vs.set i (.int x)) ∧ W h' k n (pc + 1) Ls st := by
  obtain ⟨h1, h2⟩ := idx_ok hj
  obtain ⟨c, A', q⟩ := id A
  obtain ⟨h', w, r'⟩ := H.stI A' (idx_in' hj q hi) hn0 hd r
  rw [h1] at w
  exact ⟨h', w, A.same w, r'⟩
theorem Wk.putJ (H : Wk l Z y code mx ret R n0 W V) {j : Int32} {i : Nat} {x : Int64} (A : Ary Z h a .long vs) (hj : j.toInt = i) (hi : i < vs.length) (hn0 : n0 ≤ a) (hd : decode code pc = .ok (.lastore, 1)) (r : W h k n pc Ls (.long x :: .int j :: .ref a :: st)) : ∃ h', Wr h h' a i (.long x) ∧ Ary Z h' a .long (vs.set i (.long x)) ∧ W h' k n (pc + 1) Ls st := by
  obtain ⟨h1, h2⟩ := idx_ok hj
  obtain ⟨c, A', q⟩ := id A
  obtain ⟨h', w, r'⟩ := H.stJ A' (idx_in' hj q hi) hn0 hd r
  rw [h1] at w
  exact ⟨h', w, A.same w, r'⟩
theorem Wk.putC (H : Wk l Z y code mx ret R n0 W V) {j : Int32} {i : Nat} {x : Int32} {z : Int32} (hz : x.toUInt32.toUInt16.toUInt32.toInt32 = z) (A : Ary Z h a .char vs) (hj : j.toInt = i) (hi : i < vs.length) (hn0 : n0 ≤ a) (hd : decode code pc = .ok (.castore, 1)) (r : W h k n pc Ls (.int x :: .int j :: .ref a :: st)) : ∃ h', Wr h h' a i (.int z) ∧ Ary Z h' a .char (vs.set i (.int z)) ∧ W h' k n (pc + 1) Ls st := by
  subst hz
  obtain ⟨h1, h2⟩ := idx_ok hj
  obtain ⟨c, A', q⟩ := id A
  obtain ⟨h', w, r'⟩ := H.stC A' (idx_in' hj q hi) hn0 hd r
  rw [h1] at w
  exact ⟨h', w, A.same w, r'⟩
theorem Wk.putB (H : Wk l Z y code mx ret R n0 W V) {j : Int32} {i : Nat} {x : Int32} {z : Int32} (hz : x.toInt8.toInt32 = z) (A : Ary Z h a .byte vs) (hj : j.toInt = i) (hi : i < vs.length) (hn0 : n0 ≤ a) (hd : decode code pc = .ok (.bastore, 1)) (r : W h k n pc Ls (.int x :: .int j :: .ref a :: st)) : ∃ h', Wr h h' a i (.int z) ∧ Ary Z h' a .byte (vs.set i (.int z)) ∧ W h' k n (pc + 1) Ls st := by
  subst hz
  obtain ⟨h1, h2⟩ := idx_ok hj
  obtain ⟨c, A', q⟩ := id A
  obtain ⟨h', w, r'⟩ := H.stB A' (idx_in' hj q hi) hn0 hd r
  rw [h1] at w
  exact ⟨h', w, A.same w, r'⟩
end Arrays
theorem ns_root {Z : State} {a0 : Array Value} {O K : String} {q : Nat} (w : (Jvm.Cond.noSuperclass O).before a0 Z = true) (wk : (Jvm.Cond.instantiable K q).before a0 Z = true) (hn : O ≠ K) : NS Z O K := by
  obtain ⟨c, k, h1, h2, h3, -, -⟩ := Cond.noSuperclass_spec w
  obtain ⟨t, k', g1, g2, -⟩ := Cond.instantiable_spec wk
  have ne := ids_ne h1 g1 hn
  refine ⟨c, t, h1, g1, fun fuel => ?_⟩
  cases fuel with
  | zero => rfl
  | succ f => simp [Vm.isSubclassAux, ne, h2, h3]
theorem ns_no {Z : State} {a0 : Array Value} {C S K : String} {q : Nat} (w : (Jvm.Cond.superclass C S).before a0 Z = true) (wk : (Jvm.Cond.instantiable K q).before a0 Z = true) (n : NS Z C K) (hn : C ≠ K) : ∃ c t, Z.vm.findClass C = some c ∧ Z.vm.findClass K = some t ∧ Z.vm.assignable c t = false := by
  obtain ⟨c, t, h0, g0, n3⟩ := n
  obtain ⟨p, k, kp, h1, h2, h3, h4, h5, -, h7⟩ := Cond.superclass_spec h0 w
  obtain ⟨t', k', g1, g2, g5, g7, -⟩ := Cond.instantiable_spec wk
  cases g0.symm.trans g1
  have ne := ids_ne h0 g0 hn
  have g8 : k'.isInterface = false := by cases hh : k'.isInterface <;> simp [hh] at g7 ⊢
  refine ⟨c, t, h0, g0, ?_⟩
  show Z.vm.assignableAux (255 + 1) c t = false
  simp [Vm.assignableAux, ne, h2, g2, h5, g5, g8, Vm.isSubclass, n3]
/-- (k & 0x7fffffff) % m as a natural -/
theorem own_modn (k : Int32) (m : Nat) (h0 : 0 < m) (hm : m < 2147483648) : ∃ i : Nat, i < m ∧ (k &&& (2147483647 : Int32)) % Int32.ofNat m = Int32.ofNat i := by
  have h1 : (k &&& (2147483647 : Int32)).toInt = k.toInt % (2 ^ 31 : Nat) := c_mask k _ 31 (by decide) (by decide)
  have hM : (Int32.ofNat m).toInt = (m : Int) := Int32.toInt_ofNat_of_lt (by omega)
  have h2 := (c_irem (k &&& (2147483647 : Int32)) (Int32.ofNat m) m hM).1 (by rw [h1]; omega)
  have h3 : 0 ≤ (k &&& (2147483647 : Int32)).toInt % (m : Int) := Int.emod_nonneg _ (by omega)
  have h4 : (k &&& (2147483647 : Int32)).toInt % (m : Int) < m := Int.emod_lt_of_pos _ (by omega)
  refine ⟨((k &&& (2147483647 : Int32)) % Int32.ofNat m).toInt.toNat, by omega, ?_⟩
  apply Int32.toInt_inj.mp
  rw [Int32.toInt_ofNat_of_lt (by omega)]
  omega
theorem own_ofNat {i : Nat} (hi : i < 2147483648) : (Int32.ofNat i).toInt = (i : Int) := Int32.toInt_ofNat_of_lt (by omega)
theorem own_ltN {i j : Nat} (hi : i < 2147483648) (hj : j < 2147483648) : Int32.ofNat i < Int32.ofNat j ↔ i < j := by
  rw [Int32.lt_iff_toInt_lt, own_ofNat hi, own_ofNat hj]
  omega
theorem own_eqN {i j : Nat} (hi : i < 2147483648) (hj : j < 2147483648) : Int32.ofNat i = Int32.ofNat j ↔ i = j := by
  rw [← Int32.toInt_inj, own_ofNat hi, own_ofNat hj]
  omega
theorem own_nn {n : Nat} (hn : n < 2147483648) : ¬ Int32.ofNat n < 0 := by
  rw [Int32.lt_iff_toInt_lt, own_ofNat hn, show (0 : Int32).toInt = 0 from rfl]
  omega
theorem own_pred {n : Nat} (hp : 0 < n) (hn : n < 2147483648) : (Int32.ofNat n - (1 : Int32)).toInt = ((n - 1 : Nat) : Int) := by
  have h2 := c_isub (Int32.ofNat n) (1 : Int32)
  have r2 := rng32 (Int32.ofNat n - (1 : Int32))
  rw [own_ofNat hn, show (1 : Int32).toInt = 1 from rfl] at h2
  omega
theorem own_succ (i : Nat) : Int32.ofNat i + (1 : Int32) = Int32.ofNat (i + 1) := (Int32.ofNat_add i 1).symm
end Jvm.OwnW

namespace Jvm.Pilot.@@N@@
open Jvm Jvm.ClassFile Sem Op Lib Jvm.Free Jvm.Stand Jvm.LawKit Jvm.RoadKit Bundle Jvm.OwnW Jvm.Pilot.@@N@@.Jvm.D
theorem own_andc (a b c d : Nat) (ha : a < 256) (hc : c < 256) : (a + 256 * b) &&& (c + 256 * d) = (a &&& c) + 256 * (b &&& d) := by
  have h1 := Nat.and_mod_two_pow (a := a + 256 * b) (b := c + 256 * d) (n := 8)
  have h2 := Nat.and_div_two_pow (a := a + 256 * b) (b := c + 256 * d) (n := 8)
  rw [show (2:Nat)^8 = 256 from rfl] at h1 h2
  rw [show (a + 256 * b) % 256 = a by omega, show (c + 256 * d) % 256 = c by omega] at h1
  rw [show (a + 256 * b) / 256 = b by omega, show (c + 256 * d) / 256 = d by omega] at h2
  omega
theorem own_orc (a b c d : Nat) (ha : a < 256) (hc : c < 256) : (a + 256 * b) ||| (c + 256 * d) = (a ||| c) + 256 * (b ||| d) := by
  have h1 := Nat.or_mod_two_pow (a := a + 256 * b) (b := c + 256 * d) (n := 8)
  have h2 := Nat.or_div_two_pow (a := a + 256 * b) (b := c + 256 * d) (n := 8)
  rw [show (2:Nat)^8 = 256 from rfl] at h1 h2
  rw [show (a + 256 * b) % 256 = a by omega, show (c + 256 * d) % 256 = c by omega] at h1
  rw [show (a + 256 * b) / 256 = b by omega, show (c + 256 * d) / 256 = d by omega] at h2
  omega
theorem own_xorc (a b c d : Nat) (ha : a < 256) (hc : c < 256) : (a + 256 * b) ^^^ (c + 256 * d) = (a ^^^ c) + 256 * (b ^^^ d) := by
  have h1 := Nat.xor_mod_two_pow (a := a + 256 * b) (b := c + 256 * d) (n := 8)
  have h2 := Nat.xor_div_two_pow (a := a + 256 * b) (b := c + 256 * d) (n := 8)
  rw [show (2:Nat)^8 = 256 from rfl] at h1 h2
  rw [show (a + 256 * b) % 256 = a by omega, show (c + 256 * d) % 256 = c by omega] at h1
  rw [show (a + 256 * b) / 256 = b by omega, show (c + 256 * d) / 256 = d by omega] at h2
  omega
theorem own_andw (a b c d : Nat) (ha : a < 65536) (hc : c < 65536) : (a + 65536 * b) &&& (c + 65536 * d) = (a &&& c) + 65536 * (b &&& d) := by
  have h1 := Nat.and_mod_two_pow (a := a + 65536 * b) (b := c + 65536 * d) (n := 16)
  have h2 := Nat.and_div_two_pow (a := a + 65536 * b) (b := c + 65536 * d) (n := 16)
  rw [show (2:Nat)^16 = 65536 from rfl] at h1 h2
  rw [show (a + 65536 * b) % 65536 = a by omega, show (c + 65536 * d) % 65536 = c by omega] at h1
  rw [show (a + 65536 * b) / 65536 = b by omega, show (c + 65536 * d) / 65536 = d by omega] at h2
  omega
theorem own_or_lt {a c : Nat} (ha : a < 256) (hc : c < 256) : a ||| c < 256 := Nat.or_lt_two_pow (n := 8) ha hc
theorem own_top {a : Nat} (ha : a < 256) : a &&& 128 = 0 ↔ a < 128 := by
  have : ∀ a : Fin 256, (a.val &&& 128 = 0) ↔ a.val < 128 := by decide +kernel
  exact this ⟨a, ha⟩
theorem own_ff (a : Nat) : a &&& 255 = a % 256 := Nat.and_two_pow_sub_one_eq_mod a 8
theorem own_fw {a : Nat} (ha : a < 65536) : a &&& 65535 = a := by
  have := Nat.and_two_pow_sub_one_eq_mod a 16
  rw [show (2:Nat)^16 - 1 = 65535 from rfl] at this
  omega
theorem own_peel {a b c d : Nat} (h : a + 256 * b = c + 256 * d) (ha : a < 256) (hc : c < 256) : a = c ∧ b = d := by omega
theorem own_dig {w : Nat} (hw : w < 256) : w ^^^ 48 < 256 ∧ (w ^^^ 48 ≤ 9 ↔ 48 ≤ w ∧ w ≤ 57) ∧ (48 ≤ w → w ≤ 57 → w ^^^ 48 = w - 48) := by
  have : ∀ a : Fin 256, (a.val ^^^ 48 < 256) ∧ (a.val ^^^ 48 ≤ 9 ↔ 48 ≤ a.val ∧ a.val ≤ 57) ∧ (48 ≤ a.val → a.val ≤ 57 → a.val ^^^ 48 = a.val - 48) := by decide +kernel
  exact this ⟨w, hw⟩
theorem own_bytes (x : Nat) (hx : x < 2 ^ 64) : x = (x % 256) + 256 * ((x / 256 % 256) + 256 * ((x / 65536 % 256) + 256 * ((x / 16777216 % 256) + 256 * ((x / 4294967296 % 256) + 256 * ((x / 1099511627776 % 256) + 256 * ((x / 281474976710656 % 256) + 256 * ((x / 72057594037927936 % 256)))))))) := by omega
theorem own_cond (e0 e1 e2 e3 e4 e5 e6 e7 : Nat) (b0 : e0 < 256) (b1 : e1 < 256) (b2 : e2 < 256) (b3 : e3 < 256) (b4 : e4 < 256) (b5 : e5 < 256) (b6 : e6 < 256) (b7 : e7 < 256) (v : BitVec 64) (hv : v.toNat = e0 + 256 * (e1 + 256 * (e2 + 256 * (e3 + 256 * (e4 + 256 * (e5 + 256 * (e6 + 256 * (e7)))))))) :
    (((v + 8536140394893047414#64) ||| v) &&& 9259542123273814144#64 = 0#64) ↔ (e0 ≤ 9 ∧ e1 ≤ 9 ∧ e2 ≤ 9 ∧ e3 ≤ 9 ∧ e4 ≤ 9 ∧ e5 ≤ 9 ∧ e6 ≤ 9 ∧ e7 ≤ 9) := by
  have hs : (v + 8536140394893047414#64).toNat = (v.toNat + 8536140394893047414) % 2 ^ 64 := by rw [BitVec.toNat_add]; rfl
  generalize hS : (v + 8536140394893047414#64).toNat = s at hs
  have hlt : s < 2 ^ 64 := by rw [← hS]; exact BitVec.isLt _
  have hb := own_bytes s hlt
  generalize hs0 : s % 256 = s0 at hb
  generalize hs1 : s / 256 % 256 = s1 at hb
  generalize hs2 : s / 65536 % 256 = s2 at hb
  generalize hs3 : s / 16777216 % 256 = s3 at hb
  generalize hs4 : s / 4294967296 % 256 = s4 at hb
  generalize hs5 : s / 1099511627776 % 256 = s5 at hb
  generalize hs6 : s / 281474976710656 % 256 = s6 at hb
  generalize hs7 : s / 72057594037927936 % 256 = s7 at hb
  have t0 : s0 < 256 := by rw [← hs0]; exact Nat.mod_lt _ (by decide)
  have t1 : s1 < 256 := by rw [← hs1]; exact Nat.mod_lt _ (by decide)
  have t2 : s2 < 256 := by rw [← hs2]; exact Nat.mod_lt _ (by decide)
  have t3 : s3 < 256 := by rw [← hs3]; exact Nat.mod_lt _ (by decide)
  have t4 : s4 < 256 := by rw [← hs4]; exact Nat.mod_lt _ (by decide)
  have t5 : s5 < 256 := by rw [← hs5]; exact Nat.mod_lt _ (by decide)
  have t6 : s6 < 256 := by rw [← hs6]; exact Nat.mod_lt _ (by decide)
  have t7 : s7 < 256 := by rw [← hs7]; exact Nat.mod_lt _ (by decide)
  clear hs0 hs1 hs2 hs3 hs4 hs5 hs6 hs7
  have key : (((v + 8536140394893047414#64) ||| v) &&& 9259542123273814144#64 = 0#64) ↔ ((s0 < 128 ∧ e0 < 128) ∧ (s1 < 128 ∧ e1 < 128) ∧ (s2 < 128 ∧ e2 < 128) ∧ (s3 < 128 ∧ e3 < 128) ∧ (s4 < 128 ∧ e4 < 128) ∧ (s5 < 128 ∧ e5 < 128) ∧ (s6 < 128 ∧ e6 < 128) ∧ (s7 < 128 ∧ e7 < 128)) := by
    rw [← BitVec.toNat_inj, BitVec.toNat_and, BitVec.toNat_or, hS, hv, hb]
    rw [show (9259542123273814144#64).toNat = 128 + 256 * (128 + 256 * (128 + 256 * (128 + 256 * (128 + 256 * (128 + 256 * (128 + 256 * (128))))))) from rfl, show (0#64).toNat = 0 from rfl]
    rw [own_orc _ _ _ _ t0 b0, own_orc _ _ _ _ t1 b1, own_orc _ _ _ _ t2 b2, own_orc _ _ _ _ t3 b3, own_orc _ _ _ _ t4 b4, own_orc _ _ _ _ t5 b5, own_orc _ _ _ _ t6 b6]
    rw [own_andc _ _ _ _ (own_or_lt t0 b0) (by decide), own_andc _ _ _ _ (own_or_lt t1 b1) (by decide), own_andc _ _ _ _ (own_or_lt t2 b2) (by decide), own_andc _ _ _ _ (own_or_lt t3 b3) (by decide), own_andc _ _ _ _ (own_or_lt t4 b4) (by decide), own_andc _ _ _ _ (own_or_lt t5 b5) (by decide), own_andc _ _ _ _ (own_or_lt t6 b6) (by decide)]
    have q0 : (s0 ||| e0) &&& 128 = 0 ↔ (s0 < 128 ∧ e0 < 128) := by rw [Nat.and_or_distrib_right, Nat.or_eq_zero_iff, own_top t0, own_top b0]
    have q1 : (s1 ||| e1) &&& 128 = 0 ↔ (s1 < 128 ∧ e1 < 128) := by rw [Nat.and_or_distrib_right, Nat.or_eq_zero_iff, own_top t1, own_top b1]
    have q2 : (s2 ||| e2) &&& 128 = 0 ↔ (s2 < 128 ∧ e2 < 128) := by rw [Nat.and_or_distrib_right, Nat.or_eq_zero_iff, own_top t2, own_top b2]
    have q3 : (s3 ||| e3) &&& 128 = 0 ↔ (s3 < 128 ∧ e3 < 128) := by rw [Nat.and_or_distrib_right, Nat.or_eq_zero_iff, own_top t3, own_top b3]
    have q4 : (s4 ||| e4) &&& 128 = 0 ↔ (s4 < 128 ∧ e4 < 128) := by rw [Nat.and_or_distrib_right, Nat.or_eq_zero_iff, own_top t4, own_top b4]
    have q5 : (s5 ||| e5) &&& 128 = 0 ↔ (s5 < 128 ∧ e5 < 128) := by rw [Nat.and_or_distrib_right, Nat.or_eq_zero_iff, own_top t5, own_top b5]
    have q6 : (s6 ||| e6) &&& 128 = 0 ↔ (s6 < 128 ∧ e6 < 128) := by rw [Nat.and_or_distrib_right, Nat.or_eq_zero_iff, own_top t6, own_top b6]
    have q7 : (s7 ||| e7) &&& 128 = 0 ↔ (s7 < 128 ∧ e7 < 128) := by rw [Nat.and_or_distrib_right, Nat.or_eq_zero_iff, own_top t7, own_top b7]
    rw [← q0, ← q1, ← q2, ← q3, ← q4, ← q5, ← q6, ← q7]
    generalize (s0 ||| e0) &&& 128 = z0
    generalize (s1 ||| e1) &&& 128 = z1
    generalize (s2 ||| e2) &&& 128 = z2
    generalize (s3 ||| e3) &&& 128 = z3
    generalize (s4 ||| e4) &&& 128 = z4
    generalize (s5 ||| e5) &&& 128 = z5
    generalize (s6 ||| e6) &&& 128 = z6
    generalize (s7 ||| e7) &&& 128 = z7
    clear q0 t0 b0 q1 t1 b1 q2 t2 b2 q3 t3 b3 q4 t4 b4 q5 t5 b5 q6 t6 b6 q7 t7 b7 hb hv hs hlt hS
    constructor
    · intro hz
      refine ⟨by omega, by omega, by omega, by omega, by omega, by omega, by omega, by omega⟩
    · rintro ⟨rfl, rfl, rfl, rfl, rfl, rfl, rfl, rfl⟩
      rfl
  rw [key]
  constructor
  · rintro ⟨⟨f0, g0⟩, ⟨f1, g1⟩, ⟨f2, g2⟩, ⟨f3, g3⟩, ⟨f4, g4⟩, ⟨f5, g5⟩, ⟨f6, g6⟩, ⟨f7, g7⟩⟩
    have hh : s = (e0 + 118) + 256 * ((e1 + 118) + 256 * ((e2 + 118) + 256 * ((e3 + 118) + 256 * ((e4 + 118) + 256 * ((e5 + 118) + 256 * ((e6 + 118) + 256 * ((e7 + 118)))))))) := by
      rw [hs, hv, Nat.mod_eq_of_lt (by omega)]
      omega
    rw [hb] at hh
    obtain ⟨y0, hh⟩ := own_peel hh t0 (by omega)
    obtain ⟨y1, hh⟩ := own_peel hh t1 (by omega)
    obtain ⟨y2, hh⟩ := own_peel hh t2 (by omega)
    obtain ⟨y3, hh⟩ := own_peel hh t3 (by omega)
    obtain ⟨y4, hh⟩ := own_peel hh t4 (by omega)
    obtain ⟨y5, hh⟩ := own_peel hh t5 (by omega)
    obtain ⟨y6, hh⟩ := own_peel hh t6 (by omega)
    clear hs hv hb hS hlt key
    refine ⟨by omega, by omega, by omega, by omega, by omega, by omega, by omega, by omega⟩
  · rintro ⟨g0, g1, g2, g3, g4, g5, g6, g7⟩
    have hh : s = (e0 + 118) + 256 * ((e1 + 118) + 256 * ((e2 + 118) + 256 * ((e3 + 118) + 256 * ((e4 + 118) + 256 * ((e5 + 118) + 256 * ((e6 + 118) + 256 * ((e7 + 118)))))))) := by
      rw [hs, hv, Nat.mod_eq_of_lt (by omega)]
      omega
    rw [hb] at hh
    obtain ⟨y0, hh⟩ := own_peel hh t0 (by omega)
    obtain ⟨y1, hh⟩ := own_peel hh t1 (by omega)
    obtain ⟨y2, hh⟩ := own_peel hh t2 (by omega)
    obtain ⟨y3, hh⟩ := own_peel hh t3 (by omega)
    obtain ⟨y4, hh⟩ := own_peel hh t4 (by omega)
    obtain ⟨y5, hh⟩ := own_peel hh t5 (by omega)
    obtain ⟨y6, hh⟩ := own_peel hh t6 (by omega)
    clear hs hv hb hS hlt key
    refine ⟨⟨by omega, by omega⟩, ⟨by omega, by omega⟩, ⟨by omega, by omega⟩, ⟨by omega, by omega⟩, ⟨by omega, by omega⟩, ⟨by omega, by omega⟩, ⟨by omega, by omega⟩, ⟨by omega, by omega⟩⟩
theorem own_lo {a Y t : Nat} (ha : a < 256) (hY : Y < 72057594037927936) : (a + 256 * Y + 18446744073709551616 * t) % 2 ^ 64 / 256 = Y := by omega
theorem own_lo2 {a Y t : Nat} (ha : a < 65536) (hY : Y < 281474976710656) : (a + 65536 * Y + 18446744073709551616 * t) % 2 ^ 64 / 65536 = Y := by omega
theorem own_lo3 {a Y t : Nat} (ha : a < 4294967296) (hY : Y < 4294967296) : (a + 4294967296 * Y + 18446744073709551616 * t) % 2 ^ 64 / 4294967296 = Y := by omega
theorem own_mod {a b : Nat} (ha : a < 256) : (a + 256 * b) % 256 = a := by omega
theorem own_val (e0 e1 e2 e3 e4 e5 e6 e7 : Nat) (b0 : e0 ≤ 9) (b1 : e1 ≤ 9) (b2 : e2 ≤ 9) (b3 : e3 ≤ 9) (b4 : e4 ≤ 9) (b5 : e5 ≤ 9) (b6 : e6 ≤ 9) (b7 : e7 ≤ 9) (v : BitVec 64) (hv : v.toNat = e0 + 256 * (e1 + 256 * (e2 + 256 * (e3 + 256 * (e4 + 256 * (e5 + 256 * (e6 + 256 * (e7)))))))) :
    ((((((((v * 2561#64) >>> 8) &&& 71777214294589695#64) * 6553601#64) >>> 16) &&& 281470681808895#64) * 42949672960001#64) >>> 32).toNat = 10000000 * e0 + 1000000 * e1 + 100000 * e2 + 10000 * e3 + 1000 * e4 + 100 * e5 + 10 * e6 + 1 * e7 := by
  have p1 : (((v * 2561#64) >>> 8) &&& 71777214294589695#64).toNat = (10 * e0 + e1) + 65536 * ((10 * e2 + e3) + 65536 * ((10 * e4 + e5) + 65536 * ((10 * e6 + e7)))) := by
    have h1 : ((v * 2561#64) >>> 8).toNat = (v.toNat * 2561) % 2 ^ 64 / 256 := by
      rw [BitVec.toNat_ushiftRight, BitVec.toNat_mul, Nat.shiftRight_eq_div_pow]; rfl
    have h2 : (e0 + 256 * (e1 + 256 * (e2 + 256 * (e3 + 256 * (e4 + 256 * (e5 + 256 * (e6 + 256 * (e7)))))))) * 2561 = e0 + 256 * ((10 * e0 + e1) + 256 * ((10 * e1 + e2) + 256 * ((10 * e2 + e3) + 256 * ((10 * e3 + e4) + 256 * ((10 * e4 + e5) + 256 * ((10 * e5 + e6) + 256 * ((10 * e6 + e7)))))))) + 18446744073709551616 * (10 * e7) := by omega
    have h3 : (10 * e0 + e1) + 256 * ((10 * e1 + e2) + 256 * ((10 * e2 + e3) + 256 * ((10 * e3 + e4) + 256 * ((10 * e4 + e5) + 256 * ((10 * e5 + e6) + 256 * ((10 * e6 + e7))))))) = (10 * e0 + e1 + 256 * (10 * e1 + e2)) + 65536 * ((10 * e2 + e3 + 256 * (10 * e3 + e4)) + 65536 * ((10 * e4 + e5 + 256 * (10 * e5 + e6)) + 65536 * ((10 * e6 + e7)))) := by omega
    rw [BitVec.toNat_and, show (71777214294589695#64).toNat = 255 + 65536 * (255 + 65536 * (255 + 65536 * (255))) from rfl, h1, hv, h2, own_lo (by omega) (by omega), h3]
    rw [own_andw _ _ _ _ (by omega) (by decide), own_andw _ _ _ _ (by omega) (by decide), own_andw _ _ _ _ (by omega) (by decide), own_ff, own_ff, own_ff, own_ff]
    rw [own_mod (by omega), own_mod (by omega), own_mod (by omega), Nat.mod_eq_of_lt (a := 10 * e6 + e7) (by omega)]
  generalize ((v * 2561#64) >>> 8) &&& 71777214294589695#64 = p at p1 ⊢
  clear hv
  have p2 : (((p * 6553601#64) >>> 16) &&& 281470681808895#64).toNat = (1000 * e0 + 100 * e1 + 10 * e2 + e3) + 4294967296 * (1000 * e4 + 100 * e5 + 10 * e6 + e7) := by
    have h1 : ((p * 6553601#64) >>> 16).toNat = (p.toNat * 6553601) % 2 ^ 64 / 65536 := by
      rw [BitVec.toNat_ushiftRight, BitVec.toNat_mul, Nat.shiftRight_eq_div_pow]; rfl
    rw [BitVec.toNat_and, show (281470681808895#64).toNat = 65535 + 65536 * (0 + 65536 * (65535 + 65536 * (0))) from rfl, h1, p1]
    generalize hP0 : 10 * e0 + e1 = P0
    generalize hP1 : 10 * e2 + e3 = P1
    generalize hP2 : 10 * e4 + e5 = P2
    generalize hP3 : 10 * e6 + e7 = P3
    have c0 : P0 ≤ 99 := by omega
    have c1 : P1 ≤ 99 := by omega
    have c2 : P2 ≤ 99 := by omega
    have c3 : P3 ≤ 99 := by omega
    have h2 : (P0 + 65536 * (P1 + 65536 * (P2 + 65536 * P3))) * 6553601 = P0 + 65536 * ((100 * P0 + P1) + 65536 * ((100 * P1 + P2) + 65536 * ((100 * P2 + P3) + 65536 * 0))) + 18446744073709551616 * (100 * P3) := by omega
    rw [h2, own_lo2 (by omega) (by omega)]
    rw [own_andw _ _ _ _ (by omega) (by decide), own_andw _ _ _ _ (by omega) (by decide), own_andw _ _ _ _ (by omega) (by decide), own_fw (by omega), own_fw (by omega), Nat.and_zero, Nat.and_zero]
    omega
  generalize ((p * 6553601#64) >>> 16) &&& 281470681808895#64 = q at p2 ⊢
  rw [BitVec.toNat_ushiftRight, BitVec.toNat_mul, Nat.shiftRight_eq_div_pow, p2]
  show ((1000 * e0 + 100 * e1 + 10 * e2 + e3) + 4294967296 * (1000 * e4 + 100 * e5 + 10 * e6 + e7)) * 42949672960001 % 2 ^ 64 / 4294967296 = _
  generalize hQ0 : 1000 * e0 + 100 * e1 + 10 * e2 + e3 = Q0
  generalize hQ1 : 1000 * e4 + 100 * e5 + 10 * e6 + e7 = Q1
  have c0 : Q0 ≤ 9999 := by omega
  have c1 : Q1 ≤ 9999 := by omega
  have h2 : (Q0 + 4294967296 * Q1) * 42949672960001 = Q0 + 4294967296 * (10000 * Q0 + Q1) + 18446744073709551616 * (10000 * Q1) := by omega
  rw [h2, own_lo3 (by omega) (by omega)]
  omega
theorem own_shl (a : Int64) (p : Int32) : (a <<< (p &&& 0x3f).toInt64).toBitVec = a.toBitVec <<< (p.toBitVec.toNat % 64) := by
  show a.toBitVec <<< ((p &&& 0x3f).toInt64.toBitVec.smod 64) = _
  rw [BitVec.shiftLeft_eq', (sm64 p _ rfl).1, smod64 _ (sm64 p _ rfl).2]
theorem own_shr (a : Int64) (p : Int32) : ((a.toUInt64 >>> (p &&& 0x3f).toInt64.toUInt64).toInt64).toBitVec = a.toBitVec >>> (p.toBitVec.toNat % 64) := by
  show a.toBitVec >>> ((p &&& 0x3f).toInt64.toBitVec % 64) = _
  rw [BitVec.ushiftRight_eq', BitVec.toNat_umod, (sm64 p _ rfl).1, BitVec.toNat_ofNat]
  have := (sm64 p _ rfl).2
  congr 1
  show p.toBitVec.toNat % 64 % 2 ^ 64 % 64 = _
  omega
/-- a small long as an int -/
theorem own_sm (x : Int64) (h : x.toBitVec.toNat < 2147483648) : x.toInt32.toInt = x.toBitVec.toNat := by
  have h1 : x.toInt = x.toBitVec.toNat := by
    show x.toBitVec.toInt = _
    rw [BitVec.toInt_eq_toNat_cond, if_pos (by omega)]
  rw [Int64.toInt_toInt32, h1]
  exact Int.bmod_eq_of_le (by omega) (by omega)
def own_byte (w : Int64) (i : Int32) : Int32 := (((w.toUInt64 >>> (((8 : Int32) * i) &&& 0x3f).toInt64.toUInt64).toInt64) &&& (255 : Int64)).toInt32
theorem own_byte_eq (w : Int64) (i : Int32) (s : Nat) (hs : ((8 : Int32) * i).toBitVec.toNat % 64 = s) : (own_byte w i).toInt = ((w.toBitVec.toNat / 2 ^ s % 256 : Nat) : Int) := by
  have h : ((((w.toUInt64 >>> (((8 : Int32) * i) &&& 0x3f).toInt64.toUInt64).toInt64) &&& (255 : Int64))).toBitVec.toNat = w.toBitVec.toNat / 2 ^ s % 256 := by
    rw [Int64.toBitVec_and, own_shr, hs, BitVec.toNat_and, BitVec.toNat_ushiftRight, Nat.shiftRight_eq_div_pow]
    exact own_ff _
  have := Nat.mod_lt (w.toBitVec.toNat / 2 ^ s) (show 0 < 256 by decide)
  rw [own_byte, own_sm _ (by omega), h]
def own_step (v : Int32) (w : Int64) (i d : Int32) : Int32 := if v < 0 then v else if i < d then (if own_byte w i < 48 then -1 else if 57 < own_byte w i then -1 else v * 10 + (own_byte w i - 48)) else v
theorem own_step_neg (w : Int64) (i d : Int32) : own_step (-1) w i d = -1 := by rw [own_step, if_pos (by decide)]
theorem own_step_skip (v : Int32) (w : Int64) (i d : Int32) (h : ¬ i < d) : own_step v w i d = v := by
  rw [own_step, if_neg h]; split <;> rfl
theorem own_step_non (v : Int32) (w : Int64) (i d : Int32) (hi : i < d) (b : Nat) (hb : (own_byte w i).toInt = b) (hn : ¬ (48 ≤ b ∧ b ≤ 57)) (hv : 0 ≤ v.toInt) : own_step v w i d = -1 := by
  have h1 : ¬ v < 0 := by rw [Int32.lt_iff_toInt_lt]; exact Int.not_lt.mpr hv
  rw [own_step, if_neg h1, if_pos hi]
  by_cases h2 : own_byte w i < 48
  · rw [if_pos h2]
  · rw [if_neg h2]
    have h3 : 57 < own_byte w i := by
      rw [Int32.lt_iff_toInt_lt, hb] at h2 ⊢
      rw [show (48 : Int32).toInt = 48 from rfl] at h2
      rw [show (57 : Int32).toInt = 57 from rfl]
      omega
    rw [if_pos h3]
theorem own_step_dig (v : Int32) (w : Int64) (i d : Int32) (hi : i < d) (b : Nat) (hb : (own_byte w i).toInt = b) (hn : 48 ≤ b ∧ b ≤ 57) (V : Nat) (hV : v.toInt = V) (hV2 : V < 10000000) : (own_step v w i d).toInt = ((10 * V + (b - 48) : Nat) : Int) := by
  have h1 : ¬ v < 0 := by rw [Int32.lt_iff_toInt_lt, hV, show (0 : Int32).toInt = 0 from rfl]; omega
  have h2 : ¬ own_byte w i < 48 := by rw [Int32.lt_iff_toInt_lt, hb, show (48 : Int32).toInt = 48 from rfl]; omega
  have h3 : ¬ 57 < own_byte w i := by rw [Int32.lt_iff_toInt_lt, hb, show (57 : Int32).toInt = 57 from rfl]; omega
  rw [own_step, if_neg h1, if_pos hi, if_neg h2, if_neg h3, Int32.toInt_add, Int32.toInt_mul, Int32.toInt_sub, hV, hb, show (10 : Int32).toInt = 10 from rfl, show (48 : Int32).toInt = 48 from rfl]
  have e1 : ((V : Int) * 10).bmod (2 ^ 32) = V * 10 := Int.bmod_eq_of_le (by omega) (by omega)
  have e2 : ((b : Int) - 48).bmod (2 ^ 32) = b - 48 := Int.bmod_eq_of_le (by omega) (by omega)
  rw [e1, e2, Int.bmod_eq_of_le (by omega) (by omega)]
  omega
def own_vs (w : Int64) (d : Int32) : Int64 := (w ^^^ (3472328296227680304 : Int64)) <<< (((64 : Int32) - d * (8 : Int32)) &&& 0x3f).toInt64
def own_raw (vs : Int64) : Int32 := ((((((((((((vs * (2561 : Int64)).toUInt64 >>> ((8 : Int32) &&& 0x3f).toInt64.toUInt64).toInt64) &&& (71777214294589695 : Int64)) * (6553601 : Int64)).toUInt64 >>> ((16 : Int32) &&& 0x3f).toInt64.toUInt64).toInt64) &&& (281470681808895 : Int64)) * (42949672960001 : Int64)).toUInt64 >>> ((32 : Int32) &&& 0x3f).toInt64.toUInt64).toInt64)).toInt32
def own_dv (w : Int64) (d : Int32) : Int32 := if lcmpW (((own_vs w d + (8536140394893047414 : Int64)) ||| own_vs w d) &&& (-9187201950435737472 : Int64)) 0 = 0 then own_raw (own_vs w d) else -1
def own_D (b c : Nat) : Prop := c < 256 ∧ (c ≤ 9 ↔ 48 ≤ b ∧ b ≤ 57) ∧ (48 ≤ b → b ≤ 57 → c = b - 48)
theorem own_dv_yes (w : Int64) (d : Int32) (e0 e1 e2 e3 e4 e5 e6 e7 : Nat) (b0 : e0 ≤ 9) (b1 : e1 ≤ 9) (b2 : e2 ≤ 9) (b3 : e3 ≤ 9) (b4 : e4 ≤ 9) (b5 : e5 ≤ 9) (b6 : e6 ≤ 9) (b7 : e7 ≤ 9) (hv : (own_vs w d).toBitVec.toNat = e0 + 256 * (e1 + 256 * (e2 + 256 * (e3 + 256 * (e4 + 256 * (e5 + 256 * (e6 + 256 * (e7)))))))) : (own_dv w d).toInt = ((10000000 * e0 + 1000000 * e1 + 100000 * e2 + 10000 * e3 + 1000 * e4 + 100 * e5 + 10 * e6 + 1 * e7 : Nat) : Int) := by
  have hc : lcmpW (((own_vs w d + (8536140394893047414 : Int64)) ||| own_vs w d) &&& (-9187201950435737472 : Int64)) 0 = 0 := by
    rw [lw_eq, ← Int64.toBitVec_inj]
    exact (own_cond e0 e1 e2 e3 e4 e5 e6 e7 (by omega) (by omega) (by omega) (by omega) (by omega) (by omega) (by omega) (by omega) (own_vs w d).toBitVec hv).mpr ⟨b0, b1, b2, b3, b4, b5, b6, b7⟩
  rw [own_dv, if_pos hc]
  have h := own_val e0 e1 e2 e3 e4 e5 e6 e7 b0 b1 b2 b3 b4 b5 b6 b7 (own_vs w d).toBitVec hv
  have h2 : ((((((((((((own_vs w d * (2561 : Int64)).toUInt64 >>> ((8 : Int32) &&& 0x3f).toInt64.toUInt64).toInt64) &&& (71777214294589695 : Int64)) * (6553601 : Int64)).toUInt64 >>> ((16 : Int32) &&& 0x3f).toInt64.toUInt64).toInt64) &&& (281470681808895 : Int64)) * (42949672960001 : Int64)).toUInt64 >>> ((32 : Int32) &&& 0x3f).toInt64.toUInt64).toInt64)).toBitVec.toNat = 10000000 * e0 + 1000000 * e1 + 100000 * e2 + 10000 * e3 + 1000 * e4 + 100 * e5 + 10 * e6 + 1 * e7 := by
    rw [← h]
    rw [own_shr, Int64.toBitVec_mul, Int64.toBitVec_and, own_shr, Int64.toBitVec_mul, Int64.toBitVec_and, own_shr, Int64.toBitVec_mul]
    rw [show (8 : Int32).toBitVec.toNat % 64 = 8 by decide, show (16 : Int32).toBitVec.toNat % 64 = 16 by decide, show (32 : Int32).toBitVec.toNat % 64 = 32 by decide]
    rw [show (2561 : Int64).toBitVec = 2561#64 by decide, show (6553601 : Int64).toBitVec = 6553601#64 by decide, show (42949672960001 : Int64).toBitVec = 42949672960001#64 by decide, show (71777214294589695 : Int64).toBitVec = 71777214294589695#64 by decide, show (281470681808895 : Int64).toBitVec = 281470681808895#64 by decide]
  rw [own_raw, own_sm _ (by rw [h2]; omega), h2]
theorem own_dv_no (w : Int64) (d : Int32) (e0 e1 e2 e3 e4 e5 e6 e7 : Nat) (b0 : e0 < 256) (b1 : e1 < 256) (b2 : e2 < 256) (b3 : e3 < 256) (b4 : e4 < 256) (b5 : e5 < 256) (b6 : e6 < 256) (b7 : e7 < 256) (hv : (own_vs w d).toBitVec.toNat = e0 + 256 * (e1 + 256 * (e2 + 256 * (e3 + 256 * (e4 + 256 * (e5 + 256 * (e6 + 256 * (e7)))))))) (hn : ¬ (e0 ≤ 9 ∧ e1 ≤ 9 ∧ e2 ≤ 9 ∧ e3 ≤ 9 ∧ e4 ≤ 9 ∧ e5 ≤ 9 ∧ e6 ≤ 9 ∧ e7 ≤ 9)) : own_dv w d = -1 := by
  have hc : ¬ (lcmpW (((own_vs w d + (8536140394893047414 : Int64)) ||| own_vs w d) &&& (-9187201950435737472 : Int64)) 0 = 0) := by
    rw [lw_eq, ← Int64.toBitVec_inj]
    exact fun q => hn ((own_cond e0 e1 e2 e3 e4 e5 e6 e7 b0 b1 b2 b3 b4 b5 b6 b7 (own_vs w d).toBitVec hv).mp q)
  rw [own_dv, if_neg hc]
theorem own_xor30 (x : BitVec 64) : (x ^^^ 3472328296227680304#64).toNat = ((x.toNat % 256) ^^^ 48) + 256 * (((x.toNat / 256 % 256) ^^^ 48) + 256 * (((x.toNat / 65536 % 256) ^^^ 48) + 256 * (((x.toNat / 16777216 % 256) ^^^ 48) + 256 * (((x.toNat / 4294967296 % 256) ^^^ 48) + 256 * (((x.toNat / 1099511627776 % 256) ^^^ 48) + 256 * (((x.toNat / 281474976710656 % 256) ^^^ 48) + 256 * (((x.toNat / 72057594037927936 % 256) ^^^ 48)))))))) := by
  rw [BitVec.toNat_xor]
  conv => lhs; rw [own_bytes x.toNat x.isLt, show (3472328296227680304#64).toNat = 48 + 256 * (48 + 256 * (48 + 256 * (48 + 256 * (48 + 256 * (48 + 256 * (48 + 256 * (48))))))) by decide]
  rw [own_xorc _ _ _ _ (Nat.mod_lt _ (by decide)) (by decide), own_xorc _ _ _ _ (Nat.mod_lt _ (by decide)) (by decide), own_xorc _ _ _ _ (Nat.mod_lt _ (by decide)) (by decide), own_xorc _ _ _ _ (Nat.mod_lt _ (by decide)) (by decide), own_xorc _ _ _ _ (Nat.mod_lt _ (by decide)) (by decide), own_xorc _ _ _ _ (Nat.mod_lt _ (by decide)) (by decide), own_xorc _ _ _ _ (Nat.mod_lt _ (by decide)) (by decide)]
theorem own_sh1 (c0 c1 c2 c3 c4 c5 c6 c7 : Nat) (m0 : c0 < 256) : (c0 + 256 * (c1 + 256 * (c2 + 256 * (c3 + 256 * (c4 + 256 * (c5 + 256 * (c6 + 256 * (c7)))))))) * 72057594037927936 % 18446744073709551616 = 0 + 256 * (0 + 256 * (0 + 256 * (0 + 256 * (0 + 256 * (0 + 256 * (0 + 256 * (c0))))))) := by
  have h1 : (c0 + 256 * (c1 + 256 * (c2 + 256 * (c3 + 256 * (c4 + 256 * (c5 + 256 * (c6 + 256 * (c7)))))))) * 72057594037927936 = (0 + 256 * (0 + 256 * (0 + 256 * (0 + 256 * (0 + 256 * (0 + 256 * (0 + 256 * (c0)))))))) + 18446744073709551616 * (c1 + 256 * (c2 + 256 * (c3 + 256 * (c4 + 256 * (c5 + 256 * (c6 + 256 * (c7))))))) := by omega
  rw [h1, Nat.add_mul_mod_self_left]
  exact Nat.mod_eq_of_lt (by omega)
theorem own_law1 (w : Int64) : own_dv w (1 : Int32) = (own_step (own_step (own_step (own_step (own_step (own_step (own_step (own_step (0 : Int32) w (0 : Int32) (1 : Int32)) w (1 : Int32) (1 : Int32)) w (2 : Int32) (1 : Int32)) w (3 : Int32) (1 : Int32)) w (4 : Int32) (1 : Int32)) w (5 : Int32) (1 : Int32)) w (6 : Int32) (1 : Int32)) w (7 : Int32) (1 : Int32)) := by
  have hx := own_xor30 w.toBitVec
  generalize hb0 : w.toBitVec.toNat % 256 = b0 at hx
  have l0 : b0 < 256 := by rw [← hb0]; exact Nat.mod_lt _ (by decide)
  have f0 : (own_byte w (0 : Int32)).toInt = b0 := by rw [own_byte_eq w (0 : Int32) 0 (by decide), ← hb0]; simp
  have D0 : own_D b0 (b0 ^^^ 48) := own_dig l0
  have m0 : b0 ^^^ 48 < 256 := D0.1
  generalize hc0 : b0 ^^^ 48 = c0 at hx m0 D0
  generalize hb1 : w.toBitVec.toNat / 256 % 256 = b1 at hx
  have l1 : b1 < 256 := by rw [← hb1]; exact Nat.mod_lt _ (by decide)
  have f1 : (own_byte w (1 : Int32)).toInt = b1 := by rw [own_byte_eq w (1 : Int32) 8 (by decide), ← hb1]
  have D1 : own_D b1 (b1 ^^^ 48) := own_dig l1
  have m1 : b1 ^^^ 48 < 256 := D1.1
  generalize hc1 : b1 ^^^ 48 = c1 at hx m1 D1
  generalize hb2 : w.toBitVec.toNat / 65536 % 256 = b2 at hx
  have l2 : b2 < 256 := by rw [← hb2]; exact Nat.mod_lt _ (by decide)
  have f2 : (own_byte w (2 : Int32)).toInt = b2 := by rw [own_byte_eq w (2 : Int32) 16 (by decide), ← hb2]
  have D2 : own_D b2 (b2 ^^^ 48) := own_dig l2
  have m2 : b2 ^^^ 48 < 256 := D2.1
  generalize hc2 : b2 ^^^ 48 = c2 at hx m2 D2
  generalize hb3 : w.toBitVec.toNat / 16777216 % 256 = b3 at hx
  have l3 : b3 < 256 := by rw [← hb3]; exact Nat.mod_lt _ (by decide)
  have f3 : (own_byte w (3 : Int32)).toInt = b3 := by rw [own_byte_eq w (3 : Int32) 24 (by decide), ← hb3]
  have D3 : own_D b3 (b3 ^^^ 48) := own_dig l3
  have m3 : b3 ^^^ 48 < 256 := D3.1
  generalize hc3 : b3 ^^^ 48 = c3 at hx m3 D3
  generalize hb4 : w.toBitVec.toNat / 4294967296 % 256 = b4 at hx
  have l4 : b4 < 256 := by rw [← hb4]; exact Nat.mod_lt _ (by decide)
  have f4 : (own_byte w (4 : Int32)).toInt = b4 := by rw [own_byte_eq w (4 : Int32) 32 (by decide), ← hb4]
  have D4 : own_D b4 (b4 ^^^ 48) := own_dig l4
  have m4 : b4 ^^^ 48 < 256 := D4.1
  generalize hc4 : b4 ^^^ 48 = c4 at hx m4 D4
  generalize hb5 : w.toBitVec.toNat / 1099511627776 % 256 = b5 at hx
  have l5 : b5 < 256 := by rw [← hb5]; exact Nat.mod_lt _ (by decide)
  have f5 : (own_byte w (5 : Int32)).toInt = b5 := by rw [own_byte_eq w (5 : Int32) 40 (by decide), ← hb5]
  have D5 : own_D b5 (b5 ^^^ 48) := own_dig l5
  have m5 : b5 ^^^ 48 < 256 := D5.1
  generalize hc5 : b5 ^^^ 48 = c5 at hx m5 D5
  generalize hb6 : w.toBitVec.toNat / 281474976710656 % 256 = b6 at hx
  have l6 : b6 < 256 := by rw [← hb6]; exact Nat.mod_lt _ (by decide)
  have f6 : (own_byte w (6 : Int32)).toInt = b6 := by rw [own_byte_eq w (6 : Int32) 48 (by decide), ← hb6]
  have D6 : own_D b6 (b6 ^^^ 48) := own_dig l6
  have m6 : b6 ^^^ 48 < 256 := D6.1
  generalize hc6 : b6 ^^^ 48 = c6 at hx m6 D6
  generalize hb7 : w.toBitVec.toNat / 72057594037927936 % 256 = b7 at hx
  have l7 : b7 < 256 := by rw [← hb7]; exact Nat.mod_lt _ (by decide)
  have f7 : (own_byte w (7 : Int32)).toInt = b7 := by rw [own_byte_eq w (7 : Int32) 56 (by decide), ← hb7]
  have D7 : own_D b7 (b7 ^^^ 48) := own_dig l7
  have m7 : b7 ^^^ 48 < 256 := D7.1
  generalize hc7 : b7 ^^^ 48 = c7 at hx m7 D7
  clear hb0 hc0 hb1 hc1 hb2 hc2 hb3 hc3 hb4 hc4 hb5 hc5 hb6 hc6 hb7 hc7
  have hv : (own_vs w (1 : Int32)).toBitVec.toNat = 0 + 256 * (0 + 256 * (0 + 256 * (0 + 256 * (0 + 256 * (0 + 256 * (0 + 256 * (c0))))))) := by
    rw [own_vs, own_shl, show ((64 : Int32) - (1 : Int32) * (8 : Int32)).toBitVec.toNat % 64 = 56 by decide, BitVec.toNat_shiftLeft, Nat.shiftLeft_eq, Int64.toBitVec_xor]
    show (w.toBitVec ^^^ 3472328296227680304#64).toNat * 72057594037927936 % 18446744073709551616 = _
    rw [hx]
    exact own_sh1 c0 c1 c2 c3 c4 c5 c6 c7 m0
  have g0 : (0 : Int32).toInt = ((0 : Nat) : Int) := rfl
  by_cases q0 : 48 ≤ b0 ∧ b0 ≤ 57
  case neg =>
    rw [own_dv_no w (1 : Int32) 0 0 0 0 0 0 0 c0 (by decide) (by decide) (by decide) (by decide) (by decide) (by decide) (by decide) m0 hv (by rintro ⟨u0, u1, u2, u3, u4, u5, u6, u7⟩; exact q0 (D0.2.1.mp u7))]
    rw [own_step_non (0 : Int32) w (0 : Int32) (1 : Int32) (by decide) b0 f0 q0 (by rw [g0]; exact Int.natCast_nonneg _)]
    simp only [own_step_neg]
  have g1 := own_step_dig (0 : Int32) w (0 : Int32) (1 : Int32) (by decide) b0 f0 q0 0 g0 (by omega)
  apply Int32.toInt_inj.mp
  rw [own_dv_yes w (1 : Int32) 0 0 0 0 0 0 0 c0 (by decide) (by decide) (by decide) (by decide) (by decide) (by decide) (by decide) (D0.2.1.mpr q0) hv]
  rw [own_step_skip _ w (7 : Int32) (1 : Int32) (by decide), own_step_skip _ w (6 : Int32) (1 : Int32) (by decide), own_step_skip _ w (5 : Int32) (1 : Int32) (by decide), own_step_skip _ w (4 : Int32) (1 : Int32) (by decide), own_step_skip _ w (3 : Int32) (1 : Int32) (by decide), own_step_skip _ w (2 : Int32) (1 : Int32) (by decide), own_step_skip _ w (1 : Int32) (1 : Int32) (by decide)]
  rw [g1]
  have z0 := D0.2.2 q0.1 q0.2
  clear hv hx g0 f0 D0 f1 D1 f2 D2 f3 D3 f4 D4 f5 D5 f6 D6 f7 D7 g1
  omega
theorem own_sh2 (c0 c1 c2 c3 c4 c5 c6 c7 : Nat) (m0 : c0 < 256) (m1 : c1 < 256) : (c0 + 256 * (c1 + 256 * (c2 + 256 * (c3 + 256 * (c4 + 256 * (c5 + 256 * (c6 + 256 * (c7)))))))) * 281474976710656 % 18446744073709551616 = 0 + 256 * (0 + 256 * (0 + 256 * (0 + 256 * (0 + 256 * (0 + 256 * (c0 + 256 * (c1))))))) := by
  have h1 : (c0 + 256 * (c1 + 256 * (c2 + 256 * (c3 + 256 * (c4 + 256 * (c5 + 256 * (c6 + 256 * (c7)))))))) * 281474976710656 = (0 + 256 * (0 + 256 * (0 + 256 * (0 + 256 * (0 + 256 * (0 + 256 * (c0 + 256 * (c1)))))))) + 18446744073709551616 * (c2 + 256 * (c3 + 256 * (c4 + 256 * (c5 + 256 * (c6 + 256 * (c7)))))) := by omega
  rw [h1, Nat.add_mul_mod_self_left]
  exact Nat.mod_eq_of_lt (by omega)
theorem own_law2 (w : Int64) : own_dv w (2 : Int32) = (own_step (own_step (own_step (own_step (own_step (own_step (own_step (own_step (0 : Int32) w (0 : Int32) (2 : Int32)) w (1 : Int32) (2 : Int32)) w (2 : Int32) (2 : Int32)) w (3 : Int32) (2 : Int32)) w (4 : Int32) (2 : Int32)) w (5 : Int32) (2 : Int32)) w (6 : Int32) (2 : Int32)) w (7 : Int32) (2 : Int32)) := by
  have hx := own_xor30 w.toBitVec
  generalize hb0 : w.toBitVec.toNat % 256 = b0 at hx
  have l0 : b0 < 256 := by rw [← hb0]; exact Nat.mod_lt _ (by decide)
  have f0 : (own_byte w (0 : Int32)).toInt = b0 := by rw [own_byte_eq w (0 : Int32) 0 (by decide), ← hb0]; simp
  have D0 : own_D b0 (b0 ^^^ 48) := own_dig l0
  have m0 : b0 ^^^ 48 < 256 := D0.1
  generalize hc0 : b0 ^^^ 48 = c0 at hx m0 D0
  generalize hb1 : w.toBitVec.toNat / 256 % 256 = b1 at hx
  have l1 : b1 < 256 := by rw [← hb1]; exact Nat.mod_lt _ (by decide)
  have f1 : (own_byte w (1 : Int32)).toInt = b1 := by rw [own_byte_eq w (1 : Int32) 8 (by decide), ← hb1]
  have D1 : own_D b1 (b1 ^^^ 48) := own_dig l1
  have m1 : b1 ^^^ 48 < 256 := D1.1
  generalize hc1 : b1 ^^^ 48 = c1 at hx m1 D1
  generalize hb2 : w.toBitVec.toNat / 65536 % 256 = b2 at hx
  have l2 : b2 < 256 := by rw [← hb2]; exact Nat.mod_lt _ (by decide)
  have f2 : (own_byte w (2 : Int32)).toInt = b2 := by rw [own_byte_eq w (2 : Int32) 16 (by decide), ← hb2]
  have D2 : own_D b2 (b2 ^^^ 48) := own_dig l2
  have m2 : b2 ^^^ 48 < 256 := D2.1
  generalize hc2 : b2 ^^^ 48 = c2 at hx m2 D2
  generalize hb3 : w.toBitVec.toNat / 16777216 % 256 = b3 at hx
  have l3 : b3 < 256 := by rw [← hb3]; exact Nat.mod_lt _ (by decide)
  have f3 : (own_byte w (3 : Int32)).toInt = b3 := by rw [own_byte_eq w (3 : Int32) 24 (by decide), ← hb3]
  have D3 : own_D b3 (b3 ^^^ 48) := own_dig l3
  have m3 : b3 ^^^ 48 < 256 := D3.1
  generalize hc3 : b3 ^^^ 48 = c3 at hx m3 D3
  generalize hb4 : w.toBitVec.toNat / 4294967296 % 256 = b4 at hx
  have l4 : b4 < 256 := by rw [← hb4]; exact Nat.mod_lt _ (by decide)
  have f4 : (own_byte w (4 : Int32)).toInt = b4 := by rw [own_byte_eq w (4 : Int32) 32 (by decide), ← hb4]
  have D4 : own_D b4 (b4 ^^^ 48) := own_dig l4
  have m4 : b4 ^^^ 48 < 256 := D4.1
  generalize hc4 : b4 ^^^ 48 = c4 at hx m4 D4
  generalize hb5 : w.toBitVec.toNat / 1099511627776 % 256 = b5 at hx
  have l5 : b5 < 256 := by rw [← hb5]; exact Nat.mod_lt _ (by decide)
  have f5 : (own_byte w (5 : Int32)).toInt = b5 := by rw [own_byte_eq w (5 : Int32) 40 (by decide), ← hb5]
  have D5 : own_D b5 (b5 ^^^ 48) := own_dig l5
  have m5 : b5 ^^^ 48 < 256 := D5.1
  generalize hc5 : b5 ^^^ 48 = c5 at hx m5 D5
  generalize hb6 : w.toBitVec.toNat / 281474976710656 % 256 = b6 at hx
  have l6 : b6 < 256 := by rw [← hb6]; exact Nat.mod_lt _ (by decide)
  have f6 : (own_byte w (6 : Int32)).toInt = b6 := by rw [own_byte_eq w (6 : Int32) 48 (by decide), ← hb6]
  have D6 : own_D b6 (b6 ^^^ 48) := own_dig l6
  have m6 : b6 ^^^ 48 < 256 := D6.1
  generalize hc6 : b6 ^^^ 48 = c6 at hx m6 D6
  generalize hb7 : w.toBitVec.toNat / 72057594037927936 % 256 = b7 at hx
  have l7 : b7 < 256 := by rw [← hb7]; exact Nat.mod_lt _ (by decide)
  have f7 : (own_byte w (7 : Int32)).toInt = b7 := by rw [own_byte_eq w (7 : Int32) 56 (by decide), ← hb7]
  have D7 : own_D b7 (b7 ^^^ 48) := own_dig l7
  have m7 : b7 ^^^ 48 < 256 := D7.1
  generalize hc7 : b7 ^^^ 48 = c7 at hx m7 D7
  clear hb0 hc0 hb1 hc1 hb2 hc2 hb3 hc3 hb4 hc4 hb5 hc5 hb6 hc6 hb7 hc7
  have hv : (own_vs w (2 : Int32)).toBitVec.toNat = 0 + 256 * (0 + 256 * (0 + 256 * (0 + 256 * (0 + 256 * (0 + 256 * (c0 + 256 * (c1))))))) := by
    rw [own_vs, own_shl, show ((64 : Int32) - (2 : Int32) * (8 : Int32)).toBitVec.toNat % 64 = 48 by decide, BitVec.toNat_shiftLeft, Nat.shiftLeft_eq, Int64.toBitVec_xor]
    show (w.toBitVec ^^^ 3472328296227680304#64).toNat * 281474976710656 % 18446744073709551616 = _
    rw [hx]
    exact own_sh2 c0 c1 c2 c3 c4 c5 c6 c7 m0 m1
  have g0 : (0 : Int32).toInt = ((0 : Nat) : Int) := rfl
  by_cases q0 : 48 ≤ b0 ∧ b0 ≤ 57
  case neg =>
    rw [own_dv_no w (2 : Int32) 0 0 0 0 0 0 c0 c1 (by decide) (by decide) (by decide) (by decide) (by decide) (by decide) m0 m1 hv (by rintro ⟨u0, u1, u2, u3, u4, u5, u6, u7⟩; exact q0 (D0.2.1.mp u6))]
    rw [own_step_non (0 : Int32) w (0 : Int32) (2 : Int32) (by decide) b0 f0 q0 (by rw [g0]; exact Int.natCast_nonneg _)]
    simp only [own_step_neg]
  have g1 := own_step_dig (0 : Int32) w (0 : Int32) (2 : Int32) (by decide) b0 f0 q0 0 g0 (by omega)
  by_cases q1 : 48 ≤ b1 ∧ b1 ≤ 57
  case neg =>
    rw [own_dv_no w (2 : Int32) 0 0 0 0 0 0 c0 c1 (by decide) (by decide) (by decide) (by decide) (by decide) (by decide) m0 m1 hv (by rintro ⟨u0, u1, u2, u3, u4, u5, u6, u7⟩; exact q1 (D1.2.1.mp u7))]
    rw [own_step_non (own_step (0 : Int32) w (0 : Int32) (2 : Int32)) w (1 : Int32) (2 : Int32) (by decide) b1 f1 q1 (by rw [g1]; exact Int.natCast_nonneg _)]
    simp only [own_step_neg]
  have g2 := own_step_dig (own_step (0 : Int32) w (0 : Int32) (2 : Int32)) w (1 : Int32) (2 : Int32) (by decide) b1 f1 q1 (10 * 0 + (b0 - 48)) g1 (by omega)
  apply Int32.toInt_inj.mp
  rw [own_dv_yes w (2 : Int32) 0 0 0 0 0 0 c0 c1 (by decide) (by decide) (by decide) (by decide) (by decide) (by decide) (D0.2.1.mpr q0) (D1.2.1.mpr q1) hv]
  rw [own_step_skip _ w (7 : Int32) (2 : Int32) (by decide), own_step_skip _ w (6 : Int32) (2 : Int32) (by decide), own_step_skip _ w (5 : Int32) (2 : Int32) (by decide), own_step_skip _ w (4 : Int32) (2 : Int32) (by decide), own_step_skip _ w (3 : Int32) (2 : Int32) (by decide), own_step_skip _ w (2 : Int32) (2 : Int32) (by decide)]
  rw [g2]
  have z0 := D0.2.2 q0.1 q0.2
  have z1 := D1.2.2 q1.1 q1.2
  clear hv hx g0 f0 D0 f1 D1 f2 D2 f3 D3 f4 D4 f5 D5 f6 D6 f7 D7 g1 g2
  omega
theorem own_sh3 (c0 c1 c2 c3 c4 c5 c6 c7 : Nat) (m0 : c0 < 256) (m1 : c1 < 256) (m2 : c2 < 256) : (c0 + 256 * (c1 + 256 * (c2 + 256 * (c3 + 256 * (c4 + 256 * (c5 + 256 * (c6 + 256 * (c7)))))))) * 1099511627776 % 18446744073709551616 = 0 + 256 * (0 + 256 * (0 + 256 * (0 + 256 * (0 + 256 * (c0 + 256 * (c1 + 256 * (c2))))))) := by
  have h1 : (c0 + 256 * (c1 + 256 * (c2 + 256 * (c3 + 256 * (c4 + 256 * (c5 + 256 * (c6 + 256 * (c7)))))))) * 1099511627776 = (0 + 256 * (0 + 256 * (0 + 256 * (0 + 256 * (0 + 256 * (c0 + 256 * (c1 + 256 * (c2)))))))) + 18446744073709551616 * (c3 + 256 * (c4 + 256 * (c5 + 256 * (c6 + 256 * (c7))))) := by omega
  rw [h1, Nat.add_mul_mod_self_left]
  exact Nat.mod_eq_of_lt (by omega)
theorem own_law3 (w : Int64) : own_dv w (3 : Int32) = (own_step (own_step (own_step (own_step (own_step (own_step (own_step (own_step (0 : Int32) w (0 : Int32) (3 : Int32)) w (1 : Int32) (3 : Int32)) w (2 : Int32) (3 : Int32)) w (3 : Int32) (3 : Int32)) w (4 : Int32) (3 : Int32)) w (5 : Int32) (3 : Int32)) w (6 : Int32) (3 : Int32)) w (7 : Int32) (3 : Int32)) := by
  have hx := own_xor30 w.toBitVec
  generalize hb0 : w.toBitVec.toNat % 256 = b0 at hx
  have l0 : b0 < 256 := by rw [← hb0]; exact Nat.mod_lt _ (by decide)
  have f0 : (own_byte w (0 : Int32)).toInt = b0 := by rw [own_byte_eq w (0 : Int32) 0 (by decide), ← hb0]; simp
  have D0 : own_D b0 (b0 ^^^ 48) := own_dig l0
  have m0 : b0 ^^^ 48 < 256 := D0.1
  generalize hc0 : b0 ^^^ 48 = c0 at hx m0 D0
  generalize hb1 : w.toBitVec.toNat / 256 % 256 = b1 at hx
  have l1 : b1 < 256 := by rw [← hb1]; exact Nat.mod_lt _ (by decide)
  have f1 : (own_byte w (1 : Int32)).toInt = b1 := by rw [own_byte_eq w (1 : Int32) 8 (by decide), ← hb1]
  have D1 : own_D b1 (b1 ^^^ 48) := own_dig l1
  have m1 : b1 ^^^ 48 < 256 := D1.1
  generalize hc1 : b1 ^^^ 48 = c1 at hx m1 D1
  generalize hb2 : w.toBitVec.toNat / 65536 % 256 = b2 at hx
  have l2 : b2 < 256 := by rw [← hb2]; exact Nat.mod_lt _ (by decide)
  have f2 : (own_byte w (2 : Int32)).toInt = b2 := by rw [own_byte_eq w (2 : Int32) 16 (by decide), ← hb2]
  have D2 : own_D b2 (b2 ^^^ 48) := own_dig l2
  have m2 : b2 ^^^ 48 < 256 := D2.1
  generalize hc2 : b2 ^^^ 48 = c2 at hx m2 D2
  generalize hb3 : w.toBitVec.toNat / 16777216 % 256 = b3 at hx
  have l3 : b3 < 256 := by rw [← hb3]; exact Nat.mod_lt _ (by decide)
  have f3 : (own_byte w (3 : Int32)).toInt = b3 := by rw [own_byte_eq w (3 : Int32) 24 (by decide), ← hb3]
  have D3 : own_D b3 (b3 ^^^ 48) := own_dig l3
  have m3 : b3 ^^^ 48 < 256 := D3.1
  generalize hc3 : b3 ^^^ 48 = c3 at hx m3 D3
  generalize hb4 : w.toBitVec.toNat / 4294967296 % 256 = b4 at hx
  have l4 : b4 < 256 := by rw [← hb4]; exact Nat.mod_lt _ (by decide)
  have f4 : (own_byte w (4 : Int32)).toInt = b4 := by rw [own_byte_eq w (4 : Int32) 32 (by decide), ← hb4]
  have D4 : own_D b4 (b4 ^^^ 48) := own_dig l4
  have m4 : b4 ^^^ 48 < 256 := D4.1
  generalize hc4 : b4 ^^^ 48 = c4 at hx m4 D4
  generalize hb5 : w.toBitVec.toNat / 1099511627776 % 256 = b5 at hx
  have l5 : b5 < 256 := by rw [← hb5]; exact Nat.mod_lt _ (by decide)
  have f5 : (own_byte w (5 : Int32)).toInt = b5 := by rw [own_byte_eq w (5 : Int32) 40 (by decide), ← hb5]
  have D5 : own_D b5 (b5 ^^^ 48) := own_dig l5
  have m5 : b5 ^^^ 48 < 256 := D5.1
  generalize hc5 : b5 ^^^ 48 = c5 at hx m5 D5
  generalize hb6 : w.toBitVec.toNat / 281474976710656 % 256 = b6 at hx
  have l6 : b6 < 256 := by rw [← hb6]; exact Nat.mod_lt _ (by decide)
  have f6 : (own_byte w (6 : Int32)).toInt = b6 := by rw [own_byte_eq w (6 : Int32) 48 (by decide), ← hb6]
  have D6 : own_D b6 (b6 ^^^ 48) := own_dig l6
  have m6 : b6 ^^^ 48 < 256 := D6.1
  generalize hc6 : b6 ^^^ 48 = c6 at hx m6 D6
  generalize hb7 : w.toBitVec.toNat / 72057594037927936 % 256 = b7 at hx
  have l7 : b7 < 256 := by rw [← hb7]; exact Nat.mod_lt _ (by decide)
  have f7 : (own_byte w (7 : Int32)).toInt = b7 := by rw [own_byte_eq w (7 : Int32) 56 (by decide), ← hb7]
  have D7 : own_D b7 (b7 ^^^ 48) := own_dig l7
  have m7 : b7 ^^^ 48 < 256 := D7.1
  generalize hc7 : b7 ^^^ 48 = c7 at hx m7 D7
  clear hb0 hc0 hb1 hc1 hb2 hc2 hb3 hc3 hb4 hc4 hb5 hc5 hb6 hc6 hb7 hc7
  have hv : (own_vs w (3 : Int32)).toBitVec.toNat = 0 + 256 * (0 + 256 * (0 + 256 * (0 + 256 * (0 + 256 * (c0 + 256 * (c1 + 256 * (c2))))))) := by
    rw [own_vs, own_shl, show ((64 : Int32) - (3 : Int32) * (8 : Int32)).toBitVec.toNat % 64 = 40 by decide, BitVec.toNat_shiftLeft, Nat.shiftLeft_eq, Int64.toBitVec_xor]
    show (w.toBitVec ^^^ 3472328296227680304#64).toNat * 1099511627776 % 18446744073709551616 = _
    rw [hx]
    exact own_sh3 c0 c1 c2 c3 c4 c5 c6 c7 m0 m1 m2
  have g0 : (0 : Int32).toInt = ((0 : Nat) : Int) := rfl
  by_cases q0 : 48 ≤ b0 ∧ b0 ≤ 57
  case neg =>
    rw [own_dv_no w (3 : Int32) 0 0 0 0 0 c0 c1 c2 (by decide) (by decide) (by decide) (by decide) (by decide) m0 m1 m2 hv (by rintro ⟨u0, u1, u2, u3, u4, u5, u6, u7⟩; exact q0 (D0.2.1.mp u5))]
    rw [own_step_non (0 : Int32) w (0 : Int32) (3 : Int32) (by decide) b0 f0 q0 (by rw [g0]; exact Int.natCast_nonneg _)]
    simp only [own_step_neg]
  have g1 := own_step_dig (0 : Int32) w (0 : Int32) (3 : Int32) (by decide) b0 f0 q0 0 g0 (by omega)
  by_cases q1 : 48 ≤ b1 ∧ b1 ≤ 57
  case neg =>
    rw [own_dv_no w (3 : Int32) 0 0 0 0 0 c0 c1 c2 (by decide) (by decide) (by decide) (by decide) (by decide) m0 m1 m2 hv (by rintro ⟨u0, u1, u2, u3, u4, u5, u6, u7⟩; exact q1 (D1.2.1.mp u6))]
    rw [own_step_non (own_step (0 : Int32) w (0 : Int32) (3 : Int32)) w (1 : Int32) (3 : Int32) (by decide) b1 f1 q1 (by rw [g1]; exact Int.natCast_nonneg _)]
    simp only [own_step_neg]
  have g2 := own_step_dig (own_step (0 : Int32) w (0 : Int32) (3 : Int32)) w (1 : Int32) (3 : Int32) (by decide) b1 f1 q1 (10 * 0 + (b0 - 48)) g1 (by omega)
  by_cases q2 : 48 ≤ b2 ∧ b2 ≤ 57
  case neg =>
    rw [own_dv_no w (3 : Int32) 0 0 0 0 0 c0 c1 c2 (by decide) (by decide) (by decide) (by decide) (by decide) m0 m1 m2 hv (by rintro ⟨u0, u1, u2, u3, u4, u5, u6, u7⟩; exact q2 (D2.2.1.mp u7))]
    rw [own_step_non (own_step (own_step (0 : Int32) w (0 : Int32) (3 : Int32)) w (1 : Int32) (3 : Int32)) w (2 : Int32) (3 : Int32) (by decide) b2 f2 q2 (by rw [g2]; exact Int.natCast_nonneg _)]
    simp only [own_step_neg]
  have g3 := own_step_dig (own_step (own_step (0 : Int32) w (0 : Int32) (3 : Int32)) w (1 : Int32) (3 : Int32)) w (2 : Int32) (3 : Int32) (by decide) b2 f2 q2 (10 * (10 * 0 + (b0 - 48)) + (b1 - 48)) g2 (by omega)
  apply Int32.toInt_inj.mp
  rw [own_dv_yes w (3 : Int32) 0 0 0 0 0 c0 c1 c2 (by decide) (by decide) (by decide) (by decide) (by decide) (D0.2.1.mpr q0) (D1.2.1.mpr q1) (D2.2.1.mpr q2) hv]
  rw [own_step_skip _ w (7 : Int32) (3 : Int32) (by decide), own_step_skip _ w (6 : Int32) (3 : Int32) (by decide), own_step_skip _ w (5 : Int32) (3 : Int32) (by decide), own_step_skip _ w (4 : Int32) (3 : Int32) (by decide), own_step_skip _ w (3 : Int32) (3 : Int32) (by decide)]
  rw [g3]
  have z0 := D0.2.2 q0.1 q0.2
  have z1 := D1.2.2 q1.1 q1.2
  have z2 := D2.2.2 q2.1 q2.2
  clear hv hx g0 f0 D0 f1 D1 f2 D2 f3 D3 f4 D4 f5 D5 f6 D6 f7 D7 g1 g2 g3
  omega
theorem own_sh4 (c0 c1 c2 c3 c4 c5 c6 c7 : Nat) (m0 : c0 < 256) (m1 : c1 < 256) (m2 : c2 < 256) (m3 : c3 < 256) : (c0 + 256 * (c1 + 256 * (c2 + 256 * (c3 + 256 * (c4 + 256 * (c5 + 256 * (c6 + 256 * (c7)))))))) * 4294967296 % 18446744073709551616 = 0 + 256 * (0 + 256 * (0 + 256 * (0 + 256 * (c0 + 256 * (c1 + 256 * (c2 + 256 * (c3))))))) := by
  have h1 : (c0 + 256 * (c1 + 256 * (c2 + 256 * (c3 + 256 * (c4 + 256 * (c5 + 256 * (c6 + 256 * (c7)))))))) * 4294967296 = (0 + 256 * (0 + 256 * (0 + 256 * (0 + 256 * (c0 + 256 * (c1 + 256 * (c2 + 256 * (c3)))))))) + 18446744073709551616 * (c4 + 256 * (c5 + 256 * (c6 + 256 * (c7)))) := by omega
  rw [h1, Nat.add_mul_mod_self_left]
  exact Nat.mod_eq_of_lt (by omega)
theorem own_law4 (w : Int64) : own_dv w (4 : Int32) = (own_step (own_step (own_step (own_step (own_step (own_step (own_step (own_step (0 : Int32) w (0 : Int32) (4 : Int32)) w (1 : Int32) (4 : Int32)) w (2 : Int32) (4 : Int32)) w (3 : Int32) (4 : Int32)) w (4 : Int32) (4 : Int32)) w (5 : Int32) (4 : Int32)) w (6 : Int32) (4 : Int32)) w (7 : Int32) (4 : Int32)) := by
  have hx := own_xor30 w.toBitVec
  generalize hb0 : w.toBitVec.toNat % 256 = b0 at hx
  have l0 : b0 < 256 := by rw [← hb0]; exact Nat.mod_lt _ (by decide)
  have f0 : (own_byte w (0 : Int32)).toInt = b0 := by rw [own_byte_eq w (0 : Int32) 0 (by decide), ← hb0]; simp
  have D0 : own_D b0 (b0 ^^^ 48) := own_dig l0
  have m0 : b0 ^^^ 48 < 256 := D0.1
  generalize hc0 : b0 ^^^ 48 = c0 at hx m0 D0
  generalize hb1 : w.toBitVec.toNat / 256 % 256 = b1 at hx
  have l1 : b1 < 256 := by rw [← hb1]; exact Nat.mod_lt _ (by decide)
  have f1 : (own_byte w (1 : Int32)).toInt = b1 := by rw [own_byte_eq w (1 : Int32) 8 (by decide), ← hb1]
  have D1 : own_D b1 (b1 ^^^ 48) := own_dig l1
  have m1 : b1 ^^^ 48 < 256 := D1.1
  generalize hc1 : b1 ^^^ 48 = c1 at hx m1 D1
  generalize hb2 : w.toBitVec.toNat / 65536 % 256 = b2 at hx
  have l2 : b2 < 256 := by rw [← hb2]; exact Nat.mod_lt _ (by decide)
  have f2 : (own_byte w (2 : Int32)).toInt = b2 := by rw [own_byte_eq w (2 : Int32) 16 (by decide), ← hb2]
  have D2 : own_D b2 (b2 ^^^ 48) := own_dig l2
  have m2 : b2 ^^^ 48 < 256 := D2.1
  generalize hc2 : b2 ^^^ 48 = c2 at hx m2 D2
  generalize hb3 : w.toBitVec.toNat / 16777216 % 256 = b3 at hx
  have l3 : b3 < 256 := by rw [← hb3]; exact Nat.mod_lt _ (by decide)
  have f3 : (own_byte w (3 : Int32)).toInt = b3 := by rw [own_byte_eq w (3 : Int32) 24 (by decide), ← hb3]
  have D3 : own_D b3 (b3 ^^^ 48) := own_dig l3
  have m3 : b3 ^^^ 48 < 256 := D3.1
  generalize hc3 : b3 ^^^ 48 = c3 at hx m3 D3
  generalize hb4 : w.toBitVec.toNat / 4294967296 % 256 = b4 at hx
  have l4 : b4 < 256 := by rw [← hb4]; exact Nat.mod_lt _ (by decide)
  have f4 : (own_byte w (4 : Int32)).toInt = b4 := by rw [own_byte_eq w (4 : Int32) 32 (by decide), ← hb4]
  have D4 : own_D b4 (b4 ^^^ 48) := own_dig l4
  have m4 : b4 ^^^ 48 < 256 := D4.1
  generalize hc4 : b4 ^^^ 48 = c4 at hx m4 D4
  generalize hb5 : w.toBitVec.toNat / 1099511627776 % 256 = b5 at hx
  have l5 : b5 < 256 := by rw [← hb5]; exact Nat.mod_lt _ (by decide)
  have f5 : (own_byte w (5 : Int32)).toInt = b5 := by rw [own_byte_eq w (5 : Int32) 40 (by decide), ← hb5]
  have D5 : own_D b5 (b5 ^^^ 48) := own_dig l5
  have m5 : b5 ^^^ 48 < 256 := D5.1
  generalize hc5 : b5 ^^^ 48 = c5 at hx m5 D5
  generalize hb6 : w.toBitVec.toNat / 281474976710656 % 256 = b6 at hx
  have l6 : b6 < 256 := by rw [← hb6]; exact Nat.mod_lt _ (by decide)
  have f6 : (own_byte w (6 : Int32)).toInt = b6 := by rw [own_byte_eq w (6 : Int32) 48 (by decide), ← hb6]
  have D6 : own_D b6 (b6 ^^^ 48) := own_dig l6
  have m6 : b6 ^^^ 48 < 256 := D6.1
  generalize hc6 : b6 ^^^ 48 = c6 at hx m6 D6
  generalize hb7 : w.toBitVec.toNat / 72057594037927936 % 256 = b7 at hx
  have l7 : b7 < 256 := by rw [← hb7]; exact Nat.mod_lt _ (by decide)
  have f7 : (own_byte w (7 : Int32)).toInt = b7 := by rw [own_byte_eq w (7 : Int32) 56 (by decide), ← hb7]
  have D7 : own_D b7 (b7 ^^^ 48) := own_dig l7
  have m7 : b7 ^^^ 48 < 256 := D7.1
  generalize hc7 : b7 ^^^ 48 = c7 at hx m7 D7
  clear hb0 hc0 hb1 hc1 hb2 hc2 hb3 hc3 hb4 hc4 hb5 hc5 hb6 hc6 hb7 hc7
  have hv : (own_vs w (4 : Int32)).toBitVec.toNat = 0 + 256 * (0 + 256 * (0 + 256 * (0 + 256 * (c0 + 256 * (c1 + 256 * (c2 + 256 * (c3))))))) := by
    rw [own_vs, own_shl, show ((64 : Int32) - (4 : Int32) * (8 : Int32)).toBitVec.toNat % 64 = 32 by decide, BitVec.toNat_shiftLeft, Nat.shiftLeft_eq, Int64.toBitVec_xor]
    show (w.toBitVec ^^^ 3472328296227680304#64).toNat * 4294967296 % 18446744073709551616 = _
    rw [hx]
    exact own_sh4 c0 c1 c2 c3 c4 c5 c6 c7 m0 m1 m2 m3
  have g0 : (0 : Int32).toInt = ((0 : Nat) : Int) := rfl
  by_cases q0 : 48 ≤ b0 ∧ b0 ≤ 57
  case neg =>
    rw [own_dv_no w (4 : Int32) 0 0 0 0 c0 c1 c2 c3 (by decide) (by decide) (by decide) (by decide) m0 m1 m2 m3 hv (by rintro ⟨u0, u1, u2, u3, u4, u5, u6, u7⟩; exact q0 (D0.2.1.mp u4))]
    rw [own_step_non (0 : Int32) w (0 : Int32) (4 : Int32) (by decide) b0 f0 q0 (by rw [g0]; exact Int.natCast_nonneg _)]
    simp only [own_step_neg]
  have g1 := own_step_dig (0 : Int32) w (0 : Int32) (4 : Int32) (by decide) b0 f0 q0 0 g0 (by omega)
  by_cases q1 : 48 ≤ b1 ∧ b1 ≤ 57
  case neg =>
    rw [own_dv_no w (4 : Int32) 0 0 0 0 c0 c1 c2 c3 (by decide) (by decide) (by decide) (by decide) m0 m1 m2 m3 hv (by rintro ⟨u0, u1, u2, u3, u4, u5, u6, u7⟩; exact q1 (D1.2.1.mp u5))]
    rw [own_step_non (own_step (0 : Int32) w (0 : Int32) (4 : Int32)) w (1 : Int32) (4 : Int32) (by decide) b1 f1 q1 (by rw [g1]; exact Int.natCast_nonneg _)]
    simp only [own_step_neg]
  have g2 := own_step_dig (own_step (0 : Int32) w (0 : Int32) (4 : Int32)) w (1 : Int32) (4 : Int32) (by decide) b1 f1 q1 (10 * 0 + (b0 - 48)) g1 (by omega)
  by_cases q2 : 48 ≤ b2 ∧ b2 ≤ 57
  case neg =>
    rw [own_dv_no w (4 : Int32) 0 0 0 0 c0 c1 c2 c3 (by decide) (by decide) (by decide) (by decide) m0 m1 m2 m3 hv (by rintro ⟨u0, u1, u2, u3, u4, u5, u6, u7⟩; exact q2 (D2.2.1.mp u6))]
    rw [own_step_non (own_step (own_step (0 : Int32) w (0 : Int32) (4 : Int32)) w (1 : Int32) (4 : Int32)) w (2 : Int32) (4 : Int32) (by decide) b2 f2 q2 (by rw [g2]; exact Int.natCast_nonneg _)]
    simp only [own_step_neg]
  have g3 := own_step_dig (own_step (own_step (0 : Int32) w (0 : Int32) (4 : Int32)) w (1 : Int32) (4 : Int32)) w (2 : Int32) (4 : Int32) (by decide) b2 f2 q2 (10 * (10 * 0 + (b0 - 48)) + (b1 - 48)) g2 (by omega)
  by_cases q3 : 48 ≤ b3 ∧ b3 ≤ 57
  case neg =>
    rw [own_dv_no w (4 : Int32) 0 0 0 0 c0 c1 c2 c3 (by decide) (by decide) (by decide) (by decide) m0 m1 m2 m3 hv (by rintro ⟨u0, u1, u2, u3, u4, u5, u6, u7⟩; exact q3 (D3.2.1.mp u7))]
    rw [own_step_non (own_step (own_step (own_step (0 : Int32) w (0 : Int32) (4 : Int32)) w (1 : Int32) (4 : Int32)) w (2 : Int32) (4 : Int32)) w (3 : Int32) (4 : Int32) (by decide) b3 f3 q3 (by rw [g3]; exact Int.natCast_nonneg _)]
    simp only [own_step_neg]
  have g4 := own_step_dig (own_step (own_step (own_step (0 : Int32) w (0 : Int32) (4 : Int32)) w (1 : Int32) (4 : Int32)) w (2 : Int32) (4 : Int32)) w (3 : Int32) (4 : Int32) (by decide) b3 f3 q3 (10 * (10 * (10 * 0 + (b0 - 48)) + (b1 - 48)) + (b2 - 48)) g3 (by omega)
  apply Int32.toInt_inj.mp
  rw [own_dv_yes w (4 : Int32) 0 0 0 0 c0 c1 c2 c3 (by decide) (by decide) (by decide) (by decide) (D0.2.1.mpr q0) (D1.2.1.mpr q1) (D2.2.1.mpr q2) (D3.2.1.mpr q3) hv]
  rw [own_step_skip _ w (7 : Int32) (4 : Int32) (by decide), own_step_skip _ w (6 : Int32) (4 : Int32) (by decide), own_step_skip _ w (5 : Int32) (4 : Int32) (by decide), own_step_skip _ w (4 : Int32) (4 : Int32) (by decide)]
  rw [g4]
  have z0 := D0.2.2 q0.1 q0.2
  have z1 := D1.2.2 q1.1 q1.2
  have z2 := D2.2.2 q2.1 q2.2
  have z3 := D3.2.2 q3.1 q3.2
  clear hv hx g0 f0 D0 f1 D1 f2 D2 f3 D3 f4 D4 f5 D5 f6 D6 f7 D7 g1 g2 g3 g4
  omega
theorem own_sh5 (c0 c1 c2 c3 c4 c5 c6 c7 : Nat) (m0 : c0 < 256) (m1 : c1 < 256) (m2 : c2 < 256) (m3 : c3 < 256) (m4 : c4 < 256) : (c0 + 256 * (c1 + 256 * (c2 + 256 * (c3 + 256 * (c4 + 256 * (c5 + 256 * (c6 + 256 * (c7)))))))) * 16777216 % 18446744073709551616 = 0 + 256 * (0 + 256 * (0 + 256 * (c0 + 256 * (c1 + 256 * (c2 + 256 * (c3 + 256 * (c4))))))) := by
  have h1 : (c0 + 256 * (c1 + 256 * (c2 + 256 * (c3 + 256 * (c4 + 256 * (c5 + 256 * (c6 + 256 * (c7)))))))) * 16777216 = (0 + 256 * (0 + 256 * (0 + 256 * (c0 + 256 * (c1 + 256 * (c2 + 256 * (c3 + 256 * (c4)))))))) + 18446744073709551616 * (c5 + 256 * (c6 + 256 * (c7))) := by omega
  rw [h1, Nat.add_mul_mod_self_left]
  exact Nat.mod_eq_of_lt (by omega)
theorem own_law5 (w : Int64) : own_dv w (5 : Int32) = (own_step (own_step (own_step (own_step (own_step (own_step (own_step (own_step (0 : Int32) w (0 : Int32) (5 : Int32)) w (1 : Int32) (5 : Int32)) w (2 : Int32) (5 : Int32)) w (3 : Int32) (5 : Int32)) w (4 : Int32) (5 : Int32)) w (5 : Int32) (5 : Int32)) w (6 : Int32) (5 : Int32)) w (7 : Int32) (5 : Int32)) := by
  have hx := own_xor30 w.toBitVec
  generalize hb0 : w.toBitVec.toNat % 256 = b0 at hx
  have l0 : b0 < 256 := by rw [← hb0]; exact Nat.mod_lt _ (by decide)
  have f0 : (own_byte w (0 : Int32)).toInt = b0 := by rw [own_byte_eq w (0 : Int32) 0 (by decide), ← hb0]; simp
  have D0 : own_D b0 (b0 ^^^ 48) := own_dig l0
  have m0 : b0 ^^^ 48 < 256 := D0.1
  generalize hc0 : b0 ^^^ 48 = c0 at hx m0 D0
  generalize hb1 : w.toBitVec.toNat / 256 % 256 = b1 at hx
  have l1 : b1 < 256 := by rw [← hb1]; exact Nat.mod_lt _ (by decide)
  have f1 : (own_byte w (1 : Int32)).toInt = b1 := by rw [own_byte_eq w (1 : Int32) 8 (by decide), ← hb1]
  have D1 : own_D b1 (b1 ^^^ 48) := own_dig l1
  have m1 : b1 ^^^ 48 < 256 := D1.1
  generalize hc1 : b1 ^^^ 48 = c1 at hx m1 D1
  generalize hb2 : w.toBitVec.toNat / 65536 % 256 = b2 at hx
  have l2 : b2 < 256 := by rw [← hb2]; exact Nat.mod_lt _ (by decide)
  have f2 : (own_byte w (2 : Int32)).toInt = b2 := by rw [own_byte_eq w (2 : Int32) 16 (by decide), ← hb2]
  have D2 : own_D b2 (b2 ^^^ 48) := own_dig l2
  have m2 : b2 ^^^ 48 < 256 := D2.1
  generalize hc2 : b2 ^^^ 48 = c2 at hx m2 D2
  generalize hb3 : w.toBitVec.toNat / 16777216 % 256 = b3 at hx
  have l3 : b3 < 256 := by rw [← hb3]; exact Nat.mod_lt _ (by decide)
  have f3 : (own_byte w (3 : Int32)).toInt = b3 := by rw [own_byte_eq w (3 : Int32) 24 (by decide), ← hb3]
  have D3 : own_D b3 (b3 ^^^ 48) := own_dig l3
  have m3 : b3 ^^^ 48 < 256 := D3.1
  generalize hc3 : b3 ^^^ 48 = c3 at hx m3 D3
  generalize hb4 : w.toBitVec.toNat / 4294967296 % 256 = b4 at hx
  have l4 : b4 < 256 := by rw [← hb4]; exact Nat.mod_lt _ (by decide)
  have f4 : (own_byte w (4 : Int32)).toInt = b4 := by rw [own_byte_eq w (4 : Int32) 32 (by decide), ← hb4]
  have D4 : own_D b4 (b4 ^^^ 48) := own_dig l4
  have m4 : b4 ^^^ 48 < 256 := D4.1
  generalize hc4 : b4 ^^^ 48 = c4 at hx m4 D4
  generalize hb5 : w.toBitVec.toNat / 1099511627776 % 256 = b5 at hx
  have l5 : b5 < 256 := by rw [← hb5]; exact Nat.mod_lt _ (by decide)
  have f5 : (own_byte w (5 : Int32)).toInt = b5 := by rw [own_byte_eq w (5 : Int32) 40 (by decide), ← hb5]
  have D5 : own_D b5 (b5 ^^^ 48) := own_dig l5
  have m5 : b5 ^^^ 48 < 256 := D5.1
  generalize hc5 : b5 ^^^ 48 = c5 at hx m5 D5
  generalize hb6 : w.toBitVec.toNat / 281474976710656 % 256 = b6 at hx
  have l6 : b6 < 256 := by rw [← hb6]; exact Nat.mod_lt _ (by decide)
  have f6 : (own_byte w (6 : Int32)).toInt = b6 := by rw [own_byte_eq w (6 : Int32) 48 (by decide), ← hb6]
  have D6 : own_D b6 (b6 ^^^ 48) := own_dig l6
  have m6 : b6 ^^^ 48 < 256 := D6.1
  generalize hc6 : b6 ^^^ 48 = c6 at hx m6 D6
  generalize hb7 : w.toBitVec.toNat / 72057594037927936 % 256 = b7 at hx
  have l7 : b7 < 256 := by rw [← hb7]; exact Nat.mod_lt _ (by decide)
  have f7 : (own_byte w (7 : Int32)).toInt = b7 := by rw [own_byte_eq w (7 : Int32) 56 (by decide), ← hb7]
  have D7 : own_D b7 (b7 ^^^ 48) := own_dig l7
  have m7 : b7 ^^^ 48 < 256 := D7.1
  generalize hc7 : b7 ^^^ 48 = c7 at hx m7 D7
  clear hb0 hc0 hb1 hc1 hb2 hc2 hb3 hc3 hb4 hc4 hb5 hc5 hb6 hc6 hb7 hc7
  have hv : (own_vs w (5 : Int32)).toBitVec.toNat = 0 + 256 * (0 + 256 * (0 + 256 * (c0 + 256 * (c1 + 256 * (c2 + 256 * (c3 + 256 * (c4))))))) := by
    rw [own_vs, own_shl, show ((64 : Int32) - (5 : Int32) * (8 : Int32)).toBitVec.toNat % 64 = 24 by decide, BitVec.toNat_shiftLeft, Nat.shiftLeft_eq, Int64.toBitVec_xor]
    show (w.toBitVec ^^^ 3472328296227680304#64).toNat * 16777216 % 18446744073709551616 = _
    rw [hx]
    exact own_sh5 c0 c1 c2 c3 c4 c5 c6 c7 m0 m1 m2 m3 m4
  have g0 : (0 : Int32).toInt = ((0 : Nat) : Int) := rfl
  by_cases q0 : 48 ≤ b0 ∧ b0 ≤ 57
  case neg =>
    rw [own_dv_no w (5 : Int32) 0 0 0 c0 c1 c2 c3 c4 (by decide) (by decide) (by decide) m0 m1 m2 m3 m4 hv (by rintro ⟨u0, u1, u2, u3, u4, u5, u6, u7⟩; exact q0 (D0.2.1.mp u3))]
    rw [own_step_non (0 : Int32) w (0 : Int32) (5 : Int32) (by decide) b0 f0 q0 (by rw [g0]; exact Int.natCast_nonneg _)]
    simp only [own_step_neg]
  have g1 := own_step_dig (0 : Int32) w (0 : Int32) (5 : Int32) (by decide) b0 f0 q0 0 g0 (by omega)
  by_cases q1 : 48 ≤ b1 ∧ b1 ≤ 57
  case neg =>
    rw [own_dv_no w (5 : Int32) 0 0 0 c0 c1 c2 c3 c4 (by decide) (by decide) (by decide) m0 m1 m2 m3 m4 hv (by rintro ⟨u0, u1, u2, u3, u4, u5, u6, u7⟩; exact q1 (D1.2.1.mp u4))]
    rw [own_step_non (own_step (0 : Int32) w (0 : Int32) (5 : Int32)) w (1 : Int32) (5 : Int32) (by decide) b1 f1 q1 (by rw [g1]; exact Int.natCast_nonneg _)]
    simp only [own_step_neg]
  have g2 := own_step_dig (own_step (0 : Int32) w (0 : Int32) (5 : Int32)) w (1 : Int32) (5 : Int32) (by decide) b1 f1 q1 (10 * 0 + (b0 - 48)) g1 (by omega)
  by_cases q2 : 48 ≤ b2 ∧ b2 ≤ 57
  case neg =>
    rw [own_dv_no w (5 : Int32) 0 0 0 c0 c1 c2 c3 c4 (by decide) (by decide) (by decide) m0 m1 m2 m3 m4 hv (by rintro ⟨u0, u1, u2, u3, u4, u5, u6, u7⟩; exact q2 (D2.2.1.mp u5))]
    rw [own_step_non (own_step (own_step (0 : Int32) w (0 : Int32) (5 : Int32)) w (1 : Int32) (5 : Int32)) w (2 : Int32) (5 : Int32) (by decide) b2 f2 q2 (by rw [g2]; exact Int.natCast_nonneg _)]
    simp only [own_step_neg]
  have g3 := own_step_dig (own_step (own_step (0 : Int32) w (0 : Int32) (5 : Int32)) w (1 : Int32) (5 : Int32)) w (2 : Int32) (5 : Int32) (by decide) b2 f2 q2 (10 * (10 * 0 + (b0 - 48)) + (b1 - 48)) g2 (by omega)
  by_cases q3 : 48 ≤ b3 ∧ b3 ≤ 57
  case neg =>
    rw [own_dv_no w (5 : Int32) 0 0 0 c0 c1 c2 c3 c4 (by decide) (by decide) (by decide) m0 m1 m2 m3 m4 hv (by rintro ⟨u0, u1, u2, u3, u4, u5, u6, u7⟩; exact q3 (D3.2.1.mp u6))]
    rw [own_step_non (own_step (own_step (own_step (0 : Int32) w (0 : Int32) (5 : Int32)) w (1 : Int32) (5 : Int32)) w (2 : Int32) (5 : Int32)) w (3 : Int32) (5 : Int32) (by decide) b3 f3 q3 (by rw [g3]; exact Int.natCast_nonneg _)]
    simp only [own_step_neg]
  have g4 := own_step_dig (own_step (own_step (own_step (0 : Int32) w (0 : Int32) (5 : Int32)) w (1 : Int32) (5 : Int32)) w (2 : Int32) (5 : Int32)) w (3 : Int32) (5 : Int32) (by decide) b3 f3 q3 (10 * (10 * (10 * 0 + (b0 - 48)) + (b1 - 48)) + (b2 - 48)) g3 (by omega)
  by_cases q4 : 48 ≤ b4 ∧ b4 ≤ 57
  case neg =>
    rw [own_dv_no w (5 : Int32) 0 0 0 c0 c1 c2 c3 c4 (by decide) (by decide) (by decide) m0 m1 m2 m3 m4 hv (by rintro ⟨u0, u1, u2, u3, u4, u5, u6, u7⟩; exact q4 (D4.2.1.mp u7))]
    rw [own_step_non (own_step (own_step (own_step (own_step (0 : Int32) w (0 : Int32) (5 : Int32)) w (1 : Int32) (5 : Int32)) w (2 : Int32) (5 : Int32)) w (3 : Int32) (5 : Int32)) w (4 : Int32) (5 : Int32) (by decide) b4 f4 q4 (by rw [g4]; exact Int.natCast_nonneg _)]
    simp only [own_step_neg]
  have g5 := own_step_dig (own_step (own_step (own_step (own_step (0 : Int32) w (0 : Int32) (5 : Int32)) w (1 : Int32) (5 : Int32)) w (2 : Int32) (5 : Int32)) w (3 : Int32) (5 : Int32)) w (4 : Int32) (5 : Int32) (by decide) b4 f4 q4 (10 * (10 * (10 * (10 * 0 + (b0 - 48)) + (b1 - 48)) + (b2 - 48)) + (b3 - 48)) g4 (by omega)
  apply Int32.toInt_inj.mp
  rw [own_dv_yes w (5 : Int32) 0 0 0 c0 c1 c2 c3 c4 (by decide) (by decide) (by decide) (D0.2.1.mpr q0) (D1.2.1.mpr q1) (D2.2.1.mpr q2) (D3.2.1.mpr q3) (D4.2.1.mpr q4) hv]
  rw [own_step_skip _ w (7 : Int32) (5 : Int32) (by decide), own_step_skip _ w (6 : Int32) (5 : Int32) (by decide), own_step_skip _ w (5 : Int32) (5 : Int32) (by decide)]
  rw [g5]
  have z0 := D0.2.2 q0.1 q0.2
  have z1 := D1.2.2 q1.1 q1.2
  have z2 := D2.2.2 q2.1 q2.2
  have z3 := D3.2.2 q3.1 q3.2
  have z4 := D4.2.2 q4.1 q4.2
  clear hv hx g0 f0 D0 f1 D1 f2 D2 f3 D3 f4 D4 f5 D5 f6 D6 f7 D7 g1 g2 g3 g4 g5
  omega
theorem own_sh6 (c0 c1 c2 c3 c4 c5 c6 c7 : Nat) (m0 : c0 < 256) (m1 : c1 < 256) (m2 : c2 < 256) (m3 : c3 < 256) (m4 : c4 < 256) (m5 : c5 < 256) : (c0 + 256 * (c1 + 256 * (c2 + 256 * (c3 + 256 * (c4 + 256 * (c5 + 256 * (c6 + 256 * (c7)))))))) * 65536 % 18446744073709551616 = 0 + 256 * (0 + 256 * (c0 + 256 * (c1 + 256 * (c2 + 256 * (c3 + 256 * (c4 + 256 * (c5))))))) := by
  have h1 : (c0 + 256 * (c1 + 256 * (c2 + 256 * (c3 + 256 * (c4 + 256 * (c5 + 256 * (c6 + 256 * (c7)))))))) * 65536 = (0 + 256 * (0 + 256 * (c0 + 256 * (c1 + 256 * (c2 + 256 * (c3 + 256 * (c4 + 256 * (c5)))))))) + 18446744073709551616 * (c6 + 256 * (c7)) := by omega
  rw [h1, Nat.add_mul_mod_self_left]
  exact Nat.mod_eq_of_lt (by omega)
theorem own_law6 (w : Int64) : own_dv w (6 : Int32) = (own_step (own_step (own_step (own_step (own_step (own_step (own_step (own_step (0 : Int32) w (0 : Int32) (6 : Int32)) w (1 : Int32) (6 : Int32)) w (2 : Int32) (6 : Int32)) w (3 : Int32) (6 : Int32)) w (4 : Int32) (6 : Int32)) w (5 : Int32) (6 : Int32)) w (6 : Int32) (6 : Int32)) w (7 : Int32) (6 : Int32)) := by
  have hx := own_xor30 w.toBitVec
  generalize hb0 : w.toBitVec.toNat % 256 = b0 at hx
  have l0 : b0 < 256 := by rw [← hb0]; exact Nat.mod_lt _ (by decide)
  have f0 : (own_byte w (0 : Int32)).toInt = b0 := by rw [own_byte_eq w (0 : Int32) 0 (by decide), ← hb0]; simp
  have D0 : own_D b0 (b0 ^^^ 48) := own_dig l0
  have m0 : b0 ^^^ 48 < 256 := D0.1
  generalize hc0 : b0 ^^^ 48 = c0 at hx m0 D0
  generalize hb1 : w.toBitVec.toNat / 256 % 256 = b1 at hx
  have l1 : b1 < 256 := by rw [← hb1]; exact Nat.mod_lt _ (by decide)
  have f1 : (own_byte w (1 : Int32)).toInt = b1 := by rw [own_byte_eq w (1 : Int32) 8 (by decide), ← hb1]
  have D1 : own_D b1 (b1 ^^^ 48) := own_dig l1
  have m1 : b1 ^^^ 48 < 256 := D1.1
  generalize hc1 : b1 ^^^ 48 = c1 at hx m1 D1
  generalize hb2 : w.toBitVec.toNat / 65536 % 256 = b2 at hx
  have l2 : b2 < 256 := by rw [← hb2]; exact Nat.mod_lt _ (by decide)
  have f2 : (own_byte w (2 : Int32)).toInt = b2 := by rw [own_byte_eq w (2 : Int32) 16 (by decide), ← hb2]
  have D2 : own_D b2 (b2 ^^^ 48) := own_dig l2
  have m2 : b2 ^^^ 48 < 256 := D2.1
  generalize hc2 : b2 ^^^ 48 = c2 at hx m2 D2
  generalize hb3 : w.toBitVec.toNat / 16777216 % 256 = b3 at hx
  have l3 : b3 < 256 := by rw [← hb3]; exact Nat.mod_lt _ (by decide)
  have f3 : (own_byte w (3 : Int32)).toInt = b3 := by rw [own_byte_eq w (3 : Int32) 24 (by decide), ← hb3]
  have D3 : own_D b3 (b3 ^^^ 48) := own_dig l3
  have m3 : b3 ^^^ 48 < 256 := D3.1
  generalize hc3 : b3 ^^^ 48 = c3 at hx m3 D3
  generalize hb4 : w.toBitVec.toNat / 4294967296 % 256 = b4 at hx
  have l4 : b4 < 256 := by rw [← hb4]; exact Nat.mod_lt _ (by decide)
  have f4 : (own_byte w (4 : Int32)).toInt = b4 := by rw [own_byte_eq w (4 : Int32) 32 (by decide), ← hb4]
  have D4 : own_D b4 (b4 ^^^ 48) := own_dig l4
  have m4 : b4 ^^^ 48 < 256 := D4.1
  generalize hc4 : b4 ^^^ 48 = c4 at hx m4 D4
  generalize hb5 : w.toBitVec.toNat / 1099511627776 % 256 = b5 at hx
  have l5 : b5 < 256 := by rw [← hb5]; exact Nat.mod_lt _ (by decide)
  have f5 : (own_byte w (5 : Int32)).toInt = b5 := by rw [own_byte_eq w (5 : Int32) 40 (by decide), ← hb5]
  have D5 : own_D b5 (b5 ^^^ 48) := own_dig l5
  have m5 : b5 ^^^ 48 < 256 := D5.1
  generalize hc5 : b5 ^^^ 48 = c5 at hx m5 D5
  generalize hb6 : w.toBitVec.toNat / 281474976710656 % 256 = b6 at hx
  have l6 : b6 < 256 := by rw [← hb6]; exact Nat.mod_lt _ (by decide)
  have f6 : (own_byte w (6 : Int32)).toInt = b6 := by rw [own_byte_eq w (6 : Int32) 48 (by decide), ← hb6]
  have D6 : own_D b6 (b6 ^^^ 48) := own_dig l6
  have m6 : b6 ^^^ 48 < 256 := D6.1
  generalize hc6 : b6 ^^^ 48 = c6 at hx m6 D6
  generalize hb7 : w.toBitVec.toNat / 72057594037927936 % 256 = b7 at hx
  have l7 : b7 < 256 := by rw [← hb7]; exact Nat.mod_lt _ (by decide)
  have f7 : (own_byte w (7 : Int32)).toInt = b7 := by rw [own_byte_eq w (7 : Int32) 56 (by decide), ← hb7]
  have D7 : own_D b7 (b7 ^^^ 48) := own_dig l7
  have m7 : b7 ^^^ 48 < 256 := D7.1
  generalize hc7 : b7 ^^^ 48 = c7 at hx m7 D7
  clear hb0 hc0 hb1 hc1 hb2 hc2 hb3 hc3 hb4 hc4 hb5 hc5 hb6 hc6 hb7 hc7
  have hv : (own_vs w (6 : Int32)).toBitVec.toNat = 0 + 256 * (0 + 256 * (c0 + 256 * (c1 + 256 * (c2 + 256 * (c3 + 256 * (c4 + 256 * (c5))))))) := by
    rw [own_vs, own_shl, show ((64 : Int32) - (6 : Int32) * (8 : Int32)).toBitVec.toNat % 64 = 16 by decide, BitVec.toNat_shiftLeft, Nat.shiftLeft_eq, Int64.toBitVec_xor]
    show (w.toBitVec ^^^ 3472328296227680304#64).toNat * 65536 % 18446744073709551616 = _
    rw [hx]
    exact own_sh6 c0 c1 c2 c3 c4 c5 c6 c7 m0 m1 m2 m3 m4 m5
  have g0 : (0 : Int32).toInt = ((0 : Nat) : Int) := rfl
  by_cases q0 : 48 ≤ b0 ∧ b0 ≤ 57
  case neg =>
    rw [own_dv_no w (6 : Int32) 0 0 c0 c1 c2 c3 c4 c5 (by decide) (by decide) m0 m1 m2 m3 m4 m5 hv (by rintro ⟨u0, u1, u2, u3, u4, u5, u6, u7⟩; exact q0 (D0.2.1.mp u2))]
    rw [own_step_non (0 : Int32) w (0 : Int32) (6 : Int32) (by decide) b0 f0 q0 (by rw [g0]; exact Int.natCast_nonneg _)]
    simp only [own_step_neg]
  have g1 := own_step_dig (0 : Int32) w (0 : Int32) (6 : Int32) (by decide) b0 f0 q0 0 g0 (by omega)
  by_cases q1 : 48 ≤ b1 ∧ b1 ≤ 57
  case neg =>
    rw [own_dv_no w (6 : Int32) 0 0 c0 c1 c2 c3 c4 c5 (by decide) (by decide) m0 m1 m2 m3 m4 m5 hv (by rintro ⟨u0, u1, u2, u3, u4, u5, u6, u7⟩; exact q1 (D1.2.1.mp u3))]
    rw [own_step_non (own_step (0 : Int32) w (0 : Int32) (6 : Int32)) w (1 : Int32) (6 : Int32) (by decide) b1 f1 q1 (by rw [g1]; exact Int.natCast_nonneg _)]
    simp only [own_step_neg]
  have g2 := own_step_dig (own_step (0 : Int32) w (0 : Int32) (6 : Int32)) w (1 : Int32) (6 : Int32) (by decide) b1 f1 q1 (10 * 0 + (b0 - 48)) g1 (by omega)
  by_cases q2 : 48 ≤ b2 ∧ b2 ≤ 57
  case neg =>
    rw [own_dv_no w (6 : Int32) 0 0 c0 c1 c2 c3 c4 c5 (by decide) (by decide) m0 m1 m2 m3 m4 m5 hv (by rintro ⟨u0, u1, u2, u3, u4, u5, u6, u7⟩; exact q2 (D2.2.1.mp u4))]
    rw [own_step_non (own_step (own_step (0 : Int32) w (0 : Int32) (6 : Int32)) w (1 : Int32) (6 : Int32)) w (2 : Int32) (6 : Int32) (by decide) b2 f2 q2 (by rw [g2]; exact Int.natCast_nonneg _)]
    simp only [own_step_neg]
  have g3 := own_step_dig (own_step (own_step (0 : Int32) w (0 : Int32) (6 : Int32)) w (1 : Int32) (6 : Int32)) w (2 : Int32) (6 : Int32) (by decide) b2 f2 q2 (10 * (10 * 0 + (b0 - 48)) + (b1 - 48)) g2 (by omega)
  by_cases q3 : 48 ≤ b3 ∧ b3 ≤ 57
  case neg =>
    rw [own_dv_no w (6 : Int32) 0 0 c0 c1 c2 c3 c4 c5 (by decide) (by decide) m0 m1 m2 m3 m4 m5 hv (by rintro ⟨u0, u1, u2, u3, u4, u5, u6, u7⟩; exact q3 (D3.2.1.mp u5))]
    rw [own_step_non (own_step (own_step (own_step (0 : Int32) w (0 : Int32) (6 : Int32)) w (1 : Int32) (6 : Int32)) w (2 : Int32) (6 : Int32)) w (3 : Int32) (6 : Int32) (by decide) b3 f3 q3 (by rw [g3]; exact Int.natCast_nonneg _)]
    simp only [own_step_neg]
  have g4 := own_step_dig (own_step (own_step (own_step (0 : Int32) w (0 : Int32) (6 : Int32)) w (1 : Int32) (6 : Int32)) w (2 : Int32) (6 : Int32)) w (3 : Int32) (6 : Int32) (by decide) b3 f3 q3 (10 * (10 * (10 * 0 + (b0 - 48)) + (b1 - 48)) + (b2 - 48)) g3 (by omega)
  by_cases q4 : 48 ≤ b4 ∧ b4 ≤ 57
  case neg =>
    rw [own_dv_no w (6 : Int32) 0 0 c0 c1 c2 c3 c4 c5 (by decide) (by decide) m0 m1 m2 m3 m4 m5 hv (by rintro ⟨u0, u1, u2, u3, u4, u5, u6, u7⟩; exact q4 (D4.2.1.mp u6))]
    rw [own_step_non (own_step (own_step (own_step (own_step (0 : Int32) w (0 : Int32) (6 : Int32)) w (1 : Int32) (6 : Int32)) w (2 : Int32) (6 : Int32)) w (3 : Int32) (6 : Int32)) w (4 : Int32) (6 : Int32) (by decide) b4 f4 q4 (by rw [g4]; exact Int.natCast_nonneg _)]
    simp only [own_step_neg]
  have g5 := own_step_dig (own_step (own_step (own_step (own_step (0 : Int32) w (0 : Int32) (6 : Int32)) w (1 : Int32) (6 : Int32)) w (2 : Int32) (6 : Int32)) w (3 : Int32) (6 : Int32)) w (4 : Int32) (6 : Int32) (by decide) b4 f4 q4 (10 * (10 * (10 * (10 * 0 + (b0 - 48)) + (b1 - 48)) + (b2 - 48)) + (b3 - 48)) g4 (by omega)
  by_cases q5 : 48 ≤ b5 ∧ b5 ≤ 57
  case neg =>
    rw [own_dv_no w (6 : Int32) 0 0 c0 c1 c2 c3 c4 c5 (by decide) (by decide) m0 m1 m2 m3 m4 m5 hv (by rintro ⟨u0, u1, u2, u3, u4, u5, u6, u7⟩; exact q5 (D5.2.1.mp u7))]
    rw [own_step_non (own_step (own_step (own_step (own_step (own_step (0 : Int32) w (0 : Int32) (6 : Int32)) w (1 : Int32) (6 : Int32)) w (2 : Int32) (6 : Int32)) w (3 : Int32) (6 : Int32)) w (4 : Int32) (6 : Int32)) w (5 : Int32) (6 : Int32) (by decide) b5 f5 q5 (by rw [g5]; exact Int.natCast_nonneg _)]
    simp only [own_step_neg]
  have g6 := own_step_dig (own_step (own_step (own_step (own_step (own_step (0 : Int32) w (0 : Int32) (6 : Int32)) w (1 : Int32) (6 : Int32)) w (2 : Int32) (6 : Int32)) w (3 : Int32) (6 : Int32)) w (4 : Int32) (6 : Int32)) w (5 : Int32) (6 : Int32) (by decide) b5 f5 q5 (10 * (10 * (10 * (10 * (10 * 0 + (b0 - 48)) + (b1 - 48)) + (b2 - 48)) + (b3 - 48)) + (b4 - 48)) g5 (by omega)
  apply Int32.toInt_inj.mp
  rw [own_dv_yes w (6 : Int32) 0 0 c0 c1 c2 c3 c4 c5 (by decide) (by decide) (D0.2.1.mpr q0) (D1.2.1.mpr q1) (D2.2.1.mpr q2) (D3.2.1.mpr q3) (D4.2.1.mpr q4) (D5.2.1.mpr q5) hv]
  rw [own_step_skip _ w (7 : Int32) (6 : Int32) (by decide), own_step_skip _ w (6 : Int32) (6 : Int32) (by decide)]
  rw [g6]
  have z0 := D0.2.2 q0.1 q0.2
  have z1 := D1.2.2 q1.1 q1.2
  have z2 := D2.2.2 q2.1 q2.2
  have z3 := D3.2.2 q3.1 q3.2
  have z4 := D4.2.2 q4.1 q4.2
  have z5 := D5.2.2 q5.1 q5.2
  clear hv hx g0 f0 D0 f1 D1 f2 D2 f3 D3 f4 D4 f5 D5 f6 D6 f7 D7 g1 g2 g3 g4 g5 g6
  omega
theorem own_sh7 (c0 c1 c2 c3 c4 c5 c6 c7 : Nat) (m0 : c0 < 256) (m1 : c1 < 256) (m2 : c2 < 256) (m3 : c3 < 256) (m4 : c4 < 256) (m5 : c5 < 256) (m6 : c6 < 256) : (c0 + 256 * (c1 + 256 * (c2 + 256 * (c3 + 256 * (c4 + 256 * (c5 + 256 * (c6 + 256 * (c7)))))))) * 256 % 18446744073709551616 = 0 + 256 * (c0 + 256 * (c1 + 256 * (c2 + 256 * (c3 + 256 * (c4 + 256 * (c5 + 256 * (c6))))))) := by
  have h1 : (c0 + 256 * (c1 + 256 * (c2 + 256 * (c3 + 256 * (c4 + 256 * (c5 + 256 * (c6 + 256 * (c7)))))))) * 256 = (0 + 256 * (c0 + 256 * (c1 + 256 * (c2 + 256 * (c3 + 256 * (c4 + 256 * (c5 + 256 * (c6)))))))) + 18446744073709551616 * (c7) := by omega
  rw [h1, Nat.add_mul_mod_self_left]
  exact Nat.mod_eq_of_lt (by omega)
theorem own_law7 (w : Int64) : own_dv w (7 : Int32) = (own_step (own_step (own_step (own_step (own_step (own_step (own_step (own_step (0 : Int32) w (0 : Int32) (7 : Int32)) w (1 : Int32) (7 : Int32)) w (2 : Int32) (7 : Int32)) w (3 : Int32) (7 : Int32)) w (4 : Int32) (7 : Int32)) w (5 : Int32) (7 : Int32)) w (6 : Int32) (7 : Int32)) w (7 : Int32) (7 : Int32)) := by
  have hx := own_xor30 w.toBitVec
  generalize hb0 : w.toBitVec.toNat % 256 = b0 at hx
  have l0 : b0 < 256 := by rw [← hb0]; exact Nat.mod_lt _ (by decide)
  have f0 : (own_byte w (0 : Int32)).toInt = b0 := by rw [own_byte_eq w (0 : Int32) 0 (by decide), ← hb0]; simp
  have D0 : own_D b0 (b0 ^^^ 48) := own_dig l0
  have m0 : b0 ^^^ 48 < 256 := D0.1
  generalize hc0 : b0 ^^^ 48 = c0 at hx m0 D0
  generalize hb1 : w.toBitVec.toNat / 256 % 256 = b1 at hx
  have l1 : b1 < 256 := by rw [← hb1]; exact Nat.mod_lt _ (by decide)
  have f1 : (own_byte w (1 : Int32)).toInt = b1 := by rw [own_byte_eq w (1 : Int32) 8 (by decide), ← hb1]
  have D1 : own_D b1 (b1 ^^^ 48) := own_dig l1
  have m1 : b1 ^^^ 48 < 256 := D1.1
  generalize hc1 : b1 ^^^ 48 = c1 at hx m1 D1
  generalize hb2 : w.toBitVec.toNat / 65536 % 256 = b2 at hx
  have l2 : b2 < 256 := by rw [← hb2]; exact Nat.mod_lt _ (by decide)
  have f2 : (own_byte w (2 : Int32)).toInt = b2 := by rw [own_byte_eq w (2 : Int32) 16 (by decide), ← hb2]
  have D2 : own_D b2 (b2 ^^^ 48) := own_dig l2
  have m2 : b2 ^^^ 48 < 256 := D2.1
  generalize hc2 : b2 ^^^ 48 = c2 at hx m2 D2
  generalize hb3 : w.toBitVec.toNat / 16777216 % 256 = b3 at hx
  have l3 : b3 < 256 := by rw [← hb3]; exact Nat.mod_lt _ (by decide)
  have f3 : (own_byte w (3 : Int32)).toInt = b3 := by rw [own_byte_eq w (3 : Int32) 24 (by decide), ← hb3]
  have D3 : own_D b3 (b3 ^^^ 48) := own_dig l3
  have m3 : b3 ^^^ 48 < 256 := D3.1
  generalize hc3 : b3 ^^^ 48 = c3 at hx m3 D3
  generalize hb4 : w.toBitVec.toNat / 4294967296 % 256 = b4 at hx
  have l4 : b4 < 256 := by rw [← hb4]; exact Nat.mod_lt _ (by decide)
  have f4 : (own_byte w (4 : Int32)).toInt = b4 := by rw [own_byte_eq w (4 : Int32) 32 (by decide), ← hb4]
  have D4 : own_D b4 (b4 ^^^ 48) := own_dig l4
  have m4 : b4 ^^^ 48 < 256 := D4.1
  generalize hc4 : b4 ^^^ 48 = c4 at hx m4 D4
  generalize hb5 : w.toBitVec.toNat / 1099511627776 % 256 = b5 at hx
  have l5 : b5 < 256 := by rw [← hb5]; exact Nat.mod_lt _ (by decide)
  have f5 : (own_byte w (5 : Int32)).toInt = b5 := by rw [own_byte_eq w (5 : Int32) 40 (by decide), ← hb5]
  have D5 : own_D b5 (b5 ^^^ 48) := own_dig l5
  have m5 : b5 ^^^ 48 < 256 := D5.1
  generalize hc5 : b5 ^^^ 48 = c5 at hx m5 D5
  generalize hb6 : w.toBitVec.toNat / 281474976710656 % 256 = b6 at hx
  have l6 : b6 < 256 := by rw [← hb6]; exact Nat.mod_lt _ (by decide)
  have f6 : (own_byte w (6 : Int32)).toInt = b6 := by rw [own_byte_eq w (6 : Int32) 48 (by decide), ← hb6]
  have D6 : own_D b6 (b6 ^^^ 48) := own_dig l6
  have m6 : b6 ^^^ 48 < 256 := D6.1
  generalize hc6 : b6 ^^^ 48 = c6 at hx m6 D6
  generalize hb7 : w.toBitVec.toNat / 72057594037927936 % 256 = b7 at hx
  have l7 : b7 < 256 := by rw [← hb7]; exact Nat.mod_lt _ (by decide)
  have f7 : (own_byte w (7 : Int32)).toInt = b7 := by rw [own_byte_eq w (7 : Int32) 56 (by decide), ← hb7]
  have D7 : own_D b7 (b7 ^^^ 48) := own_dig l7
  have m7 : b7 ^^^ 48 < 256 := D7.1
  generalize hc7 : b7 ^^^ 48 = c7 at hx m7 D7
  clear hb0 hc0 hb1 hc1 hb2 hc2 hb3 hc3 hb4 hc4 hb5 hc5 hb6 hc6 hb7 hc7
  have hv : (own_vs w (7 : Int32)).toBitVec.toNat = 0 + 256 * (c0 + 256 * (c1 + 256 * (c2 + 256 * (c3 + 256 * (c4 + 256 * (c5 + 256 * (c6))))))) := by
    rw [own_vs, own_shl, show ((64 : Int32) - (7 : Int32) * (8 : Int32)).toBitVec.toNat % 64 = 8 by decide, BitVec.toNat_shiftLeft, Nat.shiftLeft_eq, Int64.toBitVec_xor]
    show (w.toBitVec ^^^ 3472328296227680304#64).toNat * 256 % 18446744073709551616 = _
    rw [hx]
    exact own_sh7 c0 c1 c2 c3 c4 c5 c6 c7 m0 m1 m2 m3 m4 m5 m6
  have g0 : (0 : Int32).toInt = ((0 : Nat) : Int) := rfl
  by_cases q0 : 48 ≤ b0 ∧ b0 ≤ 57
  case neg =>
    rw [own_dv_no w (7 : Int32) 0 c0 c1 c2 c3 c4 c5 c6 (by decide) m0 m1 m2 m3 m4 m5 m6 hv (by rintro ⟨u0, u1, u2, u3, u4, u5, u6, u7⟩; exact q0 (D0.2.1.mp u1))]
    rw [own_step_non (0 : Int32) w (0 : Int32) (7 : Int32) (by decide) b0 f0 q0 (by rw [g0]; exact Int.natCast_nonneg _)]
    simp only [own_step_neg]
  have g1 := own_step_dig (0 : Int32) w (0 : Int32) (7 : Int32) (by decide) b0 f0 q0 0 g0 (by omega)
  by_cases q1 : 48 ≤ b1 ∧ b1 ≤ 57
  case neg =>
    rw [own_dv_no w (7 : Int32) 0 c0 c1 c2 c3 c4 c5 c6 (by decide) m0 m1 m2 m3 m4 m5 m6 hv (by rintro ⟨u0, u1, u2, u3, u4, u5, u6, u7⟩; exact q1 (D1.2.1.mp u2))]
    rw [own_step_non (own_step (0 : Int32) w (0 : Int32) (7 : Int32)) w (1 : Int32) (7 : Int32) (by decide) b1 f1 q1 (by rw [g1]; exact Int.natCast_nonneg _)]
    simp only [own_step_neg]
  have g2 := own_step_dig (own_step (0 : Int32) w (0 : Int32) (7 : Int32)) w (1 : Int32) (7 : Int32) (by decide) b1 f1 q1 (10 * 0 + (b0 - 48)) g1 (by omega)
  by_cases q2 : 48 ≤ b2 ∧ b2 ≤ 57
  case neg =>
    rw [own_dv_no w (7 : Int32) 0 c0 c1 c2 c3 c4 c5 c6 (by decide) m0 m1 m2 m3 m4 m5 m6 hv (by rintro ⟨u0, u1, u2, u3, u4, u5, u6, u7⟩; exact q2 (D2.2.1.mp u3))]
    rw [own_step_non (own_step (own_step (0 : Int32) w (0 : Int32) (7 : Int32)) w (1 : Int32) (7 : Int32)) w (2 : Int32) (7 : Int32) (by decide) b2 f2 q2 (by rw [g2]; exact Int.natCast_nonneg _)]
    simp only [own_step_neg]
  have g3 := own_step_dig (own_step (own_step (0 : Int32) w (0 : Int32) (7 : Int32)) w (1 : Int32) (7 : Int32)) w (2 : Int32) (7 : Int32) (by decide) b2 f2 q2 (10 * (10 * 0 + (b0 - 48)) + (b1 - 48)) g2 (by omega)
  by_cases q3 : 48 ≤ b3 ∧ b3 ≤ 57
  case neg =>
    rw [own_dv_no w (7 : Int32) 0 c0 c1 c2 c3 c4 c5 c6 (by decide) m0 m1 m2 m3 m4 m5 m6 hv (by rintro ⟨u0, u1, u2, u3, u4, u5, u6, u7⟩; exact q3 (D3.2.1.mp u4))]
    rw [own_step_non (own_step (own_step (own_step (0 : Int32) w (0 : Int32) (7 : Int32)) w (1 : Int32) (7 : Int32)) w (2 : Int32) (7 : Int32)) w (3 : Int32) (7 : Int32) (by decide) b3 f3 q3 (by rw [g3]; exact Int.natCast_nonneg _)]
    simp only [own_step_neg]
  have g4 := own_step_dig (own_step (own_step (own_step (0 : Int32) w (0 : Int32) (7 : Int32)) w (1 : Int32) (7 : Int32)) w (2 : Int32) (7 : Int32)) w (3 : Int32) (7 : Int32) (by decide) b3 f3 q3 (10 * (10 * (10 * 0 + (b0 - 48)) + (b1 - 48)) + (b2 - 48)) g3 (by omega)
  by_cases q4 : 48 ≤ b4 ∧ b4 ≤ 57
  case neg =>
    rw [own_dv_no w (7 : Int32) 0 c0 c1 c2 c3 c4 c5 c6 (by decide) m0 m1 m2 m3 m4 m5 m6 hv (by rintro ⟨u0, u1, u2, u3, u4, u5, u6, u7⟩; exact q4 (D4.2.1.mp u5))]
    rw [own_step_non (own_step (own_step (own_step (own_step (0 : Int32) w (0 : Int32) (7 : Int32)) w (1 : Int32) (7 : Int32)) w (2 : Int32) (7 : Int32)) w (3 : Int32) (7 : Int32)) w (4 : Int32) (7 : Int32) (by decide) b4 f4 q4 (by rw [g4]; exact Int.natCast_nonneg _)]
    simp only [own_step_neg]
  have g5 := own_step_dig (own_step (own_step (own_step (own_step (0 : Int32) w (0 : Int32) (7 : Int32)) w (1 : Int32) (7 : Int32)) w (2 : Int32) (7 : Int32)) w (3 : Int32) (7 : Int32)) w (4 : Int32) (7 : Int32) (by decide) b4 f4 q4 (10 * (10 * (10 * (10 * 0 + (b0 - 48)) + (b1 - 48)) + (b2 - 48)) + (b3 - 48)) g4 (by omega)
  by_cases q5 : 48 ≤ b5 ∧ b5 ≤ 57
  case neg =>
    rw [own_dv_no w (7 : Int32) 0 c0 c1 c2 c3 c4 c5 c6 (by decide) m0 m1 m2 m3 m4 m5 m6 hv (by rintro ⟨u0, u1, u2, u3, u4, u5, u6, u7⟩; exact q5 (D5.2.1.mp u6))]
    rw [own_step_non (own_step (own_step (own_step (own_step (own_step (0 : Int32) w (0 : Int32) (7 : Int32)) w (1 : Int32) (7 : Int32)) w (2 : Int32) (7 : Int32)) w (3 : Int32) (7 : Int32)) w (4 : Int32) (7 : Int32)) w (5 : Int32) (7 : Int32) (by decide) b5 f5 q5 (by rw [g5]; exact Int.natCast_nonneg _)]
    simp only [own_step_neg]
  have g6 := own_step_dig (own_step (own_step (own_step (own_step (own_step (0 : Int32) w (0 : Int32) (7 : Int32)) w (1 : Int32) (7 : Int32)) w (2 : Int32) (7 : Int32)) w (3 : Int32) (7 : Int32)) w (4 : Int32) (7 : Int32)) w (5 : Int32) (7 : Int32) (by decide) b5 f5 q5 (10 * (10 * (10 * (10 * (10 * 0 + (b0 - 48)) + (b1 - 48)) + (b2 - 48)) + (b3 - 48)) + (b4 - 48)) g5 (by omega)
  by_cases q6 : 48 ≤ b6 ∧ b6 ≤ 57
  case neg =>
    rw [own_dv_no w (7 : Int32) 0 c0 c1 c2 c3 c4 c5 c6 (by decide) m0 m1 m2 m3 m4 m5 m6 hv (by rintro ⟨u0, u1, u2, u3, u4, u5, u6, u7⟩; exact q6 (D6.2.1.mp u7))]
    rw [own_step_non (own_step (own_step (own_step (own_step (own_step (own_step (0 : Int32) w (0 : Int32) (7 : Int32)) w (1 : Int32) (7 : Int32)) w (2 : Int32) (7 : Int32)) w (3 : Int32) (7 : Int32)) w (4 : Int32) (7 : Int32)) w (5 : Int32) (7 : Int32)) w (6 : Int32) (7 : Int32) (by decide) b6 f6 q6 (by rw [g6]; exact Int.natCast_nonneg _)]
    simp only [own_step_neg]
  have g7 := own_step_dig (own_step (own_step (own_step (own_step (own_step (own_step (0 : Int32) w (0 : Int32) (7 : Int32)) w (1 : Int32) (7 : Int32)) w (2 : Int32) (7 : Int32)) w (3 : Int32) (7 : Int32)) w (4 : Int32) (7 : Int32)) w (5 : Int32) (7 : Int32)) w (6 : Int32) (7 : Int32) (by decide) b6 f6 q6 (10 * (10 * (10 * (10 * (10 * (10 * 0 + (b0 - 48)) + (b1 - 48)) + (b2 - 48)) + (b3 - 48)) + (b4 - 48)) + (b5 - 48)) g6 (by omega)
  apply Int32.toInt_inj.mp
  rw [own_dv_yes w (7 : Int32) 0 c0 c1 c2 c3 c4 c5 c6 (by decide) (D0.2.1.mpr q0) (D1.2.1.mpr q1) (D2.2.1.mpr q2) (D3.2.1.mpr q3) (D4.2.1.mpr q4) (D5.2.1.mpr q5) (D6.2.1.mpr q6) hv]
  rw [own_step_skip _ w (7 : Int32) (7 : Int32) (by decide)]
  rw [g7]
  have z0 := D0.2.2 q0.1 q0.2
  have z1 := D1.2.2 q1.1 q1.2
  have z2 := D2.2.2 q2.1 q2.2
  have z3 := D3.2.2 q3.1 q3.2
  have z4 := D4.2.2 q4.1 q4.2
  have z5 := D5.2.2 q5.1 q5.2
  have z6 := D6.2.2 q6.1 q6.2
  clear hv hx g0 f0 D0 f1 D1 f2 D2 f3 D3 f4 D4 f5 D5 f6 D6 f7 D7 g1 g2 g3 g4 g5 g6 g7
  omega
theorem own_sh8 (c0 c1 c2 c3 c4 c5 c6 c7 : Nat) (m0 : c0 < 256) (m1 : c1 < 256) (m2 : c2 < 256) (m3 : c3 < 256) (m4 : c4 < 256) (m5 : c5 < 256) (m6 : c6 < 256) (m7 : c7 < 256) : (c0 + 256 * (c1 + 256 * (c2 + 256 * (c3 + 256 * (c4 + 256 * (c5 + 256 * (c6 + 256 * (c7)))))))) * 1 % 18446744073709551616 = c0 + 256 * (c1 + 256 * (c2 + 256 * (c3 + 256 * (c4 + 256 * (c5 + 256 * (c6 + 256 * (c7))))))) := by
  have h1 : (c0 + 256 * (c1 + 256 * (c2 + 256 * (c3 + 256 * (c4 + 256 * (c5 + 256 * (c6 + 256 * (c7)))))))) * 1 = (c0 + 256 * (c1 + 256 * (c2 + 256 * (c3 + 256 * (c4 + 256 * (c5 + 256 * (c6 + 256 * (c7)))))))) + 18446744073709551616 * (0) := by omega
  rw [h1, Nat.add_mul_mod_self_left]
  exact Nat.mod_eq_of_lt (by omega)
theorem own_law8 (w : Int64) : own_dv w (8 : Int32) = (own_step (own_step (own_step (own_step (own_step (own_step (own_step (own_step (0 : Int32) w (0 : Int32) (8 : Int32)) w (1 : Int32) (8 : Int32)) w (2 : Int32) (8 : Int32)) w (3 : Int32) (8 : Int32)) w (4 : Int32) (8 : Int32)) w (5 : Int32) (8 : Int32)) w (6 : Int32) (8 : Int32)) w (7 : Int32) (8 : Int32)) := by
  have hx := own_xor30 w.toBitVec
  generalize hb0 : w.toBitVec.toNat % 256 = b0 at hx
  have l0 : b0 < 256 := by rw [← hb0]; exact Nat.mod_lt _ (by decide)
  have f0 : (own_byte w (0 : Int32)).toInt = b0 := by rw [own_byte_eq w (0 : Int32) 0 (by decide), ← hb0]; simp
  have D0 : own_D b0 (b0 ^^^ 48) := own_dig l0
  have m0 : b0 ^^^ 48 < 256 := D0.1
  generalize hc0 : b0 ^^^ 48 = c0 at hx m0 D0
  generalize hb1 : w.toBitVec.toNat / 256 % 256 = b1 at hx
  have l1 : b1 < 256 := by rw [← hb1]; exact Nat.mod_lt _ (by decide)
  have f1 : (own_byte w (1 : Int32)).toInt = b1 := by rw [own_byte_eq w (1 : Int32) 8 (by decide), ← hb1]
  have D1 : own_D b1 (b1 ^^^ 48) := own_dig l1
  have m1 : b1 ^^^ 48 < 256 := D1.1
  generalize hc1 : b1 ^^^ 48 = c1 at hx m1 D1
  generalize hb2 : w.toBitVec.toNat / 65536 % 256 = b2 at hx
  have l2 : b2 < 256 := by rw [← hb2]; exact Nat.mod_lt _ (by decide)
  have f2 : (own_byte w (2 : Int32)).toInt = b2 := by rw [own_byte_eq w (2 : Int32) 16 (by decide), ← hb2]
  have D2 : own_D b2 (b2 ^^^ 48) := own_dig l2
  have m2 : b2 ^^^ 48 < 256 := D2.1
  generalize hc2 : b2 ^^^ 48 = c2 at hx m2 D2
  generalize hb3 : w.toBitVec.toNat / 16777216 % 256 = b3 at hx
  have l3 : b3 < 256 := by rw [← hb3]; exact Nat.mod_lt _ (by decide)
  have f3 : (own_byte w (3 : Int32)).toInt = b3 := by rw [own_byte_eq w (3 : Int32) 24 (by decide), ← hb3]
  have D3 : own_D b3 (b3 ^^^ 48) := own_dig l3
  have m3 : b3 ^^^ 48 < 256 := D3.1
  generalize hc3 : b3 ^^^ 48 = c3 at hx m3 D3
  generalize hb4 : w.toBitVec.toNat / 4294967296 % 256 = b4 at hx
  have l4 : b4 < 256 := by rw [← hb4]; exact Nat.mod_lt _ (by decide)
  have f4 : (own_byte w (4 : Int32)).toInt = b4 := by rw [own_byte_eq w (4 : Int32) 32 (by decide), ← hb4]
  have D4 : own_D b4 (b4 ^^^ 48) := own_dig l4
  have m4 : b4 ^^^ 48 < 256 := D4.1
  generalize hc4 : b4 ^^^ 48 = c4 at hx m4 D4
  generalize hb5 : w.toBitVec.toNat / 1099511627776 % 256 = b5 at hx
  have l5 : b5 < 256 := by rw [← hb5]; exact Nat.mod_lt _ (by decide)
  have f5 : (own_byte w (5 : Int32)).toInt = b5 := by rw [own_byte_eq w (5 : Int32) 40 (by decide), ← hb5]
  have D5 : own_D b5 (b5 ^^^ 48) := own_dig l5
  have m5 : b5 ^^^ 48 < 256 := D5.1
  generalize hc5 : b5 ^^^ 48 = c5 at hx m5 D5
  generalize hb6 : w.toBitVec.toNat / 281474976710656 % 256 = b6 at hx
  have l6 : b6 < 256 := by rw [← hb6]; exact Nat.mod_lt _ (by decide)
  have f6 : (own_byte w (6 : Int32)).toInt = b6 := by rw [own_byte_eq w (6 : Int32) 48 (by decide), ← hb6]
  have D6 : own_D b6 (b6 ^^^ 48) := own_dig l6
  have m6 : b6 ^^^ 48 < 256 := D6.1
  generalize hc6 : b6 ^^^ 48 = c6 at hx m6 D6
  generalize hb7 : w.toBitVec.toNat / 72057594037927936 % 256 = b7 at hx
  have l7 : b7 < 256 := by rw [← hb7]; exact Nat.mod_lt _ (by decide)
  have f7 : (own_byte w (7 : Int32)).toInt = b7 := by rw [own_byte_eq w (7 : Int32) 56 (by decide), ← hb7]
  have D7 : own_D b7 (b7 ^^^ 48) := own_dig l7
  have m7 : b7 ^^^ 48 < 256 := D7.1
  generalize hc7 : b7 ^^^ 48 = c7 at hx m7 D7
  clear hb0 hc0 hb1 hc1 hb2 hc2 hb3 hc3 hb4 hc4 hb5 hc5 hb6 hc6 hb7 hc7
  have hv : (own_vs w (8 : Int32)).toBitVec.toNat = c0 + 256 * (c1 + 256 * (c2 + 256 * (c3 + 256 * (c4 + 256 * (c5 + 256 * (c6 + 256 * (c7))))))) := by
    rw [own_vs, own_shl, show ((64 : Int32) - (8 : Int32) * (8 : Int32)).toBitVec.toNat % 64 = 0 by decide, BitVec.toNat_shiftLeft, Nat.shiftLeft_eq, Int64.toBitVec_xor]
    show (w.toBitVec ^^^ 3472328296227680304#64).toNat * 1 % 18446744073709551616 = _
    rw [hx]
    exact own_sh8 c0 c1 c2 c3 c4 c5 c6 c7 m0 m1 m2 m3 m4 m5 m6 m7
  have g0 : (0 : Int32).toInt = ((0 : Nat) : Int) := rfl
  by_cases q0 : 48 ≤ b0 ∧ b0 ≤ 57
  case neg =>
    rw [own_dv_no w (8 : Int32) c0 c1 c2 c3 c4 c5 c6 c7 m0 m1 m2 m3 m4 m5 m6 m7 hv (by rintro ⟨u0, u1, u2, u3, u4, u5, u6, u7⟩; exact q0 (D0.2.1.mp u0))]
    rw [own_step_non (0 : Int32) w (0 : Int32) (8 : Int32) (by decide) b0 f0 q0 (by rw [g0]; exact Int.natCast_nonneg _)]
    simp only [own_step_neg]
  have g1 := own_step_dig (0 : Int32) w (0 : Int32) (8 : Int32) (by decide) b0 f0 q0 0 g0 (by omega)
  by_cases q1 : 48 ≤ b1 ∧ b1 ≤ 57
  case neg =>
    rw [own_dv_no w (8 : Int32) c0 c1 c2 c3 c4 c5 c6 c7 m0 m1 m2 m3 m4 m5 m6 m7 hv (by rintro ⟨u0, u1, u2, u3, u4, u5, u6, u7⟩; exact q1 (D1.2.1.mp u1))]
    rw [own_step_non (own_step (0 : Int32) w (0 : Int32) (8 : Int32)) w (1 : Int32) (8 : Int32) (by decide) b1 f1 q1 (by rw [g1]; exact Int.natCast_nonneg _)]
    simp only [own_step_neg]
  have g2 := own_step_dig (own_step (0 : Int32) w (0 : Int32) (8 : Int32)) w (1 : Int32) (8 : Int32) (by decide) b1 f1 q1 (10 * 0 + (b0 - 48)) g1 (by omega)
  by_cases q2 : 48 ≤ b2 ∧ b2 ≤ 57
  case neg =>
    rw [own_dv_no w (8 : Int32) c0 c1 c2 c3 c4 c5 c6 c7 m0 m1 m2 m3 m4 m5 m6 m7 hv (by rintro ⟨u0, u1, u2, u3, u4, u5, u6, u7⟩; exact q2 (D2.2.1.mp u2))]
    rw [own_step_non (own_step (own_step (0 : Int32) w (0 : Int32) (8 : Int32)) w (1 : Int32) (8 : Int32)) w (2 : Int32) (8 : Int32) (by decide) b2 f2 q2 (by rw [g2]; exact Int.natCast_nonneg _)]
    simp only [own_step_neg]
  have g3 := own_step_dig (own_step (own_step (0 : Int32) w (0 : Int32) (8 : Int32)) w (1 : Int32) (8 : Int32)) w (2 : Int32) (8 : Int32) (by decide) b2 f2 q2 (10 * (10 * 0 + (b0 - 48)) + (b1 - 48)) g2 (by omega)
  by_cases q3 : 48 ≤ b3 ∧ b3 ≤ 57
  case neg =>
    rw [own_dv_no w (8 : Int32) c0 c1 c2 c3 c4 c5 c6 c7 m0 m1 m2 m3 m4 m5 m6 m7 hv (by rintro ⟨u0, u1, u2, u3, u4, u5, u6, u7⟩; exact q3 (D3.2.1.mp u3))]
    rw [own_step_non (own_step (own_step (own_step (0 : Int32) w (0 : Int32) (8 : Int32)) w (1 : Int32) (8 : Int32)) w (2 : Int32) (8 : Int32)) w (3 : Int32) (8 : Int32) (by decide) b3 f3 q3 (by rw [g3]; exact Int.natCast_nonneg _)]
    simp only [own_step_neg]
  have g4 := own_step_dig (own_step (own_step (own_step (0 : Int32) w (0 : Int32) (8 : Int32)) w (1 : Int32) (8 : Int32)) w (2 : Int32) (8 : Int32)) w (3 : Int32) (8 : Int32) (by decide) b3 f3 q3 (10 * (10 * (10 * 0 + (b0 - 48)) + (b1 - 48)) + (b2 - 48)) g3 (by omega)
  by_cases q4 : 48 ≤ b4 ∧ b4 ≤ 57
  case neg =>
    rw [own_dv_no w (8 : Int32) c0 c1 c2 c3 c4 c5 c6 c7 m0 m1 m2 m3 m4 m5 m6 m7 hv (by rintro ⟨u0, u1, u2, u3, u4, u5, u6, u7⟩; exact q4 (D4.2.1.mp u4))]
    rw [own_step_non (own_step (own_step (own_step (own_step (0 : Int32) w (0 : Int32) (8 : Int32)) w (1 : Int32) (8 : Int32)) w (2 : Int32) (8 : Int32)) w (3 : Int32) (8 : Int32)) w (4 : Int32) (8 : Int32) (by decide) b4 f4 q4 (by rw [g4]; exact Int.natCast_nonneg _)]
    simp only [own_step_neg]
  have g5 := own_step_dig (own_step (own_step (own_step (own_step (0 : Int32) w (0 : Int32) (8 : Int32)) w (1 : Int32) (8 : Int32)) w (2 : Int32) (8 : Int32)) w (3 : Int32) (8 : Int32)) w (4 : Int32) (8 : Int32) (by decide) b4 f4 q4 (10 * (10 * (10 * (10 * 0 + (b0 - 48)) + (b1 - 48)) + (b2 - 48)) + (b3 - 48)) g4 (by omega)
  by_cases q5 : 48 ≤ b5 ∧ b5 ≤ 57
  case neg =>
    rw [own_dv_no w (8 : Int32) c0 c1 c2 c3 c4 c5 c6 c7 m0 m1 m2 m3 m4 m5 m6 m7 hv (by rintro ⟨u0, u1, u2, u3, u4, u5, u6, u7⟩; exact q5 (D5.2.1.mp u5))]
    rw [own_step_non (own_step (own_step (own_step (own_step (own_step (0 : Int32) w (0 : Int32) (8 : Int32)) w (1 : Int32) (8 : Int32)) w (2 : Int32) (8 : Int32)) w (3 : Int32) (8 : Int32)) w (4 : Int32) (8 : Int32)) w (5 : Int32) (8 : Int32) (by decide) b5 f5 q5 (by rw [g5]; exact Int.natCast_nonneg _)]
    simp only [own_step_neg]
  have g6 := own_step_dig (own_step (own_step (own_step (own_step (own_step (0 : Int32) w (0 : Int32) (8 : Int32)) w (1 : Int32) (8 : Int32)) w (2 : Int32) (8 : Int32)) w (3 : Int32) (8 : Int32)) w (4 : Int32) (8 : Int32)) w (5 : Int32) (8 : Int32) (by decide) b5 f5 q5 (10 * (10 * (10 * (10 * (10 * 0 + (b0 - 48)) + (b1 - 48)) + (b2 - 48)) + (b3 - 48)) + (b4 - 48)) g5 (by omega)
  by_cases q6 : 48 ≤ b6 ∧ b6 ≤ 57
  case neg =>
    rw [own_dv_no w (8 : Int32) c0 c1 c2 c3 c4 c5 c6 c7 m0 m1 m2 m3 m4 m5 m6 m7 hv (by rintro ⟨u0, u1, u2, u3, u4, u5, u6, u7⟩; exact q6 (D6.2.1.mp u6))]
    rw [own_step_non (own_step (own_step (own_step (own_step (own_step (own_step (0 : Int32) w (0 : Int32) (8 : Int32)) w (1 : Int32) (8 : Int32)) w (2 : Int32) (8 : Int32)) w (3 : Int32) (8 : Int32)) w (4 : Int32) (8 : Int32)) w (5 : Int32) (8 : Int32)) w (6 : Int32) (8 : Int32) (by decide) b6 f6 q6 (by rw [g6]; exact Int.natCast_nonneg _)]
    simp only [own_step_neg]
  have g7 := own_step_dig (own_step (own_step (own_step (own_step (own_step (own_step (0 : Int32) w (0 : Int32) (8 : Int32)) w (1 : Int32) (8 : Int32)) w (2 : Int32) (8 : Int32)) w (3 : Int32) (8 : Int32)) w (4 : Int32) (8 : Int32)) w (5 : Int32) (8 : Int32)) w (6 : Int32) (8 : Int32) (by decide) b6 f6 q6 (10 * (10 * (10 * (10 * (10 * (10 * 0 + (b0 - 48)) + (b1 - 48)) + (b2 - 48)) + (b3 - 48)) + (b4 - 48)) + (b5 - 48)) g6 (by omega)
  by_cases q7 : 48 ≤ b7 ∧ b7 ≤ 57
  case neg =>
    rw [own_dv_no w (8 : Int32) c0 c1 c2 c3 c4 c5 c6 c7 m0 m1 m2 m3 m4 m5 m6 m7 hv (by rintro ⟨u0, u1, u2, u3, u4, u5, u6, u7⟩; exact q7 (D7.2.1.mp u7))]
    rw [own_step_non (own_step (own_step (own_step (own_step (own_step (own_step (own_step (0 : Int32) w (0 : Int32) (8 : Int32)) w (1 : Int32) (8 : Int32)) w (2 : Int32) (8 : Int32)) w (3 : Int32) (8 : Int32)) w (4 : Int32) (8 : Int32)) w (5 : Int32) (8 : Int32)) w (6 : Int32) (8 : Int32)) w (7 : Int32) (8 : Int32) (by decide) b7 f7 q7 (by rw [g7]; exact Int.natCast_nonneg _)]
  have g8 := own_step_dig (own_step (own_step (own_step (own_step (own_step (own_step (own_step (0 : Int32) w (0 : Int32) (8 : Int32)) w (1 : Int32) (8 : Int32)) w (2 : Int32) (8 : Int32)) w (3 : Int32) (8 : Int32)) w (4 : Int32) (8 : Int32)) w (5 : Int32) (8 : Int32)) w (6 : Int32) (8 : Int32)) w (7 : Int32) (8 : Int32) (by decide) b7 f7 q7 (10 * (10 * (10 * (10 * (10 * (10 * (10 * 0 + (b0 - 48)) + (b1 - 48)) + (b2 - 48)) + (b3 - 48)) + (b4 - 48)) + (b5 - 48)) + (b6 - 48)) g7 (by omega)
  apply Int32.toInt_inj.mp
  rw [own_dv_yes w (8 : Int32) c0 c1 c2 c3 c4 c5 c6 c7 (D0.2.1.mpr q0) (D1.2.1.mpr q1) (D2.2.1.mpr q2) (D3.2.1.mpr q3) (D4.2.1.mpr q4) (D5.2.1.mpr q5) (D6.2.1.mpr q6) (D7.2.1.mpr q7) hv]
  rw [g8]
  have z0 := D0.2.2 q0.1 q0.2
  have z1 := D1.2.2 q1.1 q1.2
  have z2 := D2.2.2 q2.1 q2.2
  have z3 := D3.2.2 q3.1 q3.2
  have z4 := D4.2.2 q4.1 q4.2
  have z5 := D5.2.2 q5.1 q5.2
  have z6 := D6.2.2 q6.1 q6.2
  have z7 := D7.2.2 q7.1 q7.2
  clear hv hx g0 f0 D0 f1 D1 f2 D2 f3 D3 f4 D4 f5 D5 f6 D6 f7 D7 g1 g2 g3 g4 g5 g6 g7 g8
  omega
def own_digit (q : Int64) (i d : Int32) : Int32 := if i < d then (48 : Int32) + own_byte q i % (10 : Int32) else own_byte q i
def own_put (q : Int64) (i b : Int32) : Int64 := ((q &&& (((255 : Int64) <<< (((8 : Int32) * i) &&& 0x3f).toInt64) ^^^ (-1 : Int64))) ||| (((b &&& (255 : Int32)).toInt64) <<< (((8 : Int32) * i) &&& 0x3f).toInt64))
theorem d1_0 : decode method_4_code 0 = .ok (.lload_n 0, 1) := by decide +kernel
theorem d1_1 : decode method_4_code 1 = .ok (.iload_n 2, 1) := by decide +kernel
theorem d1_2 : decode method_4_code 2 = .ok (.invokestatic 29, 3) := by decide +kernel
theorem d1_5 : decode method_4_code 5 = .ok (.istore 4, 2) := by decide +kernel
theorem d1_7 : decode method_4_code 7 = .ok (.iload_n 2, 1) := by decide +kernel
theorem d1_8 : decode method_4_code 8 = .ok (.iload_n 3, 1) := by decide +kernel
theorem d1_9 : decode method_4_code 9 = .ok (.if_icmp .ge 12, 3) := by decide +kernel
theorem d1_12 : decode method_4_code 12 = .ok (.bipush 48, 2) := by decide +kernel
theorem d1_14 : decode method_4_code 14 = .ok (.iload 4, 2) := by decide +kernel
theorem d1_16 : decode method_4_code 16 = .ok (.bipush 10, 2) := by decide +kernel
theorem d1_18 : decode method_4_code 18 = .ok (.irem, 1) := by decide +kernel
theorem d1_19 : decode method_4_code 19 = .ok (.iadd, 1) := by decide +kernel
theorem d1_20 : decode method_4_code 20 = .ok (.ireturn, 1) := by decide +kernel
theorem d1_21 : decode method_4_code 21 = .ok (.iload 4, 2) := by decide +kernel
theorem d1_23 : decode method_4_code 23 = .ok (.ireturn, 1) := by decide +kernel
theorem d2_0 : decode method_3_code 0 = .ok (.lload_n 0, 1) := by decide +kernel
theorem d2_1 : decode method_3_code 1 = .ok (.bipush 8, 2) := by decide +kernel
theorem d2_3 : decode method_3_code 3 = .ok (.iload_n 2, 1) := by decide +kernel
theorem d2_4 : decode method_3_code 4 = .ok (.imul, 1) := by decide +kernel
theorem d2_5 : decode method_3_code 5 = .ok (.lushr, 1) := by decide +kernel
theorem d2_6 : decode method_3_code 6 = .ok (.ldc2_w 27, 3) := by decide +kernel
theorem d2_9 : decode method_3_code 9 = .ok (.land, 1) := by decide +kernel
theorem d2_10 : decode method_3_code 10 = .ok (.l2i, 1) := by decide +kernel
theorem d2_11 : decode method_3_code 11 = .ok (.ireturn, 1) := by decide +kernel
theorem d3_0 : decode method_5_code 0 = .ok (.bipush 8, 2) := by decide +kernel
theorem d3_2 : decode method_5_code 2 = .ok (.iload_n 2, 1) := by decide +kernel
theorem d3_3 : decode method_5_code 3 = .ok (.imul, 1) := by decide +kernel
theorem d3_4 : decode method_5_code 4 = .ok (.istore 4, 2) := by decide +kernel
theorem d3_6 : decode method_5_code 6 = .ok (.lload_n 0, 1) := by decide +kernel
theorem d3_7 : decode method_5_code 7 = .ok (.ldc2_w 27, 3) := by decide +kernel
theorem d3_10 : decode method_5_code 10 = .ok (.iload 4, 2) := by decide +kernel
theorem d3_12 : decode method_5_code 12 = .ok (.lshl, 1) := by decide +kernel
theorem d3_13 : decode method_5_code 13 = .ok (.ldc2_w 32, 3) := by decide +kernel
theorem d3_16 : decode method_5_code 16 = .ok (.lxor, 1) := by decide +kernel
theorem d3_17 : decode method_5_code 17 = .ok (.land, 1) := by decide +kernel
theorem d3_18 : decode method_5_code 18 = .ok (.iload_n 3, 1) := by decide +kernel
theorem d3_19 : decode method_5_code 19 = .ok (.sipush 255, 3) := by decide +kernel
theorem d3_22 : decode method_5_code 22 = .ok (.iand, 1) := by decide +kernel
theorem d3_23 : decode method_5_code 23 = .ok (.i2l, 1) := by decide +kernel
theorem d3_24 : decode method_5_code 24 = .ok (.iload 4, 2) := by decide +kernel
theorem d3_26 : decode method_5_code 26 = .ok (.lshl, 1) := by decide +kernel
theorem d3_27 : decode method_5_code 27 = .ok (.lor, 1) := by decide +kernel
theorem d3_28 : decode method_5_code 28 = .ok (.lreturn, 1) := by decide +kernel
theorem d4_0 : decode method_6_code 0 = .ok (.iload_n 0, 1) := by decide +kernel
theorem d4_1 : decode method_6_code 1 = .ok (.ifCond .lt 9, 3) := by decide +kernel
theorem d4_4 : decode method_6_code 4 = .ok (.iload_n 3, 1) := by decide +kernel
theorem d4_5 : decode method_6_code 5 = .ok (.iload 4, 2) := by decide +kernel
theorem d4_7 : decode method_6_code 7 = .ok (.if_icmp .lt 5, 3) := by decide +kernel
theorem d4_10 : decode method_6_code 10 = .ok (.iload_n 0, 1) := by decide +kernel
theorem d4_11 : decode method_6_code 11 = .ok (.ireturn, 1) := by decide +kernel
theorem d4_12 : decode method_6_code 12 = .ok (.lload_n 1, 1) := by decide +kernel
theorem d4_13 : decode method_6_code 13 = .ok (.iload_n 3, 1) := by decide +kernel
theorem d4_14 : decode method_6_code 14 = .ok (.invokestatic 29, 3) := by decide +kernel
theorem d4_17 : decode method_6_code 17 = .ok (.istore 5, 2) := by decide +kernel
theorem d4_19 : decode method_6_code 19 = .ok (.iload 5, 2) := by decide +kernel
theorem d4_21 : decode method_6_code 21 = .ok (.bipush 48, 2) := by decide +kernel
theorem d4_23 : decode method_6_code 23 = .ok (.if_icmp .lt 10, 3) := by decide +kernel
theorem d4_26 : decode method_6_code 26 = .ok (.iload 5, 2) := by decide +kernel
theorem d4_28 : decode method_6_code 28 = .ok (.bipush 57, 2) := by decide +kernel
theorem d4_30 : decode method_6_code 30 = .ok (.if_icmp .le 5, 3) := by decide +kernel
theorem d4_33 : decode method_6_code 33 = .ok (.iconst (-1), 1) := by decide +kernel
theorem d4_34 : decode method_6_code 34 = .ok (.ireturn, 1) := by decide +kernel
theorem d4_35 : decode method_6_code 35 = .ok (.iload_n 0, 1) := by decide +kernel
theorem d4_36 : decode method_6_code 36 = .ok (.bipush 10, 2) := by decide +kernel
theorem d4_38 : decode method_6_code 38 = .ok (.imul, 1) := by decide +kernel
theorem d4_39 : decode method_6_code 39 = .ok (.iload 5, 2) := by decide +kernel
theorem d4_41 : decode method_6_code 41 = .ok (.bipush 48, 2) := by decide +kernel
theorem d4_43 : decode method_6_code 43 = .ok (.isub, 1) := by decide +kernel
theorem d4_44 : decode method_6_code 44 = .ok (.iadd, 1) := by decide +kernel
theorem d4_45 : decode method_6_code 45 = .ok (.ireturn, 1) := by decide +kernel
theorem d5_0 : decode prog_39_method_5_code 0 = .ok (.lload_n 0, 1) := by decide +kernel
theorem d5_1 : decode prog_39_method_5_code 1 = .ok (.ldc2_w 33, 3) := by decide +kernel
theorem d5_4 : decode prog_39_method_5_code 4 = .ok (.lxor, 1) := by decide +kernel
theorem d5_5 : decode prog_39_method_5_code 5 = .ok (.bipush 64, 2) := by decide +kernel
theorem d5_7 : decode prog_39_method_5_code 7 = .ok (.iload_n 2, 1) := by decide +kernel
theorem d5_8 : decode prog_39_method_5_code 8 = .ok (.bipush 8, 2) := by decide +kernel
theorem d5_10 : decode prog_39_method_5_code 10 = .ok (.imul, 1) := by decide +kernel
theorem d5_11 : decode prog_39_method_5_code 11 = .ok (.isub, 1) := by decide +kernel
theorem d5_12 : decode prog_39_method_5_code 12 = .ok (.lshl, 1) := by decide +kernel
theorem d5_13 : decode prog_39_method_5_code 13 = .ok (.lstore_n 3, 1) := by decide +kernel
theorem d5_14 : decode prog_39_method_5_code 14 = .ok (.lload_n 3, 1) := by decide +kernel
theorem d5_15 : decode prog_39_method_5_code 15 = .ok (.ldc2_w 35, 3) := by decide +kernel
theorem d5_18 : decode prog_39_method_5_code 18 = .ok (.ladd, 1) := by decide +kernel
theorem d5_19 : decode prog_39_method_5_code 19 = .ok (.lload_n 3, 1) := by decide +kernel
theorem d5_20 : decode prog_39_method_5_code 20 = .ok (.lor, 1) := by decide +kernel
theorem d5_21 : decode prog_39_method_5_code 21 = .ok (.ldc2_w 25, 3) := by decide +kernel
theorem d5_24 : decode prog_39_method_5_code 24 = .ok (.land, 1) := by decide +kernel
theorem d5_25 : decode prog_39_method_5_code 25 = .ok (.lconst 0, 1) := by decide +kernel
theorem d5_26 : decode prog_39_method_5_code 26 = .ok (.lcmp, 1) := by decide +kernel
theorem d5_27 : decode prog_39_method_5_code 27 = .ok (.ifCond .ne 7, 3) := by decide +kernel
theorem d5_30 : decode prog_39_method_5_code 30 = .ok (.iconst 1, 1) := by decide +kernel
theorem d5_31 : decode prog_39_method_5_code 31 = .ok (.goto 4, 3) := by decide +kernel
theorem d5_34 : decode prog_39_method_5_code 34 = .ok (.iconst 0, 1) := by decide +kernel
theorem d5_35 : decode prog_39_method_5_code 35 = .ok (.istore 5, 2) := by decide +kernel
theorem d5_37 : decode prog_39_method_5_code 37 = .ok (.lload_n 3, 1) := by decide +kernel
theorem d5_38 : decode prog_39_method_5_code 38 = .ok (.ldc2_w 37, 3) := by decide +kernel
theorem d5_41 : decode prog_39_method_5_code 41 = .ok (.lmul, 1) := by decide +kernel
theorem d5_42 : decode prog_39_method_5_code 42 = .ok (.bipush 8, 2) := by decide +kernel
theorem d5_44 : decode prog_39_method_5_code 44 = .ok (.lushr, 1) := by decide +kernel
theorem d5_45 : decode prog_39_method_5_code 45 = .ok (.ldc2_w 39, 3) := by decide +kernel
theorem d5_48 : decode prog_39_method_5_code 48 = .ok (.land, 1) := by decide +kernel
theorem d5_49 : decode prog_39_method_5_code 49 = .ok (.lstore 6, 2) := by decide +kernel
theorem d5_51 : decode prog_39_method_5_code 51 = .ok (.lload 6, 2) := by decide +kernel
theorem d5_53 : decode prog_39_method_5_code 53 = .ok (.ldc2_w 41, 3) := by decide +kernel
theorem d5_56 : decode prog_39_method_5_code 56 = .ok (.lmul, 1) := by decide +kernel
theorem d5_57 : decode prog_39_method_5_code 57 = .ok (.bipush 16, 2) := by decide +kernel
theorem d5_59 : decode prog_39_method_5_code 59 = .ok (.lushr, 1) := by decide +kernel
theorem d5_60 : decode prog_39_method_5_code 60 = .ok (.ldc2_w 43, 3) := by decide +kernel
theorem d5_63 : decode prog_39_method_5_code 63 = .ok (.land, 1) := by decide +kernel
theorem d5_64 : decode prog_39_method_5_code 64 = .ok (.lstore 8, 2) := by decide +kernel
theorem d5_66 : decode prog_39_method_5_code 66 = .ok (.lload 8, 2) := by decide +kernel
theorem d5_68 : decode prog_39_method_5_code 68 = .ok (.ldc2_w 45, 3) := by decide +kernel
theorem d5_71 : decode prog_39_method_5_code 71 = .ok (.lmul, 1) := by decide +kernel
theorem d5_72 : decode prog_39_method_5_code 72 = .ok (.bipush 32, 2) := by decide +kernel
theorem d5_74 : decode prog_39_method_5_code 74 = .ok (.lushr, 1) := by decide +kernel
theorem d5_75 : decode prog_39_method_5_code 75 = .ok (.l2i, 1) := by decide +kernel
theorem d5_76 : decode prog_39_method_5_code 76 = .ok (.istore 10, 2) := by decide +kernel
theorem d5_78 : decode prog_39_method_5_code 78 = .ok (.iload 5, 2) := by decide +kernel
theorem d5_80 : decode prog_39_method_5_code 80 = .ok (.ifCond .eq 8, 3) := by decide +kernel
theorem d5_83 : decode prog_39_method_5_code 83 = .ok (.iload 10, 2) := by decide +kernel
theorem d5_85 : decode prog_39_method_5_code 85 = .ok (.goto 4, 3) := by decide +kernel
theorem d5_88 : decode prog_39_method_5_code 88 = .ok (.iconst (-1), 1) := by decide +kernel
theorem d5_89 : decode prog_39_method_5_code 89 = .ok (.ireturn, 1) := by decide +kernel
theorem pd_0 : parseMethodDescriptor "(JI)I" = some ⟨[.long, .int], some .int⟩ := by decide +kernel
theorem pd_1 : parseMethodDescriptor "(JII)I" = some ⟨[.long, .int, .int], some .int⟩ := by decide +kernel
theorem pd_2 : parseMethodDescriptor "(JII)J" = some ⟨[.long, .int, .int], some .long⟩ := by decide +kernel
theorem pd_3 : parseMethodDescriptor "(IJII)I" = some ⟨[.int, .long, .int, .int], some .int⟩ := by decide +kernel
theorem pn_0 : plainName "com/example/stablemate/stablemate/layout/ByteWordsDecimalValuePinLaw" = true := by first | (simp [plainName, overriddenIn]; done) | decide +kernel
theorem pn_1 : plainName "com/example/stablemate/stablemate/layout/ByteWords" = true := by first | (simp [plainName, overriddenIn]; done) | decide +kernel
theorem ef_2 (x0 : Int64) (x1 : Int32) (m : MethodId) : entryFrame m #[(.long x0), (.int x1)] 3 = mkF m 0 #[.val (.long x0), .second, .val (.int x1)] [] := by first | (simp [entryFrame, mkF, argsToLocals, Value.category]; done) | rfl
theorem ef_1 (x0 : Int64) (x1 : Int32) (x2 : Int32) (m : MethodId) : entryFrame m #[(.long x0), (.int x1), (.int x2)] 5 = mkF m 0 #[.val (.long x0), .second, .val (.int x1), .val (.int x2), .unset] [] := by first | (simp [entryFrame, mkF, argsToLocals, Value.category]; done) | rfl
theorem ef_3 (x0 : Int64) (x1 : Int32) (x2 : Int32) (m : MethodId) : entryFrame m #[(.long x0), (.int x1), (.int x2)] 5 = mkF m 0 #[.val (.long x0), .second, .val (.int x1), .val (.int x2), .unset] [] := by first | (simp [entryFrame, mkF, argsToLocals, Value.category]; done) | rfl
theorem ef_4 (x0 : Int32) (x1 : Int64) (x2 : Int32) (x3 : Int32) (m : MethodId) : entryFrame m #[(.int x0), (.long x1), (.int x2), (.int x3)] 6 = mkF m 0 #[.val (.int x0), .val (.long x1), .second, .val (.int x2), .val (.int x3), .unset] [] := by first | (simp [entryFrame, mkF, argsToLocals, Value.category]; done) | rfl
theorem ef_5 (x0 : Int64) (x1 : Int32) (m : MethodId) : entryFrame m #[(.long x0), (.int x1)] 11 = mkF m 0 #[.val (.long x0), .second, .val (.int x1), .unset, .unset, .unset, .unset, .unset, .unset, .unset, .unset] [] := by first | (simp [entryFrame, mkF, argsToLocals, Value.category]; done) | rfl
theorem ef_0 (x0 : Int64) (x1 : Int32) (x2 : Int32) (m : MethodId) : entryFrame m #[(.long x0), (.int x1), (.int x2)] maxLocals = mkF m 0 #[.val (.long x0), .second, .val (.int x1), .val (.int x2), .unset, .unset, .unset, .unset] [] := by first | (simp [entryFrame, mkF, argsToLocals, Value.category, maxLocals]; done) | rfl
set_option maxRecDepth 65536 in
set_option maxHeartbeats 40000000 in
theorem byteAt_ct {l : Launch} {Z : State} {a0 : Array Value} (hw : ∀ d ∈ tables_1, d.before a0 Z = true) (q : Int64) (i : Int32) (h0 : Heap) (n0 : Nat) :
    Ct l Z (⟨"com/example/stablemate/stablemate/layout/ByteWordsDecimalValuePinLaw", "byteAt", "(JI)I"⟩ : MethodName) method_3_code 3 (some .int) ({ frames := 0, cells := 0, slots := 0, locals := 0 } : Room) n0 #[(.long q), (.int i)] h0 (fun v h' => v = some (.int (own_byte q i)) ∧ h' = h0) := by
  refine Ct.of (plainFor_of_name pn_0) (fun m => ef_2 q i m) ?_
  intro W V H r0
  have r1 : W h0 0 0 9 #[.val (.long q), .second, .val (.int i)] [(.long (255 : Int64)), (.long ((q.toUInt64 >>> (((8 : Int32) * i) &&& 0x3f).toInt64.toUInt64).toInt64))] := (H.ldcLong d2_6 (H.lushr d2_5 (H.imul d2_4 (H.iloadN d2_3 (H.bipush (z := (8 : Int32)) d2_1 (H.lloadN d2_0 r0 rfl) rfl) rfl))) (hw _ (List.mem_of_getElem? (i := 7) rfl)))
  have r2 : W h0 0 0 11 #[.val (.long q), .second, .val (.int i)] [(.int ((((q.toUInt64 >>> (((8 : Int32) * i) &&& 0x3f).toInt64.toUInt64).toInt64) &&& (255 : Int64)).toInt32))] := (H.l2i d2_10 (H.land d2_9 r1))
  exact ⟨_, _, H.retI rfl (Nat.le_refl _) (Nat.le_refl _) d2_11 r2, rfl, rfl⟩
set_option maxRecDepth 65536 in
set_option maxHeartbeats 40000000 in
theorem digitify_ct {l : Launch} {Z : State} {a0 : Array Value} (hw : ∀ d ∈ tables_1, d.before a0 Z = true) (q : Int64) (i d : Int32) (h0 : Heap) (n0 : Nat) :
    Ct l Z (⟨"com/example/stablemate/stablemate/layout/ByteWordsDecimalValuePinLaw", "digitify", "(JII)I"⟩ : MethodName) method_4_code 5 (some .int) ({ frames := 1, cells := 0, slots := 0, locals := 20 } : Room) n0 #[(.long q), (.int i), (.int d)] h0 (fun v h' => v = some (.int (own_digit q i d)) ∧ h' = h0) := by
  refine Ct.of (plainFor_of_name pn_0) (fun m => ef_1 q i d m) ?_
  intro W V H r0
  have r3 : W h0 0 0 2 #[.val (.long q), .second, .val (.int i), .val (.int d), .unset] [(.int i), (.long q)] := (H.iloadN d1_1 (H.lloadN d1_0 r0 rfl) rfl)
  have r4 : W h0 0 0 5 #[.val (.long q), .second, .val (.int i), .val (.int d), .unset] [(.int (own_byte q i))] := H.callSP (w := 0) (argsL := [(.long q), (.int i)]) (rest := []) (hw _ (List.mem_of_getElem? (i := 4) rfl)) (hw _ (List.mem_of_getElem? (i := 5) rfl)) (hw _ (List.mem_of_getElem? (i := 2) rfl)) (hw _ (List.mem_of_getElem? (i := 6) rfl)) (by decide) pd_0 (by decide) (by decide) (by decide) (by decide) (byteAt_ct hw q i h0 n0) rfl rfl (Nat.le_of_eq rfl) rfl d1_2 r3
  have r5 : W h0 0 0 7 #[.val (.long q), .second, .val (.int i), .val (.int d), .val (.int (own_byte q i))] [] := (H.istore d1_5 r4 rfl)
  have r6 : W h0 0 0 9 #[.val (.long q), .second, .val (.int i), .val (.int d), .val (.int (own_byte q i))] [(.int d), (.int i)] := (H.iloadN d1_8 (H.iloadN d1_7 r5 rfl) rfl)
  by_cases h1 : i < d
  · have r7 : W h0 0 0 12 #[.val (.long q), .second, .val (.int i), .val (.int d), .val (.int (own_byte q i))] [] := (H.icmpNo d1_9 r6 (tlt h1).2.1)
    have r9 : W h0 0 0 20 #[.val (.long q), .second, .val (.int i), .val (.int d), .val (.int (own_byte q i))] [(.int ((48 : Int32) + ((own_byte q i) % (10 : Int32))))] := (H.iadd d1_19 (H.irem d1_18 (H.bipush (z := (10 : Int32)) d1_16 (H.iload d1_14 (H.bipush (z := (48 : Int32)) d1_12 r7 rfl) rfl) rfl) (by decide)))
    exact ⟨_, _, H.retI rfl (Nat.le_refl _) (Nat.le_refl _) d1_20 r9, by rw [own_digit, if_pos h1], rfl⟩
  · have r8 : W h0 0 0 21 #[.val (.long q), .second, .val (.int i), .val (.int d), .val (.int (own_byte q i))] [] := (H.icmpYes (pc' := 21) d1_9 r6 (by decide) (by decide) (flt h1).2.1)
    have r10 : W h0 0 0 23 #[.val (.long q), .second, .val (.int i), .val (.int d), .val (.int (own_byte q i))] [(.int (own_byte q i))] := (H.iload d1_21 r8 rfl)
    exact ⟨_, _, H.retI rfl (Nat.le_refl _) (Nat.le_refl _) d1_23 r10, by rw [own_digit, if_neg h1], rfl⟩
set_option maxRecDepth 65536 in
set_option maxHeartbeats 40000000 in
theorem put_ct {l : Launch} {Z : State} {a0 : Array Value} (hw : ∀ d ∈ tables_1, d.before a0 Z = true) (q : Int64) (i b : Int32) (h0 : Heap) (n0 : Nat) :
    Ct l Z (⟨"com/example/stablemate/stablemate/layout/ByteWordsDecimalValuePinLaw", "put", "(JII)J"⟩ : MethodName) method_5_code 5 (some .long) ({ frames := 0, cells := 0, slots := 0, locals := 0 } : Room) n0 #[(.long q), (.int i), (.int b)] h0 (fun v h' => v = some (.long (own_put q i b)) ∧ h' = h0) := by
  refine Ct.of (plainFor_of_name pn_0) (fun m => ef_3 q i b m) ?_
  intro W V H r0
  have r11 : W h0 0 0 6 #[.val (.long q), .second, .val (.int i), .val (.int b), .val (.int ((8 : Int32) * i))] [] := (H.istore d3_4 (H.imul d3_3 (H.iloadN d3_2 (H.bipush (z := (8 : Int32)) d3_0 r0 rfl) rfl)) rfl)
  have r12 : W h0 0 0 17 #[.val (.long q), .second, .val (.int i), .val (.int b), .val (.int ((8 : Int32) * i))] [(.long (((255 : Int64) <<< (((8 : Int32) * i) &&& 0x3f).toInt64) ^^^ (-1 : Int64))), (.long q)] := (H.lxor d3_16 (H.ldcLong d3_13 (H.lshl d3_12 (H.iload d3_10 (H.ldcLong d3_7 (H.lloadN d3_6 r11 rfl) (hw _ (List.mem_of_getElem? (i := 7) rfl))) rfl)) (hw _ (List.mem_of_getElem? (i := 11) rfl))))
  have r13 : W h0 0 0 26 #[.val (.long q), .second, .val (.int i), .val (.int b), .val (.int ((8 : Int32) * i))] [(.int ((8 : Int32) * i)), (.long ((b &&& (255 : Int32)).toInt64)), (.long (q &&& (((255 : Int64) <<< (((8 : Int32) * i) &&& 0x3f).toInt64) ^^^ (-1 : Int64))))] := (H.iload d3_24 (H.i2l d3_23 (H.iand d3_22 (H.sipush (z := (255 : Int32)) d3_19 (H.iloadN d3_18 (H.land d3_17 r12) rfl) rfl))) rfl)
  have r14 : W h0 0 0 28 #[.val (.long q), .second, .val (.int i), .val (.int b), .val (.int ((8 : Int32) * i))] [(.long ((q &&& (((255 : Int64) <<< (((8 : Int32) * i) &&& 0x3f).toInt64) ^^^ (-1 : Int64))) ||| (((b &&& (255 : Int32)).toInt64) <<< (((8 : Int32) * i) &&& 0x3f).toInt64)))] := (H.lor d3_27 (H.lshl d3_26 r13))
  exact ⟨_, _, H.retJ rfl (Nat.le_refl _) (Nat.le_refl _) d3_28 r14, rfl, rfl⟩
set_option maxRecDepth 65536 in
set_option maxHeartbeats 40000000 in
theorem step_ct {l : Launch} {Z : State} {a0 : Array Value} (hw : ∀ d ∈ tables_1, d.before a0 Z = true) (v : Int32) (q : Int64) (i d : Int32) (h0 : Heap) (n0 : Nat) :
    Ct l Z (⟨"com/example/stablemate/stablemate/layout/ByteWordsDecimalValuePinLaw", "step", "(IJII)I"⟩ : MethodName) method_6_code 6 (some .int) ({ frames := 1, cells := 0, slots := 0, locals := 20 } : Room) n0 #[(.int v), (.long q), (.int i), (.int d)] h0 (fun v' h' => v' = some (.int (own_step v q i d)) ∧ h' = h0) := by
  refine Ct.of (plainFor_of_name pn_0) (fun m => ef_4 v q i d m) ?_
  intro W V H r0
  have r15 : W h0 0 0 1 #[.val (.int v), .val (.long q), .second, .val (.int i), .val (.int d), .unset] [(.int v)] := (H.iloadN d4_0 r0 rfl)
  by_cases h1 : v < (0 : Int32)
  · have r16 : W h0 0 0 10 #[.val (.int v), .val (.long q), .second, .val (.int i), .val (.int d), .unset] [] := (H.ifYes (pc' := 10) d4_1 r15 (by decide) (by decide) (tlt h1).1)
    have r18 : W h0 0 0 11 #[.val (.int v), .val (.long q), .second, .val (.int i), .val (.int d), .unset] [(.int v)] := (H.iloadN d4_10 r16 rfl)
    exact ⟨_, _, H.retI rfl (Nat.le_refl _) (Nat.le_refl _) d4_11 r18, by rw [own_step, if_pos h1], rfl⟩
  · have r17 : W h0 0 0 4 #[.val (.int v), .val (.long q), .second, .val (.int i), .val (.int d), .unset] [] := (H.ifNo d4_1 r15 (flt h1).1)
    have r19 : W h0 0 0 7 #[.val (.int v), .val (.long q), .second, .val (.int i), .val (.int d), .unset] [(.int d), (.int i)] := (H.iload d4_5 (H.iloadN d4_4 r17 rfl) rfl)
    by_cases h2 : i < d
    · have r20 : W h0 0 0 12 #[.val (.int v), .val (.long q), .second, .val (.int i), .val (.int d), .unset] [] := (H.icmpYes (pc' := 12) d4_7 r19 (by decide) (by decide) (tlt h2).1)
      have r22 : W h0 0 0 14 #[.val (.int v), .val (.long q), .second, .val (.int i), .val (.int d), .unset] [(.int i), (.long q)] := (H.iloadN d4_13 (H.lloadN d4_12 r20 rfl) rfl)
      have r23 : W h0 0 0 17 #[.val (.int v), .val (.long q), .second, .val (.int i), .val (.int d), .unset] [(.int (own_byte q i))] := H.callSP (w := 0) (argsL := [(.long q), (.int i)]) (rest := []) (hw _ (List.mem_of_getElem? (i := 4) rfl)) (hw _ (List.mem_of_getElem? (i := 5) rfl)) (hw _ (List.mem_of_getElem? (i := 2) rfl)) (hw _ (List.mem_of_getElem? (i := 6) rfl)) (by decide) pd_0 (by decide) (by decide) (by decide) (by decide) (byteAt_ct hw q i h0 n0) rfl rfl (Nat.le_of_eq rfl) rfl d4_14 r22
      have r24 : W h0 0 0 19 #[.val (.int v), .val (.long q), .second, .val (.int i), .val (.int d), .val (.int (own_byte q i))] [] := (H.istore d4_17 r23 rfl)
      have r25 : W h0 0 0 23 #[.val (.int v), .val (.long q), .second, .val (.int i), .val (.int d), .val (.int (own_byte q i))] [(.int (48 : Int32)), (.int (own_byte q i))] := (H.bipush (z := (48 : Int32)) d4_21 (H.iload d4_19 r24 rfl) rfl)
      by_cases h3 : (own_byte q i) < (48 : Int32)
      · have r26 : W h0 0 0 33 #[.val (.int v), .val (.long q), .second, .val (.int i), .val (.int d), .val (.int (own_byte q i))] [] := (H.icmpYes (pc' := 33) d4_23 r25 (by decide) (by decide) (tlt h3).1)
        have r28 : W h0 0 0 34 #[.val (.int v), .val (.long q), .second, .val (.int i), .val (.int d), .val (.int (own_byte q i))] [(.int (-1 : Int32))] := (H.iconst (z := (-1 : Int32)) d4_33 r26 rfl)
        exact ⟨_, _, H.retI rfl (Nat.le_refl _) (Nat.le_refl _) d4_34 r28, by rw [own_step, if_neg h1, if_pos h2, if_pos h3], rfl⟩
      · have r27 : W h0 0 0 26 #[.val (.int v), .val (.long q), .second, .val (.int i), .val (.int d), .val (.int (own_byte q i))] [] := (H.icmpNo d4_23 r25 (flt h3).1)
        have r29 : W h0 0 0 30 #[.val (.int v), .val (.long q), .second, .val (.int i), .val (.int d), .val (.int (own_byte q i))] [(.int (57 : Int32)), (.int (own_byte q i))] := (H.bipush (z := (57 : Int32)) d4_28 (H.iload d4_26 r27 rfl) rfl)
        by_cases h4 : (57 : Int32) < (own_byte q i)
        · have r30 : W h0 0 0 33 #[.val (.int v), .val (.long q), .second, .val (.int i), .val (.int d), .val (.int (own_byte q i))] [] := (H.icmpNo d4_30 r29 (tlt h4).2.2.2)
          have r32 : W h0 0 0 34 #[.val (.int v), .val (.long q), .second, .val (.int i), .val (.int d), .val (.int (own_byte q i))] [(.int (-1 : Int32))] := (H.iconst (z := (-1 : Int32)) d4_33 r30 rfl)
          exact ⟨_, _, H.retI rfl (Nat.le_refl _) (Nat.le_refl _) d4_34 r32, by rw [own_step, if_neg h1, if_pos h2, if_neg h3, if_pos h4], rfl⟩
        · have r31 : W h0 0 0 35 #[.val (.int v), .val (.long q), .second, .val (.int i), .val (.int d), .val (.int (own_byte q i))] [] := (H.icmpYes (pc' := 35) d4_30 r29 (by decide) (by decide) (flt h4).2.2.2)
          have r33 : W h0 0 0 44 #[.val (.int v), .val (.long q), .second, .val (.int i), .val (.int d), .val (.int (own_byte q i))] [(.int ((own_byte q i) - (48 : Int32))), (.int (v * (10 : Int32)))] := (H.isub d4_43 (H.bipush (z := (48 : Int32)) d4_41 (H.iload d4_39 (H.imul d4_38 (H.bipush (z := (10 : Int32)) d4_36 (H.iloadN d4_35 r31 rfl) rfl)) rfl) rfl))
          have r34 : W h0 0 0 45 #[.val (.int v), .val (.long q), .second, .val (.int i), .val (.int d), .val (.int (own_byte q i))] [(.int ((v * (10 : Int32)) + ((own_byte q i) - (48 : Int32))))] := (H.iadd d4_44 r33)
          exact ⟨_, _, H.retI rfl (Nat.le_refl _) (Nat.le_refl _) d4_45 r34, by rw [own_step, if_neg h1, if_pos h2, if_neg h3, if_neg h4], rfl⟩
    · have r21 : W h0 0 0 10 #[.val (.int v), .val (.long q), .second, .val (.int i), .val (.int d), .unset] [] := (H.icmpNo d4_7 r19 (flt h2).1)
      have r35 : W h0 0 0 11 #[.val (.int v), .val (.long q), .second, .val (.int i), .val (.int d), .unset] [(.int v)] := (H.iloadN d4_10 r21 rfl)
      exact ⟨_, _, H.retI rfl (Nat.le_refl _) (Nat.le_refl _) d4_11 r35, by rw [own_step, if_neg h1, if_neg h2], rfl⟩
set_option maxRecDepth 65536 in
set_option maxHeartbeats 40000000 in
theorem dv_ct {l : Launch} {Z : State} {a0 : Array Value} (hw : ∀ d ∈ tables_1, d.before a0 Z = true) (q : Int64) (d : Int32) (h0 : Heap) (n0 : Nat) :
    Ct l Z (⟨"com/example/stablemate/stablemate/layout/ByteWords", "decimalValue", "(JI)I"⟩ : MethodName) prog_39_method_5_code 11 (some .int) ({ frames := 0, cells := 0, slots := 0, locals := 0 } : Room) n0 #[(.long q), (.int d)] h0 (fun v h' => v = some (.int (own_dv q d)) ∧ h' = h0) := by
  refine Ct.of (plainFor_of_name pn_1) (fun m => ef_5 q d m) ?_
  intro W V H r0
  have r36 : W h0 0 0 10 #[.val (.long q), .second, .val (.int d), .unset, .unset, .unset, .unset, .unset, .unset, .unset, .unset] [(.int (8 : Int32)), (.int d), (.int (64 : Int32)), (.long (q ^^^ (3472328296227680304 : Int64)))] := (H.bipush (z := (8 : Int32)) d5_8 (H.iloadN d5_7 (H.bipush (z := (64 : Int32)) d5_5 (H.lxor d5_4 (H.ldcLong d5_1 (H.lloadN d5_0 r0 rfl) (hw _ (List.mem_of_getElem? (i := 19) rfl)))) rfl) rfl) rfl)
  have r37 : W h0 0 0 14 #[.val (.long q), .second, .val (.int d), .val (.long ((q ^^^ (3472328296227680304 : Int64)) <<< (((64 : Int32) - (d * (8 : Int32))) &&& 0x3f).toInt64)), .second, .unset, .unset, .unset, .unset, .unset, .unset] [] := (H.lstoreN d5_13 (H.lshl d5_12 (H.isub d5_11 (H.imul d5_10 r36))) rfl)
  have hvs : ((q ^^^ (3472328296227680304 : Int64)) <<< (((64 : Int32) - (d * (8 : Int32))) &&& 0x3f).toInt64) = own_vs q d := rfl
  rw [hvs] at r37
  have r38 : W h0 0 0 24 #[.val (.long q), .second, .val (.int d), .val (.long (own_vs q d)), .second, .unset, .unset, .unset, .unset, .unset, .unset] [(.long (-9187201950435737472 : Int64)), (.long (((own_vs q d) + (8536140394893047414 : Int64)) ||| (own_vs q d)))] := (H.ldcLong d5_21 (H.lor d5_20 (H.lloadN d5_19 (H.ladd d5_18 (H.ldcLong d5_15 (H.lloadN d5_14 r37 rfl) (hw _ (List.mem_of_getElem? (i := 20) rfl)))) rfl)) (hw _ (List.mem_of_getElem? (i := 21) rfl)))
  have r39 : W h0 0 0 27 #[.val (.long q), .second, .val (.int d), .val (.long (own_vs q d)), .second, .unset, .unset, .unset, .unset, .unset, .unset] [(.int (lcmpW ((((own_vs q d) + (8536140394893047414 : Int64)) ||| (own_vs q d)) &&& (-9187201950435737472 : Int64)) (0 : Int64)))] := (H.lcmp d5_26 (H.lconst (z := (0 : Int64)) d5_25 (H.land d5_24 r38) rfl))
  have r44 : W h0 0 0 35 #[.val (.long q), .second, .val (.int d), .val (.long (own_vs q d)), .second, .unset, .unset, .unset, .unset, .unset, .unset] [(.int (if (lcmpW ((((own_vs q d) + (8536140394893047414 : Int64)) ||| (own_vs q d)) &&& (-9187201950435737472 : Int64)) (0 : Int64)) = (0 : Int32) then (1 : Int32) else (0 : Int32)))] := by
    by_cases h1 : (lcmpW ((((own_vs q d) + (8536140394893047414 : Int64)) ||| (own_vs q d)) &&& (-9187201950435737472 : Int64)) (0 : Int64)) = (0 : Int32)
    · have r40 : W h0 0 0 30 #[.val (.long q), .second, .val (.int d), .val (.long (own_vs q d)), .second, .unset, .unset, .unset, .unset, .unset, .unset] [] := (H.ifNo d5_27 r39 (teq h1).2)
      have r42 : W h0 0 0 35 #[.val (.long q), .second, .val (.int d), .val (.long (own_vs q d)), .second, .unset, .unset, .unset, .unset, .unset, .unset] [(.int (1 : Int32))] := (H.goto (pc' := 35) d5_31 (H.iconst (z := (1 : Int32)) d5_30 r40 rfl) (by decide) (by decide))
      first | (simp only [if_pos h1]; exact r42) | exact r42 | (simp only [if_pos h1] at r42 ⊢; exact r42)
    · have r41 : W h0 0 0 34 #[.val (.long q), .second, .val (.int d), .val (.long (own_vs q d)), .second, .unset, .unset, .unset, .unset, .unset, .unset] [] := (H.ifYes (pc' := 34) d5_27 r39 (by decide) (by decide) (feq h1).2)
      have r43 : W h0 0 0 35 #[.val (.long q), .second, .val (.int d), .val (.long (own_vs q d)), .second, .unset, .unset, .unset, .unset, .unset, .unset] [(.int (0 : Int32))] := (H.iconst (z := (0 : Int32)) d5_34 r41 rfl)
      first | (simp only [if_neg h1]; exact r43) | exact r43 | (simp only [if_neg h1] at r43 ⊢; exact r43)
  have r45 : W h0 0 0 37 #[.val (.long q), .second, .val (.int d), .val (.long (own_vs q d)), .second, .val (.int (if (lcmpW ((((own_vs q d) + (8536140394893047414 : Int64)) ||| (own_vs q d)) &&& (-9187201950435737472 : Int64)) (0 : Int64)) = (0 : Int32) then (1 : Int32) else (0 : Int32))), .unset, .unset, .unset, .unset, .unset] [] := (H.istore d5_35 r44 rfl)
  have r46 : W h0 0 0 48 #[.val (.long q), .second, .val (.int d), .val (.long (own_vs q d)), .second, .val (.int (if (lcmpW ((((own_vs q d) + (8536140394893047414 : Int64)) ||| (own_vs q d)) &&& (-9187201950435737472 : Int64)) (0 : Int64)) = (0 : Int32) then (1 : Int32) else (0 : Int32))), .unset, .unset, .unset, .unset, .unset] [(.long (71777214294589695 : Int64)), (.long ((((own_vs q d) * (2561 : Int64)).toUInt64 >>> ((8 : Int32) &&& 0x3f).toInt64.toUInt64).toInt64))] := (H.ldcLong d5_45 (H.lushr d5_44 (H.bipush (z := (8 : Int32)) d5_42 (H.lmul d5_41 (H.ldcLong d5_38 (H.lloadN d5_37 r45 rfl) (hw _ (List.mem_of_getElem? (i := 22) rfl)))) rfl)) (hw _ (List.mem_of_getElem? (i := 23) rfl)))
  have r47 : W h0 0 0 51 #[.val (.long q), .second, .val (.int d), .val (.long (own_vs q d)), .second, .val (.int (if (lcmpW ((((own_vs q d) + (8536140394893047414 : Int64)) ||| (own_vs q d)) &&& (-9187201950435737472 : Int64)) (0 : Int64)) = (0 : Int32) then (1 : Int32) else (0 : Int32))), .val (.long (((((own_vs q d) * (2561 : Int64)).toUInt64 >>> ((8 : Int32) &&& 0x3f).toInt64.toUInt64).toInt64) &&& (71777214294589695 : Int64))), .second, .unset, .unset, .unset] [] := (H.lstore d5_49 (H.land d5_48 r46) rfl)
  have r48 : W h0 0 0 63 #[.val (.long q), .second, .val (.int d), .val (.long (own_vs q d)), .second, .val (.int (if (lcmpW ((((own_vs q d) + (8536140394893047414 : Int64)) ||| (own_vs q d)) &&& (-9187201950435737472 : Int64)) (0 : Int64)) = (0 : Int32) then (1 : Int32) else (0 : Int32))), .val (.long (((((own_vs q d) * (2561 : Int64)).toUInt64 >>> ((8 : Int32) &&& 0x3f).toInt64.toUInt64).toInt64) &&& (71777214294589695 : Int64))), .second, .unset, .unset, .unset] [(.long (281470681808895 : Int64)), (.long ((((((((own_vs q d) * (2561 : Int64)).toUInt64 >>> ((8 : Int32) &&& 0x3f).toInt64.toUInt64).toInt64) &&& (71777214294589695 : Int64)) * (6553601 : Int64)).toUInt64 >>> ((16 : Int32) &&& 0x3f).toInt64.toUInt64).toInt64))] := (H.ldcLong d5_60 (H.lushr d5_59 (H.bipush (z := (16 : Int32)) d5_57 (H.lmul d5_56 (H.ldcLong d5_53 (H.lload d5_51 r47 rfl) (hw _ (List.mem_of_getElem? (i := 24) rfl)))) rfl)) (hw _ (List.mem_of_getElem? (i := 25) rfl)))
  have r49 : W h0 0 0 66 #[.val (.long q), .second, .val (.int d), .val (.long (own_vs q d)), .second, .val (.int (if (lcmpW ((((own_vs q d) + (8536140394893047414 : Int64)) ||| (own_vs q d)) &&& (-9187201950435737472 : Int64)) (0 : Int64)) = (0 : Int32) then (1 : Int32) else (0 : Int32))), .val (.long (((((own_vs q d) * (2561 : Int64)).toUInt64 >>> ((8 : Int32) &&& 0x3f).toInt64.toUInt64).toInt64) &&& (71777214294589695 : Int64))), .second, .val (.long (((((((((own_vs q d) * (2561 : Int64)).toUInt64 >>> ((8 : Int32) &&& 0x3f).toInt64.toUInt64).toInt64) &&& (71777214294589695 : Int64)) * (6553601 : Int64)).toUInt64 >>> ((16 : Int32) &&& 0x3f).toInt64.toUInt64).toInt64) &&& (281470681808895 : Int64))), .second, .unset] [] := (H.lstore d5_64 (H.land d5_63 r48) rfl)
  have r50 : W h0 0 0 76 #[.val (.long q), .second, .val (.int d), .val (.long (own_vs q d)), .second, .val (.int (if (lcmpW ((((own_vs q d) + (8536140394893047414 : Int64)) ||| (own_vs q d)) &&& (-9187201950435737472 : Int64)) (0 : Int64)) = (0 : Int32) then (1 : Int32) else (0 : Int32))), .val (.long (((((own_vs q d) * (2561 : Int64)).toUInt64 >>> ((8 : Int32) &&& 0x3f).toInt64.toUInt64).toInt64) &&& (71777214294589695 : Int64))), .second, .val (.long (((((((((own_vs q d) * (2561 : Int64)).toUInt64 >>> ((8 : Int32) &&& 0x3f).toInt64.toUInt64).toInt64) &&& (71777214294589695 : Int64)) * (6553601 : Int64)).toUInt64 >>> ((16 : Int32) &&& 0x3f).toInt64.toUInt64).toInt64) &&& (281470681808895 : Int64))), .second, .unset] [(.int (((((((((((((own_vs q d) * (2561 : Int64)).toUInt64 >>> ((8 : Int32) &&& 0x3f).toInt64.toUInt64).toInt64) &&& (71777214294589695 : Int64)) * (6553601 : Int64)).toUInt64 >>> ((16 : Int32) &&& 0x3f).toInt64.toUInt64).toInt64) &&& (281470681808895 : Int64)) * (42949672960001 : Int64)).toUInt64 >>> ((32 : Int32) &&& 0x3f).toInt64.toUInt64).toInt64).toInt32))] := (H.l2i d5_75 (H.lushr d5_74 (H.bipush (z := (32 : Int32)) d5_72 (H.lmul d5_71 (H.ldcLong d5_68 (H.lload d5_66 r49 rfl) (hw _ (List.mem_of_getElem? (i := 26) rfl)))) rfl)))
  have r51 : W h0 0 0 78 #[.val (.long q), .second, .val (.int d), .val (.long (own_vs q d)), .second, .val (.int (if (lcmpW ((((own_vs q d) + (8536140394893047414 : Int64)) ||| (own_vs q d)) &&& (-9187201950435737472 : Int64)) (0 : Int64)) = (0 : Int32) then (1 : Int32) else (0 : Int32))), .val (.long (((((own_vs q d) * (2561 : Int64)).toUInt64 >>> ((8 : Int32) &&& 0x3f).toInt64.toUInt64).toInt64) &&& (71777214294589695 : Int64))), .second, .val (.long (((((((((own_vs q d) * (2561 : Int64)).toUInt64 >>> ((8 : Int32) &&& 0x3f).toInt64.toUInt64).toInt64) &&& (71777214294589695 : Int64)) * (6553601 : Int64)).toUInt64 >>> ((16 : Int32) &&& 0x3f).toInt64.toUInt64).toInt64) &&& (281470681808895 : Int64))), .second, .val (.int (((((((((((((own_vs q d) * (2561 : Int64)).toUInt64 >>> ((8 : Int32) &&& 0x3f).toInt64.toUInt64).toInt64) &&& (71777214294589695 : Int64)) * (6553601 : Int64)).toUInt64 >>> ((16 : Int32) &&& 0x3f).toInt64.toUInt64).toInt64) &&& (281470681808895 : Int64)) * (42949672960001 : Int64)).toUInt64 >>> ((32 : Int32) &&& 0x3f).toInt64.toUInt64).toInt64).toInt32))] [] := (H.istore d5_76 r50 rfl)
  have r52 : W h0 0 0 80 #[.val (.long q), .second, .val (.int d), .val (.long (own_vs q d)), .second, .val (.int (if (lcmpW ((((own_vs q d) + (8536140394893047414 : Int64)) ||| (own_vs q d)) &&& (-9187201950435737472 : Int64)) (0 : Int64)) = (0 : Int32) then (1 : Int32) else (0 : Int32))), .val (.long (((((own_vs q d) * (2561 : Int64)).toUInt64 >>> ((8 : Int32) &&& 0x3f).toInt64.toUInt64).toInt64) &&& (71777214294589695 : Int64))), .second, .val (.long (((((((((own_vs q d) * (2561 : Int64)).toUInt64 >>> ((8 : Int32) &&& 0x3f).toInt64.toUInt64).toInt64) &&& (71777214294589695 : Int64)) * (6553601 : Int64)).toUInt64 >>> ((16 : Int32) &&& 0x3f).toInt64.toUInt64).toInt64) &&& (281470681808895 : Int64))), .second, .val (.int (((((((((((((own_vs q d) * (2561 : Int64)).toUInt64 >>> ((8 : Int32) &&& 0x3f).toInt64.toUInt64).toInt64) &&& (71777214294589695 : Int64)) * (6553601 : Int64)).toUInt64 >>> ((16 : Int32) &&& 0x3f).toInt64.toUInt64).toInt64) &&& (281470681808895 : Int64)) * (42949672960001 : Int64)).toUInt64 >>> ((32 : Int32) &&& 0x3f).toInt64.toUInt64).toInt64).toInt32))] [(.int (if (lcmpW ((((own_vs q d) + (8536140394893047414 : Int64)) ||| (own_vs q d)) &&& (-9187201950435737472 : Int64)) (0 : Int64)) = (0 : Int32) then (1 : Int32) else (0 : Int32)))] := (H.iload d5_78 r51 rfl)
  by_cases h2 : (if (lcmpW ((((own_vs q d) + (8536140394893047414 : Int64)) ||| (own_vs q d)) &&& (-9187201950435737472 : Int64)) (0 : Int64)) = (0 : Int32) then (1 : Int32) else (0 : Int32)) = (0 : Int32)
  · have r53 : W h0 0 0 88 #[.val (.long q), .second, .val (.int d), .val (.long (own_vs q d)), .second, .val (.int (if (lcmpW ((((own_vs q d) + (8536140394893047414 : Int64)) ||| (own_vs q d)) &&& (-9187201950435737472 : Int64)) (0 : Int64)) = (0 : Int32) then (1 : Int32) else (0 : Int32))), .val (.long (((((own_vs q d) * (2561 : Int64)).toUInt64 >>> ((8 : Int32) &&& 0x3f).toInt64.toUInt64).toInt64) &&& (71777214294589695 : Int64))), .second, .val (.long (((((((((own_vs q d) * (2561 : Int64)).toUInt64 >>> ((8 : Int32) &&& 0x3f).toInt64.toUInt64).toInt64) &&& (71777214294589695 : Int64)) * (6553601 : Int64)).toUInt64 >>> ((16 : Int32) &&& 0x3f).toInt64.toUInt64).toInt64) &&& (281470681808895 : Int64))), .second, .val (.int (((((((((((((own_vs q d) * (2561 : Int64)).toUInt64 >>> ((8 : Int32) &&& 0x3f).toInt64.toUInt64).toInt64) &&& (71777214294589695 : Int64)) * (6553601 : Int64)).toUInt64 >>> ((16 : Int32) &&& 0x3f).toInt64.toUInt64).toInt64) &&& (281470681808895 : Int64)) * (42949672960001 : Int64)).toUInt64 >>> ((32 : Int32) &&& 0x3f).toInt64.toUInt64).toInt64).toInt32))] [] := (H.ifYes (pc' := 88) d5_80 r52 (by decide) (by decide) (teq h2).1)
    have r55 : W h0 0 0 89 #[.val (.long q), .second, .val (.int d), .val (.long (own_vs q d)), .second, .val (.int (if (lcmpW ((((own_vs q d) + (8536140394893047414 : Int64)) ||| (own_vs q d)) &&& (-9187201950435737472 : Int64)) (0 : Int64)) = (0 : Int32) then (1 : Int32) else (0 : Int32))), .val (.long (((((own_vs q d) * (2561 : Int64)).toUInt64 >>> ((8 : Int32) &&& 0x3f).toInt64.toUInt64).toInt64) &&& (71777214294589695 : Int64))), .second, .val (.long (((((((((own_vs q d) * (2561 : Int64)).toUInt64 >>> ((8 : Int32) &&& 0x3f).toInt64.toUInt64).toInt64) &&& (71777214294589695 : Int64)) * (6553601 : Int64)).toUInt64 >>> ((16 : Int32) &&& 0x3f).toInt64.toUInt64).toInt64) &&& (281470681808895 : Int64))), .second, .val (.int (((((((((((((own_vs q d) * (2561 : Int64)).toUInt64 >>> ((8 : Int32) &&& 0x3f).toInt64.toUInt64).toInt64) &&& (71777214294589695 : Int64)) * (6553601 : Int64)).toUInt64 >>> ((16 : Int32) &&& 0x3f).toInt64.toUInt64).toInt64) &&& (281470681808895 : Int64)) * (42949672960001 : Int64)).toUInt64 >>> ((32 : Int32) &&& 0x3f).toInt64.toUInt64).toInt64).toInt32))] [(.int (-1 : Int32))] := (H.iconst (z := (-1 : Int32)) d5_88 r53 rfl)
    have h3 : ¬ ((lcmpW ((((own_vs q d) + (8536140394893047414 : Int64)) ||| (own_vs q d)) &&& (-9187201950435737472 : Int64)) (0 : Int64)) = (0 : Int32)) := fun q0 => by rw [if_pos q0] at h2; exact absurd h2 (by decide)
    exact ⟨_, _, H.retI rfl (Nat.le_refl _) (Nat.le_refl _) d5_89 r55, by rw [own_dv, if_neg h3], rfl⟩
  · have r54 : W h0 0 0 83 #[.val (.long q), .second, .val (.int d), .val (.long (own_vs q d)), .second, .val (.int (if (lcmpW ((((own_vs q d) + (8536140394893047414 : Int64)) ||| (own_vs q d)) &&& (-9187201950435737472 : Int64)) (0 : Int64)) = (0 : Int32) then (1 : Int32) else (0 : Int32))), .val (.long (((((own_vs q d) * (2561 : Int64)).toUInt64 >>> ((8 : Int32) &&& 0x3f).toInt64.toUInt64).toInt64) &&& (71777214294589695 : Int64))), .second, .val (.long (((((((((own_vs q d) * (2561 : Int64)).toUInt64 >>> ((8 : Int32) &&& 0x3f).toInt64.toUInt64).toInt64) &&& (71777214294589695 : Int64)) * (6553601 : Int64)).toUInt64 >>> ((16 : Int32) &&& 0x3f).toInt64.toUInt64).toInt64) &&& (281470681808895 : Int64))), .second, .val (.int (((((((((((((own_vs q d) * (2561 : Int64)).toUInt64 >>> ((8 : Int32) &&& 0x3f).toInt64.toUInt64).toInt64) &&& (71777214294589695 : Int64)) * (6553601 : Int64)).toUInt64 >>> ((16 : Int32) &&& 0x3f).toInt64.toUInt64).toInt64) &&& (281470681808895 : Int64)) * (42949672960001 : Int64)).toUInt64 >>> ((32 : Int32) &&& 0x3f).toInt64.toUInt64).toInt64).toInt32))] [] := (H.ifNo d5_80 r52 (feq h2).1)
    have r56 : W h0 0 0 89 #[.val (.long q), .second, .val (.int d), .val (.long (own_vs q d)), .second, .val (.int (if (lcmpW ((((own_vs q d) + (8536140394893047414 : Int64)) ||| (own_vs q d)) &&& (-9187201950435737472 : Int64)) (0 : Int64)) = (0 : Int32) then (1 : Int32) else (0 : Int32))), .val (.long (((((own_vs q d) * (2561 : Int64)).toUInt64 >>> ((8 : Int32) &&& 0x3f).toInt64.toUInt64).toInt64) &&& (71777214294589695 : Int64))), .second, .val (.long (((((((((own_vs q d) * (2561 : Int64)).toUInt64 >>> ((8 : Int32) &&& 0x3f).toInt64.toUInt64).toInt64) &&& (71777214294589695 : Int64)) * (6553601 : Int64)).toUInt64 >>> ((16 : Int32) &&& 0x3f).toInt64.toUInt64).toInt64) &&& (281470681808895 : Int64))), .second, .val (.int (((((((((((((own_vs q d) * (2561 : Int64)).toUInt64 >>> ((8 : Int32) &&& 0x3f).toInt64.toUInt64).toInt64) &&& (71777214294589695 : Int64)) * (6553601 : Int64)).toUInt64 >>> ((16 : Int32) &&& 0x3f).toInt64.toUInt64).toInt64) &&& (281470681808895 : Int64)) * (42949672960001 : Int64)).toUInt64 >>> ((32 : Int32) &&& 0x3f).toInt64.toUInt64).toInt64).toInt32))] [(.int (((((((((((((own_vs q d) * (2561 : Int64)).toUInt64 >>> ((8 : Int32) &&& 0x3f).toInt64.toUInt64).toInt64) &&& (71777214294589695 : Int64)) * (6553601 : Int64)).toUInt64 >>> ((16 : Int32) &&& 0x3f).toInt64.toUInt64).toInt64) &&& (281470681808895 : Int64)) * (42949672960001 : Int64)).toUInt64 >>> ((32 : Int32) &&& 0x3f).toInt64.toUInt64).toInt64).toInt32))] := (H.goto (pc' := 89) d5_85 (H.iload d5_83 r54 rfl) (by decide) (by decide))
    have h3 : (lcmpW ((((own_vs q d) + (8536140394893047414 : Int64)) ||| (own_vs q d)) &&& (-9187201950435737472 : Int64)) (0 : Int64)) = (0 : Int32) := Decidable.byContradiction fun q0 => h2 (if_neg q0)
    exact ⟨_, _, H.retI rfl (Nat.le_refl _) (Nat.le_refl _) d5_89 r56, by rw [own_dv, if_pos h3]; rfl, rfl⟩
theorem own_d (x : Int32) : ∃ k : Fin 8, ((1 : Int32) + (x &&& (7 : Int32))) = Int32.ofNat (k.val + 1) := by
  have h1 : (x &&& (7 : Int32)).toInt = x.toInt % (2 ^ 3 : Nat) := c_mask x _ 3 (by decide) (by decide)
  have hlt : (x &&& (7 : Int32)).toInt.toNat < 8 := by omega
  refine ⟨⟨(x &&& (7 : Int32)).toInt.toNat, hlt⟩, ?_⟩
  apply Int32.toInt_inj.mp
  show _ = (Int32.ofNat ((x &&& (7 : Int32)).toInt.toNat + 1)).toInt
  have h2 := c_iadd (1 : Int32) (x &&& (7 : Int32))
  have h3 := rng32 ((1 : Int32) + (x &&& (7 : Int32)))
  rw [show (1 : Int32).toInt = 1 from rfl] at h2
  rw [own_ofNat (by omega)]
  omega
theorem own_all (w : Int64) (d : Int32) (hd : ∃ k : Fin 8, d = Int32.ofNat (k.val + 1)) : own_dv w d = (own_step (own_step (own_step (own_step (own_step (own_step (own_step (own_step (0 : Int32) w (0 : Int32) d) w (1 : Int32) d) w (2 : Int32) d) w (3 : Int32) d) w (4 : Int32) d) w (5 : Int32) d) w (6 : Int32) d) w (7 : Int32) d) := by
  obtain ⟨⟨k, hk⟩, rfl⟩ := hd
  match k, hk with
  | 0, _ => exact own_law1 w
  | 1, _ => exact own_law2 w
  | 2, _ => exact own_law3 w
  | 3, _ => exact own_law4 w
  | 4, _ => exact own_law5 w
  | 5, _ => exact own_law6 w
  | 6, _ => exact own_law7 w
  | 7, _ => exact own_law8 w
set_option maxRecDepth 65536 in
set_option maxHeartbeats 40000000 in
theorem law_ct {l : Launch} {Z : State} {a0 : Array Value} (hw : ∀ d ∈ tables_1, d.before a0 Z = true) (q : Int64) (x sel : Int32) (h0 : Heap) (n0 : Nat) (Z0 : n0 ≤ h0.size) :
    Ct l Z Jvm.Pilot.@@N@@.x code maxLocals ret room_1 n0 #[(.long q), (.int x), (.int sel)] h0 (fun v h' => v = some (.int 1)) := by
  refine Ct.of (plainFor_of_name pn_0) (fun m => ef_0 q x sel m) ?_
  intro W V H r0
  have r57 : W h0 0 0 8 #[.val (.long q), .second, .val (.int x), .val (.int sel), .val (.int ((1 : Int32) + (x &&& (7 : Int32)))), .unset, .unset, .unset] [] := (H.istore at_6 (H.iadd at_5 (H.iand at_4 (H.bipush (z := (7 : Int32)) at_2 (H.iloadN at_1 (H.iconst (z := (1 : Int32)) at_0 r0 rfl) rfl) rfl))) rfl)
  obtain ⟨d, hd⟩ : ∃ d, d = ((1 : Int32) + (x &&& (7 : Int32))) := ⟨_, rfl⟩
  rw [← hd] at r57
  have r58 : W h0 0 0 11 #[.val (.long q), .second, .val (.int x), .val (.int sel), .val (.int d), .val (.long q), .second, .unset] [] := (H.lstore at_9 (H.lloadN at_8 r57 rfl) rfl)
  have rJ : ∃ wd : Int64, W h0 0 0 167 #[.val (.long q), .second, .val (.int x), .val (.int sel), .val (.int d), .val (.long wd), .second, .unset] [] := by
    have r59 : W h0 0 0 14 #[.val (.long q), .second, .val (.int x), .val (.int sel), .val (.int d), .val (.long q), .second, .unset] [(.int (sel &&& (1 : Int32)))] := (H.iand at_13 (H.iconst (z := (1 : Int32)) at_12 (H.iloadN at_11 r58 rfl) rfl))
    by_cases h1 : (sel &&& (1 : Int32)) = (0 : Int32)
    · have r60 : W h0 0 0 167 #[.val (.long q), .second, .val (.int x), .val (.int sel), .val (.int d), .val (.long q), .second, .unset] [] := (H.ifYes (pc' := 167) at_14 r59 (by decide) (by decide) (teq h1).1)
      exact ⟨_, r60⟩
    · have r61 : W h0 0 0 17 #[.val (.long q), .second, .val (.int x), .val (.int sel), .val (.int d), .val (.long q), .second, .unset] [] := (H.ifNo at_14 r59 (feq h1).1)
      have r62 : W h0 0 0 24 #[.val (.long q), .second, .val (.int x), .val (.int sel), .val (.int d), .val (.long q), .second, .unset] [(.int d), (.int (0 : Int32)), (.long q), (.int (0 : Int32)), (.long q)] := (H.iload at_22 (H.iconst (z := (0 : Int32)) at_21 (H.lloadN at_20 (H.iconst (z := (0 : Int32)) at_19 (H.lload at_17 r61 rfl) rfl) rfl) rfl) rfl)
      have r63 : W h0 0 0 27 #[.val (.long q), .second, .val (.int x), .val (.int sel), .val (.int d), .val (.long q), .second, .unset] [(.int (own_digit q (0 : Int32) d)), (.int (0 : Int32)), (.long q)] := H.callSP (w := 3) (argsL := [(.long q), (.int (0 : Int32)), (.int d)]) (rest := [(.int (0 : Int32)), (.long q)]) (hw _ (List.mem_of_getElem? (i := 0) rfl)) (hw _ (List.mem_of_getElem? (i := 1) rfl)) (hw _ (List.mem_of_getElem? (i := 2) rfl)) (hw _ (List.mem_of_getElem? (i := 3) rfl)) (by decide) pd_1 (by decide) (by decide) (by decide) (by decide) (digitify_ct hw q (0 : Int32) d h0 n0) rfl rfl (Nat.le_of_eq rfl) rfl at_24 r62
      have r64 : W h0 0 0 30 #[.val (.long q), .second, .val (.int x), .val (.int sel), .val (.int d), .val (.long q), .second, .unset] [(.long (own_put q (0 : Int32) (own_digit q (0 : Int32) d)))] := H.callSP (w := 0) (argsL := [(.long q), (.int (0 : Int32)), (.int (own_digit q (0 : Int32) d))]) (rest := []) (hw _ (List.mem_of_getElem? (i := 8) rfl)) (hw _ (List.mem_of_getElem? (i := 9) rfl)) (hw _ (List.mem_of_getElem? (i := 2) rfl)) (hw _ (List.mem_of_getElem? (i := 10) rfl)) (by decide) pd_2 (by decide) (by decide) (by decide) (by decide) (put_ct hw q (0 : Int32) (own_digit q (0 : Int32) d) h0 n0) rfl rfl (Nat.le_of_eq rfl) rfl at_27 r63
      have r65 : W h0 0 0 32 #[.val (.long q), .second, .val (.int x), .val (.int sel), .val (.int d), .val (.long (own_put q (0 : Int32) (own_digit q (0 : Int32) d))), .second, .unset] [] := (H.lstore at_30 r64 rfl)
      generalize (own_put q (0 : Int32) (own_digit q (0 : Int32) d)) = wd0 at r65
      have r66 : W h0 0 0 39 #[.val (.long q), .second, .val (.int x), .val (.int sel), .val (.int d), .val (.long wd0), .second, .unset] [(.int d), (.int (1 : Int32)), (.long q), (.int (1 : Int32)), (.long wd0)] := (H.iload at_37 (H.iconst (z := (1 : Int32)) at_36 (H.lloadN at_35 (H.iconst (z := (1 : Int32)) at_34 (H.lload at_32 r65 rfl) rfl) rfl) rfl) rfl)
      have r67 : W h0 0 0 42 #[.val (.long q), .second, .val (.int x), .val (.int sel), .val (.int d), .val (.long wd0), .second, .unset] [(.int (own_digit q (1 : Int32) d)), (.int (1 : Int32)), (.long wd0)] := H.callSP (w := 3) (argsL := [(.long q), (.int (1 : Int32)), (.int d)]) (rest := [(.int (1 : Int32)), (.long wd0)]) (hw _ (List.mem_of_getElem? (i := 0) rfl)) (hw _ (List.mem_of_getElem? (i := 1) rfl)) (hw _ (List.mem_of_getElem? (i := 2) rfl)) (hw _ (List.mem_of_getElem? (i := 3) rfl)) (by decide) pd_1 (by decide) (by decide) (by decide) (by decide) (digitify_ct hw q (1 : Int32) d h0 n0) rfl rfl (Nat.le_of_eq rfl) rfl at_39 r66
      have r68 : W h0 0 0 45 #[.val (.long q), .second, .val (.int x), .val (.int sel), .val (.int d), .val (.long wd0), .second, .unset] [(.long (own_put wd0 (1 : Int32) (own_digit q (1 : Int32) d)))] := H.callSP (w := 0) (argsL := [(.long wd0), (.int (1 : Int32)), (.int (own_digit q (1 : Int32) d))]) (rest := []) (hw _ (List.mem_of_getElem? (i := 8) rfl)) (hw _ (List.mem_of_getElem? (i := 9) rfl)) (hw _ (List.mem_of_getElem? (i := 2) rfl)) (hw _ (List.mem_of_getElem? (i := 10) rfl)) (by decide) pd_2 (by decide) (by decide) (by decide) (by decide) (put_ct hw wd0 (1 : Int32) (own_digit q (1 : Int32) d) h0 n0) rfl rfl (Nat.le_of_eq rfl) rfl at_42 r67
      have r69 : W h0 0 0 47 #[.val (.long q), .second, .val (.int x), .val (.int sel), .val (.int d), .val (.long (own_put wd0 (1 : Int32) (own_digit q (1 : Int32) d))), .second, .unset] [] := (H.lstore at_45 r68 rfl)
      generalize (own_put wd0 (1 : Int32) (own_digit q (1 : Int32) d)) = wd1 at r69
      have r70 : W h0 0 0 54 #[.val (.long q), .second, .val (.int x), .val (.int sel), .val (.int d), .val (.long wd1), .second, .unset] [(.int d), (.int (2 : Int32)), (.long q), (.int (2 : Int32)), (.long wd1)] := (H.iload at_52 (H.iconst (z := (2 : Int32)) at_51 (H.lloadN at_50 (H.iconst (z := (2 : Int32)) at_49 (H.lload at_47 r69 rfl) rfl) rfl) rfl) rfl)
      have r71 : W h0 0 0 57 #[.val (.long q), .second, .val (.int x), .val (.int sel), .val (.int d), .val (.long wd1), .second, .unset] [(.int (own_digit q (2 : Int32) d)), (.int (2 : Int32)), (.long wd1)] := H.callSP (w := 3) (argsL := [(.long q), (.int (2 : Int32)), (.int d)]) (rest := [(.int (2 : Int32)), (.long wd1)]) (hw _ (List.mem_of_getElem? (i := 0) rfl)) (hw _ (List.mem_of_getElem? (i := 1) rfl)) (hw _ (List.mem_of_getElem? (i := 2) rfl)) (hw _ (List.mem_of_getElem? (i := 3) rfl)) (by decide) pd_1 (by decide) (by decide) (by decide) (by decide) (digitify_ct hw q (2 : Int32) d h0 n0) rfl rfl (Nat.le_of_eq rfl) rfl at_54 r70
      have r72 : W h0 0 0 60 #[.val (.long q), .second, .val (.int x), .val (.int sel), .val (.int d), .val (.long wd1), .second, .unset] [(.long (own_put wd1 (2 : Int32) (own_digit q (2 : Int32) d)))] := H.callSP (w := 0) (argsL := [(.long wd1), (.int (2 : Int32)), (.int (own_digit q (2 : Int32) d))]) (rest := []) (hw _ (List.mem_of_getElem? (i := 8) rfl)) (hw _ (List.mem_of_getElem? (i := 9) rfl)) (hw _ (List.mem_of_getElem? (i := 2) rfl)) (hw _ (List.mem_of_getElem? (i := 10) rfl)) (by decide) pd_2 (by decide) (by decide) (by decide) (by decide) (put_ct hw wd1 (2 : Int32) (own_digit q (2 : Int32) d) h0 n0) rfl rfl (Nat.le_of_eq rfl) rfl at_57 r71
      have r73 : W h0 0 0 62 #[.val (.long q), .second, .val (.int x), .val (.int sel), .val (.int d), .val (.long (own_put wd1 (2 : Int32) (own_digit q (2 : Int32) d))), .second, .unset] [] := (H.lstore at_60 r72 rfl)
      generalize (own_put wd1 (2 : Int32) (own_digit q (2 : Int32) d)) = wd2 at r73
      have r74 : W h0 0 0 69 #[.val (.long q), .second, .val (.int x), .val (.int sel), .val (.int d), .val (.long wd2), .second, .unset] [(.int d), (.int (3 : Int32)), (.long q), (.int (3 : Int32)), (.long wd2)] := (H.iload at_67 (H.iconst (z := (3 : Int32)) at_66 (H.lloadN at_65 (H.iconst (z := (3 : Int32)) at_64 (H.lload at_62 r73 rfl) rfl) rfl) rfl) rfl)
      have r75 : W h0 0 0 72 #[.val (.long q), .second, .val (.int x), .val (.int sel), .val (.int d), .val (.long wd2), .second, .unset] [(.int (own_digit q (3 : Int32) d)), (.int (3 : Int32)), (.long wd2)] := H.callSP (w := 3) (argsL := [(.long q), (.int (3 : Int32)), (.int d)]) (rest := [(.int (3 : Int32)), (.long wd2)]) (hw _ (List.mem_of_getElem? (i := 0) rfl)) (hw _ (List.mem_of_getElem? (i := 1) rfl)) (hw _ (List.mem_of_getElem? (i := 2) rfl)) (hw _ (List.mem_of_getElem? (i := 3) rfl)) (by decide) pd_1 (by decide) (by decide) (by decide) (by decide) (digitify_ct hw q (3 : Int32) d h0 n0) rfl rfl (Nat.le_of_eq rfl) rfl at_69 r74
      have r76 : W h0 0 0 75 #[.val (.long q), .second, .val (.int x), .val (.int sel), .val (.int d), .val (.long wd2), .second, .unset] [(.long (own_put wd2 (3 : Int32) (own_digit q (3 : Int32) d)))] := H.callSP (w := 0) (argsL := [(.long wd2), (.int (3 : Int32)), (.int (own_digit q (3 : Int32) d))]) (rest := []) (hw _ (List.mem_of_getElem? (i := 8) rfl)) (hw _ (List.mem_of_getElem? (i := 9) rfl)) (hw _ (List.mem_of_getElem? (i := 2) rfl)) (hw _ (List.mem_of_getElem? (i := 10) rfl)) (by decide) pd_2 (by decide) (by decide) (by decide) (by decide) (put_ct hw wd2 (3 : Int32) (own_digit q (3 : Int32) d) h0 n0) rfl rfl (Nat.le_of_eq rfl) rfl at_72 r75
      have r77 : W h0 0 0 77 #[.val (.long q), .second, .val (.int x), .val (.int sel), .val (.int d), .val (.long (own_put wd2 (3 : Int32) (own_digit q (3 : Int32) d))), .second, .unset] [] := (H.lstore at_75 r76 rfl)
      generalize (own_put wd2 (3 : Int32) (own_digit q (3 : Int32) d)) = wd3 at r77
      have r78 : W h0 0 0 84 #[.val (.long q), .second, .val (.int x), .val (.int sel), .val (.int d), .val (.long wd3), .second, .unset] [(.int d), (.int (4 : Int32)), (.long q), (.int (4 : Int32)), (.long wd3)] := (H.iload at_82 (H.iconst (z := (4 : Int32)) at_81 (H.lloadN at_80 (H.iconst (z := (4 : Int32)) at_79 (H.lload at_77 r77 rfl) rfl) rfl) rfl) rfl)
      have r79 : W h0 0 0 87 #[.val (.long q), .second, .val (.int x), .val (.int sel), .val (.int d), .val (.long wd3), .second, .unset] [(.int (own_digit q (4 : Int32) d)), (.int (4 : Int32)), (.long wd3)] := H.callSP (w := 3) (argsL := [(.long q), (.int (4 : Int32)), (.int d)]) (rest := [(.int (4 : Int32)), (.long wd3)]) (hw _ (List.mem_of_getElem? (i := 0) rfl)) (hw _ (List.mem_of_getElem? (i := 1) rfl)) (hw _ (List.mem_of_getElem? (i := 2) rfl)) (hw _ (List.mem_of_getElem? (i := 3) rfl)) (by decide) pd_1 (by decide) (by decide) (by decide) (by decide) (digitify_ct hw q (4 : Int32) d h0 n0) rfl rfl (Nat.le_of_eq rfl) rfl at_84 r78
      have r80 : W h0 0 0 90 #[.val (.long q), .second, .val (.int x), .val (.int sel), .val (.int d), .val (.long wd3), .second, .unset] [(.long (own_put wd3 (4 : Int32) (own_digit q (4 : Int32) d)))] := H.callSP (w := 0) (argsL := [(.long wd3), (.int (4 : Int32)), (.int (own_digit q (4 : Int32) d))]) (rest := []) (hw _ (List.mem_of_getElem? (i := 8) rfl)) (hw _ (List.mem_of_getElem? (i := 9) rfl)) (hw _ (List.mem_of_getElem? (i := 2) rfl)) (hw _ (List.mem_of_getElem? (i := 10) rfl)) (by decide) pd_2 (by decide) (by decide) (by decide) (by decide) (put_ct hw wd3 (4 : Int32) (own_digit q (4 : Int32) d) h0 n0) rfl rfl (Nat.le_of_eq rfl) rfl at_87 r79
      have r81 : W h0 0 0 92 #[.val (.long q), .second, .val (.int x), .val (.int sel), .val (.int d), .val (.long (own_put wd3 (4 : Int32) (own_digit q (4 : Int32) d))), .second, .unset] [] := (H.lstore at_90 r80 rfl)
      generalize (own_put wd3 (4 : Int32) (own_digit q (4 : Int32) d)) = wd4 at r81
      have r82 : W h0 0 0 99 #[.val (.long q), .second, .val (.int x), .val (.int sel), .val (.int d), .val (.long wd4), .second, .unset] [(.int d), (.int (5 : Int32)), (.long q), (.int (5 : Int32)), (.long wd4)] := (H.iload at_97 (H.iconst (z := (5 : Int32)) at_96 (H.lloadN at_95 (H.iconst (z := (5 : Int32)) at_94 (H.lload at_92 r81 rfl) rfl) rfl) rfl) rfl)
      have r83 : W h0 0 0 102 #[.val (.long q), .second, .val (.int x), .val (.int sel), .val (.int d), .val (.long wd4), .second, .unset] [(.int (own_digit q (5 : Int32) d)), (.int (5 : Int32)), (.long wd4)] := H.callSP (w := 3) (argsL := [(.long q), (.int (5 : Int32)), (.int d)]) (rest := [(.int (5 : Int32)), (.long wd4)]) (hw _ (List.mem_of_getElem? (i := 0) rfl)) (hw _ (List.mem_of_getElem? (i := 1) rfl)) (hw _ (List.mem_of_getElem? (i := 2) rfl)) (hw _ (List.mem_of_getElem? (i := 3) rfl)) (by decide) pd_1 (by decide) (by decide) (by decide) (by decide) (digitify_ct hw q (5 : Int32) d h0 n0) rfl rfl (Nat.le_of_eq rfl) rfl at_99 r82
      have r84 : W h0 0 0 105 #[.val (.long q), .second, .val (.int x), .val (.int sel), .val (.int d), .val (.long wd4), .second, .unset] [(.long (own_put wd4 (5 : Int32) (own_digit q (5 : Int32) d)))] := H.callSP (w := 0) (argsL := [(.long wd4), (.int (5 : Int32)), (.int (own_digit q (5 : Int32) d))]) (rest := []) (hw _ (List.mem_of_getElem? (i := 8) rfl)) (hw _ (List.mem_of_getElem? (i := 9) rfl)) (hw _ (List.mem_of_getElem? (i := 2) rfl)) (hw _ (List.mem_of_getElem? (i := 10) rfl)) (by decide) pd_2 (by decide) (by decide) (by decide) (by decide) (put_ct hw wd4 (5 : Int32) (own_digit q (5 : Int32) d) h0 n0) rfl rfl (Nat.le_of_eq rfl) rfl at_102 r83
      have r85 : W h0 0 0 107 #[.val (.long q), .second, .val (.int x), .val (.int sel), .val (.int d), .val (.long (own_put wd4 (5 : Int32) (own_digit q (5 : Int32) d))), .second, .unset] [] := (H.lstore at_105 r84 rfl)
      generalize (own_put wd4 (5 : Int32) (own_digit q (5 : Int32) d)) = wd5 at r85
      have r86 : W h0 0 0 116 #[.val (.long q), .second, .val (.int x), .val (.int sel), .val (.int d), .val (.long wd5), .second, .unset] [(.int d), (.int (6 : Int32)), (.long q), (.int (6 : Int32)), (.long wd5)] := (H.iload at_114 (H.bipush (z := (6 : Int32)) at_112 (H.lloadN at_111 (H.bipush (z := (6 : Int32)) at_109 (H.lload at_107 r85 rfl) rfl) rfl) rfl) rfl)
      have r87 : W h0 0 0 119 #[.val (.long q), .second, .val (.int x), .val (.int sel), .val (.int d), .val (.long wd5), .second, .unset] [(.int (own_digit q (6 : Int32) d)), (.int (6 : Int32)), (.long wd5)] := H.callSP (w := 3) (argsL := [(.long q), (.int (6 : Int32)), (.int d)]) (rest := [(.int (6 : Int32)), (.long wd5)]) (hw _ (List.mem_of_getElem? (i := 0) rfl)) (hw _ (List.mem_of_getElem? (i := 1) rfl)) (hw _ (List.mem_of_getElem? (i := 2) rfl)) (hw _ (List.mem_of_getElem? (i := 3) rfl)) (by decide) pd_1 (by decide) (by decide) (by decide) (by decide) (digitify_ct hw q (6 : Int32) d h0 n0) rfl rfl (Nat.le_of_eq rfl) rfl at_116 r86
      have r88 : W h0 0 0 122 #[.val (.long q), .second, .val (.int x), .val (.int sel), .val (.int d), .val (.long wd5), .second, .unset] [(.long (own_put wd5 (6 : Int32) (own_digit q (6 : Int32) d)))] := H.callSP (w := 0) (argsL := [(.long wd5), (.int (6 : Int32)), (.int (own_digit q (6 : Int32) d))]) (rest := []) (hw _ (List.mem_of_getElem? (i := 8) rfl)) (hw _ (List.mem_of_getElem? (i := 9) rfl)) (hw _ (List.mem_of_getElem? (i := 2) rfl)) (hw _ (List.mem_of_getElem? (i := 10) rfl)) (by decide) pd_2 (by decide) (by decide) (by decide) (by decide) (put_ct hw wd5 (6 : Int32) (own_digit q (6 : Int32) d) h0 n0) rfl rfl (Nat.le_of_eq rfl) rfl at_119 r87
      have r89 : W h0 0 0 124 #[.val (.long q), .second, .val (.int x), .val (.int sel), .val (.int d), .val (.long (own_put wd5 (6 : Int32) (own_digit q (6 : Int32) d))), .second, .unset] [] := (H.lstore at_122 r88 rfl)
      generalize (own_put wd5 (6 : Int32) (own_digit q (6 : Int32) d)) = wd6 at r89
      have r90 : W h0 0 0 133 #[.val (.long q), .second, .val (.int x), .val (.int sel), .val (.int d), .val (.long wd6), .second, .unset] [(.int d), (.int (7 : Int32)), (.long q), (.int (7 : Int32)), (.long wd6)] := (H.iload at_131 (H.bipush (z := (7 : Int32)) at_129 (H.lloadN at_128 (H.bipush (z := (7 : Int32)) at_126 (H.lload at_124 r89 rfl) rfl) rfl) rfl) rfl)
      have r91 : W h0 0 0 136 #[.val (.long q), .second, .val (.int x), .val (.int sel), .val (.int d), .val (.long wd6), .second, .unset] [(.int (own_digit q (7 : Int32) d)), (.int (7 : Int32)), (.long wd6)] := H.callSP (w := 3) (argsL := [(.long q), (.int (7 : Int32)), (.int d)]) (rest := [(.int (7 : Int32)), (.long wd6)]) (hw _ (List.mem_of_getElem? (i := 0) rfl)) (hw _ (List.mem_of_getElem? (i := 1) rfl)) (hw _ (List.mem_of_getElem? (i := 2) rfl)) (hw _ (List.mem_of_getElem? (i := 3) rfl)) (by decide) pd_1 (by decide) (by decide) (by decide) (by decide) (digitify_ct hw q (7 : Int32) d h0 n0) rfl rfl (Nat.le_of_eq rfl) rfl at_133 r90
      have r92 : W h0 0 0 139 #[.val (.long q), .second, .val (.int x), .val (.int sel), .val (.int d), .val (.long wd6), .second, .unset] [(.long (own_put wd6 (7 : Int32) (own_digit q (7 : Int32) d)))] := H.callSP (w := 0) (argsL := [(.long wd6), (.int (7 : Int32)), (.int (own_digit q (7 : Int32) d))]) (rest := []) (hw _ (List.mem_of_getElem? (i := 8) rfl)) (hw _ (List.mem_of_getElem? (i := 9) rfl)) (hw _ (List.mem_of_getElem? (i := 2) rfl)) (hw _ (List.mem_of_getElem? (i := 10) rfl)) (by decide) pd_2 (by decide) (by decide) (by decide) (by decide) (put_ct hw wd6 (7 : Int32) (own_digit q (7 : Int32) d) h0 n0) rfl rfl (Nat.le_of_eq rfl) rfl at_136 r91
      have r93 : W h0 0 0 141 #[.val (.long q), .second, .val (.int x), .val (.int sel), .val (.int d), .val (.long (own_put wd6 (7 : Int32) (own_digit q (7 : Int32) d))), .second, .unset] [] := (H.lstore at_139 r92 rfl)
      generalize (own_put wd6 (7 : Int32) (own_digit q (7 : Int32) d)) = wd7 at r93
      have r94 : W h0 0 0 144 #[.val (.long q), .second, .val (.int x), .val (.int sel), .val (.int d), .val (.long wd7), .second, .unset] [(.int (sel &&& (2 : Int32)))] := (H.iand at_143 (H.iconst (z := (2 : Int32)) at_142 (H.iloadN at_141 r93 rfl) rfl))
      by_cases h2 : (sel &&& (2 : Int32)) = (0 : Int32)
      · have r95 : W h0 0 0 167 #[.val (.long q), .second, .val (.int x), .val (.int sel), .val (.int d), .val (.long wd7), .second, .unset] [] := (H.ifYes (pc' := 167) at_144 r94 (by decide) (by decide) (teq h2).1)
        exact ⟨_, r95⟩
      · have r96 : W h0 0 0 147 #[.val (.long q), .second, .val (.int x), .val (.int sel), .val (.int d), .val (.long wd7), .second, .unset] [] := (H.ifNo at_144 r94 (feq h2).1)
        have r97 : W h0 0 0 155 #[.val (.long q), .second, .val (.int x), .val (.int sel), .val (.int d), .val (.long wd7), .second, .unset] [(.int (((sel.toUInt32 >>> ((2 : Int32) &&& 31).toUInt32).toInt32) &&& (7 : Int32))), (.long wd7)] := (H.iand at_154 (H.bipush (z := (7 : Int32)) at_152 (H.iushr at_151 (H.iconst (z := (2 : Int32)) at_150 (H.iloadN at_149 (H.lload at_147 r96 rfl) rfl) rfl)) rfl))
        have r98 : W h0 0 0 162 #[.val (.long q), .second, .val (.int x), .val (.int sel), .val (.int d), .val (.long wd7), .second, .unset] [(.int (((sel.toUInt32 >>> ((5 : Int32) &&& 31).toUInt32).toInt32) &&& (255 : Int32))), (.int (((sel.toUInt32 >>> ((2 : Int32) &&& 31).toUInt32).toInt32) &&& (7 : Int32))), (.long wd7)] := (H.iand at_161 (H.sipush (z := (255 : Int32)) at_158 (H.iushr at_157 (H.iconst (z := (5 : Int32)) at_156 (H.iloadN at_155 r97 rfl) rfl)) rfl))
        have r99 : W h0 0 0 165 #[.val (.long q), .second, .val (.int x), .val (.int sel), .val (.int d), .val (.long wd7), .second, .unset] [(.long (own_put wd7 (((sel.toUInt32 >>> ((2 : Int32) &&& 31).toUInt32).toInt32) &&& (7 : Int32)) (((sel.toUInt32 >>> ((5 : Int32) &&& 31).toUInt32).toInt32) &&& (255 : Int32))))] := H.callSP (w := 0) (argsL := [(.long wd7), (.int (((sel.toUInt32 >>> ((2 : Int32) &&& 31).toUInt32).toInt32) &&& (7 : Int32))), (.int (((sel.toUInt32 >>> ((5 : Int32) &&& 31).toUInt32).toInt32) &&& (255 : Int32)))]) (rest := []) (hw _ (List.mem_of_getElem? (i := 8) rfl)) (hw _ (List.mem_of_getElem? (i := 9) rfl)) (hw _ (List.mem_of_getElem? (i := 2) rfl)) (hw _ (List.mem_of_getElem? (i := 10) rfl)) (by decide) pd_2 (by decide) (by decide) (by decide) (by decide) (put_ct hw wd7 (((sel.toUInt32 >>> ((2 : Int32) &&& 31).toUInt32).toInt32) &&& (7 : Int32)) (((sel.toUInt32 >>> ((5 : Int32) &&& 31).toUInt32).toInt32) &&& (255 : Int32)) h0 n0) rfl rfl (Nat.le_of_eq rfl) rfl at_162 r98
        have r100 : W h0 0 0 167 #[.val (.long q), .second, .val (.int x), .val (.int sel), .val (.int d), .val (.long (own_put wd7 (((sel.toUInt32 >>> ((2 : Int32) &&& 31).toUInt32).toInt32) &&& (7 : Int32)) (((sel.toUInt32 >>> ((5 : Int32) &&& 31).toUInt32).toInt32) &&& (255 : Int32)))), .second, .unset] [] := (H.lstore at_165 r99 rfl)
        generalize (own_put wd7 (((sel.toUInt32 >>> ((2 : Int32) &&& 31).toUInt32).toInt32) &&& (7 : Int32)) (((sel.toUInt32 >>> ((5 : Int32) &&& 31).toUInt32).toInt32) &&& (255 : Int32))) = wd8 at r100
        exact ⟨_, r100⟩
  obtain ⟨wd, rJ⟩ := rJ
  have r101 : W h0 0 0 170 #[.val (.long q), .second, .val (.int x), .val (.int sel), .val (.int d), .val (.long wd), .second, .val (.int (0 : Int32))] [] := (H.istore at_168 (H.iconst (z := (0 : Int32)) at_167 rJ rfl) rfl)
  have r102 : W h0 0 0 177 #[.val (.long q), .second, .val (.int x), .val (.int sel), .val (.int d), .val (.long wd), .second, .val (.int (0 : Int32))] [(.int d), (.int (0 : Int32)), (.long wd), (.int (0 : Int32))] := (H.iload at_175 (H.iconst (z := (0 : Int32)) at_174 (H.lload at_172 (H.iload at_170 r101 rfl) rfl) rfl) rfl)
  have r103 : W h0 0 0 180 #[.val (.long q), .second, .val (.int x), .val (.int sel), .val (.int d), .val (.long wd), .second, .val (.int (0 : Int32))] [(.int (own_step (0 : Int32) wd (0 : Int32) d))] := H.callSP (w := 0) (argsL := [(.int (0 : Int32)), (.long wd), (.int (0 : Int32)), (.int d)]) (rest := []) (hw _ (List.mem_of_getElem? (i := 12) rfl)) (hw _ (List.mem_of_getElem? (i := 13) rfl)) (hw _ (List.mem_of_getElem? (i := 2) rfl)) (hw _ (List.mem_of_getElem? (i := 14) rfl)) (by decide) pd_3 (by decide) (by decide) (by decide) (by decide) (step_ct hw (0 : Int32) wd (0 : Int32) d h0 n0) rfl rfl (Nat.le_of_eq rfl) rfl at_177 r102
  have r104 : W h0 0 0 182 #[.val (.long q), .second, .val (.int x), .val (.int sel), .val (.int d), .val (.long wd), .second, .val (.int (own_step (0 : Int32) wd (0 : Int32) d))] [] := (H.istore at_180 r103 rfl)
  have r105 : W h0 0 0 189 #[.val (.long q), .second, .val (.int x), .val (.int sel), .val (.int d), .val (.long wd), .second, .val (.int (own_step (0 : Int32) wd (0 : Int32) d))] [(.int d), (.int (1 : Int32)), (.long wd), (.int (own_step (0 : Int32) wd (0 : Int32) d))] := (H.iload at_187 (H.iconst (z := (1 : Int32)) at_186 (H.lload at_184 (H.iload at_182 r104 rfl) rfl) rfl) rfl)
  have r106 : W h0 0 0 192 #[.val (.long q), .second, .val (.int x), .val (.int sel), .val (.int d), .val (.long wd), .second, .val (.int (own_step (0 : Int32) wd (0 : Int32) d))] [(.int (own_step (own_step (0 : Int32) wd (0 : Int32) d) wd (1 : Int32) d))] := H.callSP (w := 0) (argsL := [(.int (own_step (0 : Int32) wd (0 : Int32) d)), (.long wd), (.int (1 : Int32)), (.int d)]) (rest := []) (hw _ (List.mem_of_getElem? (i := 12) rfl)) (hw _ (List.mem_of_getElem? (i := 13) rfl)) (hw _ (List.mem_of_getElem? (i := 2) rfl)) (hw _ (List.mem_of_getElem? (i := 14) rfl)) (by decide) pd_3 (by decide) (by decide) (by decide) (by decide) (step_ct hw (own_step (0 : Int32) wd (0 : Int32) d) wd (1 : Int32) d h0 n0) rfl rfl (Nat.le_of_eq rfl) rfl at_189 r105
  have r107 : W h0 0 0 194 #[.val (.long q), .second, .val (.int x), .val (.int sel), .val (.int d), .val (.long wd), .second, .val (.int (own_step (own_step (0 : Int32) wd (0 : Int32) d) wd (1 : Int32) d))] [] := (H.istore at_192 r106 rfl)
  have r108 : W h0 0 0 201 #[.val (.long q), .second, .val (.int x), .val (.int sel), .val (.int d), .val (.long wd), .second, .val (.int (own_step (own_step (0 : Int32) wd (0 : Int32) d) wd (1 : Int32) d))] [(.int d), (.int (2 : Int32)), (.long wd), (.int (own_step (own_step (0 : Int32) wd (0 : Int32) d) wd (1 : Int32) d))] := (H.iload at_199 (H.iconst (z := (2 : Int32)) at_198 (H.lload at_196 (H.iload at_194 r107 rfl) rfl) rfl) rfl)
  have r109 : W h0 0 0 204 #[.val (.long q), .second, .val (.int x), .val (.int sel), .val (.int d), .val (.long wd), .second, .val (.int (own_step (own_step (0 : Int32) wd (0 : Int32) d) wd (1 : Int32) d))] [(.int (own_step (own_step (own_step (0 : Int32) wd (0 : Int32) d) wd (1 : Int32) d) wd (2 : Int32) d))] := H.callSP (w := 0) (argsL := [(.int (own_step (own_step (0 : Int32) wd (0 : Int32) d) wd (1 : Int32) d)), (.long wd), (.int (2 : Int32)), (.int d)]) (rest := []) (hw _ (List.mem_of_getElem? (i := 12) rfl)) (hw _ (List.mem_of_getElem? (i := 13) rfl)) (hw _ (List.mem_of_getElem? (i := 2) rfl)) (hw _ (List.mem_of_getElem? (i := 14) rfl)) (by decide) pd_3 (by decide) (by decide) (by decide) (by decide) (step_ct hw (own_step (own_step (0 : Int32) wd (0 : Int32) d) wd (1 : Int32) d) wd (2 : Int32) d h0 n0) rfl rfl (Nat.le_of_eq rfl) rfl at_201 r108
  have r110 : W h0 0 0 206 #[.val (.long q), .second, .val (.int x), .val (.int sel), .val (.int d), .val (.long wd), .second, .val (.int (own_step (own_step (own_step (0 : Int32) wd (0 : Int32) d) wd (1 : Int32) d) wd (2 : Int32) d))] [] := (H.istore at_204 r109 rfl)
  have r111 : W h0 0 0 213 #[.val (.long q), .second, .val (.int x), .val (.int sel), .val (.int d), .val (.long wd), .second, .val (.int (own_step (own_step (own_step (0 : Int32) wd (0 : Int32) d) wd (1 : Int32) d) wd (2 : Int32) d))] [(.int d), (.int (3 : Int32)), (.long wd), (.int (own_step (own_step (own_step (0 : Int32) wd (0 : Int32) d) wd (1 : Int32) d) wd (2 : Int32) d))] := (H.iload at_211 (H.iconst (z := (3 : Int32)) at_210 (H.lload at_208 (H.iload at_206 r110 rfl) rfl) rfl) rfl)
  have r112 : W h0 0 0 216 #[.val (.long q), .second, .val (.int x), .val (.int sel), .val (.int d), .val (.long wd), .second, .val (.int (own_step (own_step (own_step (0 : Int32) wd (0 : Int32) d) wd (1 : Int32) d) wd (2 : Int32) d))] [(.int (own_step (own_step (own_step (own_step (0 : Int32) wd (0 : Int32) d) wd (1 : Int32) d) wd (2 : Int32) d) wd (3 : Int32) d))] := H.callSP (w := 0) (argsL := [(.int (own_step (own_step (own_step (0 : Int32) wd (0 : Int32) d) wd (1 : Int32) d) wd (2 : Int32) d)), (.long wd), (.int (3 : Int32)), (.int d)]) (rest := []) (hw _ (List.mem_of_getElem? (i := 12) rfl)) (hw _ (List.mem_of_getElem? (i := 13) rfl)) (hw _ (List.mem_of_getElem? (i := 2) rfl)) (hw _ (List.mem_of_getElem? (i := 14) rfl)) (by decide) pd_3 (by decide) (by decide) (by decide) (by decide) (step_ct hw (own_step (own_step (own_step (0 : Int32) wd (0 : Int32) d) wd (1 : Int32) d) wd (2 : Int32) d) wd (3 : Int32) d h0 n0) rfl rfl (Nat.le_of_eq rfl) rfl at_213 r111
  have r113 : W h0 0 0 218 #[.val (.long q), .second, .val (.int x), .val (.int sel), .val (.int d), .val (.long wd), .second, .val (.int (own_step (own_step (own_step (own_step (0 : Int32) wd (0 : Int32) d) wd (1 : Int32) d) wd (2 : Int32) d) wd (3 : Int32) d))] [] := (H.istore at_216 r112 rfl)
  have r114 : W h0 0 0 225 #[.val (.long q), .second, .val (.int x), .val (.int sel), .val (.int d), .val (.long wd), .second, .val (.int (own_step (own_step (own_step (own_step (0 : Int32) wd (0 : Int32) d) wd (1 : Int32) d) wd (2 : Int32) d) wd (3 : Int32) d))] [(.int d), (.int (4 : Int32)), (.long wd), (.int (own_step (own_step (own_step (own_step (0 : Int32) wd (0 : Int32) d) wd (1 : Int32) d) wd (2 : Int32) d) wd (3 : Int32) d))] := (H.iload at_223 (H.iconst (z := (4 : Int32)) at_222 (H.lload at_220 (H.iload at_218 r113 rfl) rfl) rfl) rfl)
  have r115 : W h0 0 0 228 #[.val (.long q), .second, .val (.int x), .val (.int sel), .val (.int d), .val (.long wd), .second, .val (.int (own_step (own_step (own_step (own_step (0 : Int32) wd (0 : Int32) d) wd (1 : Int32) d) wd (2 : Int32) d) wd (3 : Int32) d))] [(.int (own_step (own_step (own_step (own_step (own_step (0 : Int32) wd (0 : Int32) d) wd (1 : Int32) d) wd (2 : Int32) d) wd (3 : Int32) d) wd (4 : Int32) d))] := H.callSP (w := 0) (argsL := [(.int (own_step (own_step (own_step (own_step (0 : Int32) wd (0 : Int32) d) wd (1 : Int32) d) wd (2 : Int32) d) wd (3 : Int32) d)), (.long wd), (.int (4 : Int32)), (.int d)]) (rest := []) (hw _ (List.mem_of_getElem? (i := 12) rfl)) (hw _ (List.mem_of_getElem? (i := 13) rfl)) (hw _ (List.mem_of_getElem? (i := 2) rfl)) (hw _ (List.mem_of_getElem? (i := 14) rfl)) (by decide) pd_3 (by decide) (by decide) (by decide) (by decide) (step_ct hw (own_step (own_step (own_step (own_step (0 : Int32) wd (0 : Int32) d) wd (1 : Int32) d) wd (2 : Int32) d) wd (3 : Int32) d) wd (4 : Int32) d h0 n0) rfl rfl (Nat.le_of_eq rfl) rfl at_225 r114
  have r116 : W h0 0 0 230 #[.val (.long q), .second, .val (.int x), .val (.int sel), .val (.int d), .val (.long wd), .second, .val (.int (own_step (own_step (own_step (own_step (own_step (0 : Int32) wd (0 : Int32) d) wd (1 : Int32) d) wd (2 : Int32) d) wd (3 : Int32) d) wd (4 : Int32) d))] [] := (H.istore at_228 r115 rfl)
  have r117 : W h0 0 0 237 #[.val (.long q), .second, .val (.int x), .val (.int sel), .val (.int d), .val (.long wd), .second, .val (.int (own_step (own_step (own_step (own_step (own_step (0 : Int32) wd (0 : Int32) d) wd (1 : Int32) d) wd (2 : Int32) d) wd (3 : Int32) d) wd (4 : Int32) d))] [(.int d), (.int (5 : Int32)), (.long wd), (.int (own_step (own_step (own_step (own_step (own_step (0 : Int32) wd (0 : Int32) d) wd (1 : Int32) d) wd (2 : Int32) d) wd (3 : Int32) d) wd (4 : Int32) d))] := (H.iload at_235 (H.iconst (z := (5 : Int32)) at_234 (H.lload at_232 (H.iload at_230 r116 rfl) rfl) rfl) rfl)
  have r118 : W h0 0 0 240 #[.val (.long q), .second, .val (.int x), .val (.int sel), .val (.int d), .val (.long wd), .second, .val (.int (own_step (own_step (own_step (own_step (own_step (0 : Int32) wd (0 : Int32) d) wd (1 : Int32) d) wd (2 : Int32) d) wd (3 : Int32) d) wd (4 : Int32) d))] [(.int (own_step (own_step (own_step (own_step (own_step (own_step (0 : Int32) wd (0 : Int32) d) wd (1 : Int32) d) wd (2 : Int32) d) wd (3 : Int32) d) wd (4 : Int32) d) wd (5 : Int32) d))] := H.callSP (w := 0) (argsL := [(.int (own_step (own_step (own_step (own_step (own_step (0 : Int32) wd (0 : Int32) d) wd (1 : Int32) d) wd (2 : Int32) d) wd (3 : Int32) d) wd (4 : Int32) d)), (.long wd), (.int (5 : Int32)), (.int d)]) (rest := []) (hw _ (List.mem_of_getElem? (i := 12) rfl)) (hw _ (List.mem_of_getElem? (i := 13) rfl)) (hw _ (List.mem_of_getElem? (i := 2) rfl)) (hw _ (List.mem_of_getElem? (i := 14) rfl)) (by decide) pd_3 (by decide) (by decide) (by decide) (by decide) (step_ct hw (own_step (own_step (own_step (own_step (own_step (0 : Int32) wd (0 : Int32) d) wd (1 : Int32) d) wd (2 : Int32) d) wd (3 : Int32) d) wd (4 : Int32) d) wd (5 : Int32) d h0 n0) rfl rfl (Nat.le_of_eq rfl) rfl at_237 r117
  have r119 : W h0 0 0 242 #[.val (.long q), .second, .val (.int x), .val (.int sel), .val (.int d), .val (.long wd), .second, .val (.int (own_step (own_step (own_step (own_step (own_step (own_step (0 : Int32) wd (0 : Int32) d) wd (1 : Int32) d) wd (2 : Int32) d) wd (3 : Int32) d) wd (4 : Int32) d) wd (5 : Int32) d))] [] := (H.istore at_240 r118 rfl)
  have r120 : W h0 0 0 250 #[.val (.long q), .second, .val (.int x), .val (.int sel), .val (.int d), .val (.long wd), .second, .val (.int (own_step (own_step (own_step (own_step (own_step (own_step (0 : Int32) wd (0 : Int32) d) wd (1 : Int32) d) wd (2 : Int32) d) wd (3 : Int32) d) wd (4 : Int32) d) wd (5 : Int32) d))] [(.int d), (.int (6 : Int32)), (.long wd), (.int (own_step (own_step (own_step (own_step (own_step (own_step (0 : Int32) wd (0 : Int32) d) wd (1 : Int32) d) wd (2 : Int32) d) wd (3 : Int32) d) wd (4 : Int32) d) wd (5 : Int32) d))] := (H.iload at_248 (H.bipush (z := (6 : Int32)) at_246 (H.lload at_244 (H.iload at_242 r119 rfl) rfl) rfl) rfl)
  have r121 : W h0 0 0 253 #[.val (.long q), .second, .val (.int x), .val (.int sel), .val (.int d), .val (.long wd), .second, .val (.int (own_step (own_step (own_step (own_step (own_step (own_step (0 : Int32) wd (0 : Int32) d) wd (1 : Int32) d) wd (2 : Int32) d) wd (3 : Int32) d) wd (4 : Int32) d) wd (5 : Int32) d))] [(.int (own_step (own_step (own_step (own_step (own_step (own_step (own_step (0 : Int32) wd (0 : Int32) d) wd (1 : Int32) d) wd (2 : Int32) d) wd (3 : Int32) d) wd (4 : Int32) d) wd (5 : Int32) d) wd (6 : Int32) d))] := H.callSP (w := 0) (argsL := [(.int (own_step (own_step (own_step (own_step (own_step (own_step (0 : Int32) wd (0 : Int32) d) wd (1 : Int32) d) wd (2 : Int32) d) wd (3 : Int32) d) wd (4 : Int32) d) wd (5 : Int32) d)), (.long wd), (.int (6 : Int32)), (.int d)]) (rest := []) (hw _ (List.mem_of_getElem? (i := 12) rfl)) (hw _ (List.mem_of_getElem? (i := 13) rfl)) (hw _ (List.mem_of_getElem? (i := 2) rfl)) (hw _ (List.mem_of_getElem? (i := 14) rfl)) (by decide) pd_3 (by decide) (by decide) (by decide) (by decide) (step_ct hw (own_step (own_step (own_step (own_step (own_step (own_step (0 : Int32) wd (0 : Int32) d) wd (1 : Int32) d) wd (2 : Int32) d) wd (3 : Int32) d) wd (4 : Int32) d) wd (5 : Int32) d) wd (6 : Int32) d h0 n0) rfl rfl (Nat.le_of_eq rfl) rfl at_250 r120
  have r122 : W h0 0 0 255 #[.val (.long q), .second, .val (.int x), .val (.int sel), .val (.int d), .val (.long wd), .second, .val (.int (own_step (own_step (own_step (own_step (own_step (own_step (own_step (0 : Int32) wd (0 : Int32) d) wd (1 : Int32) d) wd (2 : Int32) d) wd (3 : Int32) d) wd (4 : Int32) d) wd (5 : Int32) d) wd (6 : Int32) d))] [] := (H.istore at_253 r121 rfl)
  have r123 : W h0 0 0 263 #[.val (.long q), .second, .val (.int x), .val (.int sel), .val (.int d), .val (.long wd), .second, .val (.int (own_step (own_step (own_step (own_step (own_step (own_step (own_step (0 : Int32) wd (0 : Int32) d) wd (1 : Int32) d) wd (2 : Int32) d) wd (3 : Int32) d) wd (4 : Int32) d) wd (5 : Int32) d) wd (6 : Int32) d))] [(.int d), (.int (7 : Int32)), (.long wd), (.int (own_step (own_step (own_step (own_step (own_step (own_step (own_step (0 : Int32) wd (0 : Int32) d) wd (1 : Int32) d) wd (2 : Int32) d) wd (3 : Int32) d) wd (4 : Int32) d) wd (5 : Int32) d) wd (6 : Int32) d))] := (H.iload at_261 (H.bipush (z := (7 : Int32)) at_259 (H.lload at_257 (H.iload at_255 r122 rfl) rfl) rfl) rfl)
  have r124 : W h0 0 0 266 #[.val (.long q), .second, .val (.int x), .val (.int sel), .val (.int d), .val (.long wd), .second, .val (.int (own_step (own_step (own_step (own_step (own_step (own_step (own_step (0 : Int32) wd (0 : Int32) d) wd (1 : Int32) d) wd (2 : Int32) d) wd (3 : Int32) d) wd (4 : Int32) d) wd (5 : Int32) d) wd (6 : Int32) d))] [(.int (own_step (own_step (own_step (own_step (own_step (own_step (own_step (own_step (0 : Int32) wd (0 : Int32) d) wd (1 : Int32) d) wd (2 : Int32) d) wd (3 : Int32) d) wd (4 : Int32) d) wd (5 : Int32) d) wd (6 : Int32) d) wd (7 : Int32) d))] := H.callSP (w := 0) (argsL := [(.int (own_step (own_step (own_step (own_step (own_step (own_step (own_step (0 : Int32) wd (0 : Int32) d) wd (1 : Int32) d) wd (2 : Int32) d) wd (3 : Int32) d) wd (4 : Int32) d) wd (5 : Int32) d) wd (6 : Int32) d)), (.long wd), (.int (7 : Int32)), (.int d)]) (rest := []) (hw _ (List.mem_of_getElem? (i := 12) rfl)) (hw _ (List.mem_of_getElem? (i := 13) rfl)) (hw _ (List.mem_of_getElem? (i := 2) rfl)) (hw _ (List.mem_of_getElem? (i := 14) rfl)) (by decide) pd_3 (by decide) (by decide) (by decide) (by decide) (step_ct hw (own_step (own_step (own_step (own_step (own_step (own_step (own_step (0 : Int32) wd (0 : Int32) d) wd (1 : Int32) d) wd (2 : Int32) d) wd (3 : Int32) d) wd (4 : Int32) d) wd (5 : Int32) d) wd (6 : Int32) d) wd (7 : Int32) d h0 n0) rfl rfl (Nat.le_of_eq rfl) rfl at_263 r123
  have r125 : W h0 0 0 268 #[.val (.long q), .second, .val (.int x), .val (.int sel), .val (.int d), .val (.long wd), .second, .val (.int (own_step (own_step (own_step (own_step (own_step (own_step (own_step (own_step (0 : Int32) wd (0 : Int32) d) wd (1 : Int32) d) wd (2 : Int32) d) wd (3 : Int32) d) wd (4 : Int32) d) wd (5 : Int32) d) wd (6 : Int32) d) wd (7 : Int32) d))] [] := (H.istore at_266 r124 rfl)
  have r126 : W h0 0 0 272 #[.val (.long q), .second, .val (.int x), .val (.int sel), .val (.int d), .val (.long wd), .second, .val (.int (own_step (own_step (own_step (own_step (own_step (own_step (own_step (own_step (0 : Int32) wd (0 : Int32) d) wd (1 : Int32) d) wd (2 : Int32) d) wd (3 : Int32) d) wd (4 : Int32) d) wd (5 : Int32) d) wd (6 : Int32) d) wd (7 : Int32) d))] [(.int d), (.long wd)] := (H.iload at_270 (H.lload at_268 r125 rfl) rfl)
  have r127 : W h0 0 0 275 #[.val (.long q), .second, .val (.int x), .val (.int sel), .val (.int d), .val (.long wd), .second, .val (.int (own_step (own_step (own_step (own_step (own_step (own_step (own_step (own_step (0 : Int32) wd (0 : Int32) d) wd (1 : Int32) d) wd (2 : Int32) d) wd (3 : Int32) d) wd (4 : Int32) d) wd (5 : Int32) d) wd (6 : Int32) d) wd (7 : Int32) d))] [(.int (own_dv wd d))] := H.callSP (w := 0) (argsL := [(.long wd), (.int d)]) (rest := []) (hw _ (List.mem_of_getElem? (i := 15) rfl)) (hw _ (List.mem_of_getElem? (i := 16) rfl)) (hw _ (List.mem_of_getElem? (i := 17) rfl)) (hw _ (List.mem_of_getElem? (i := 18) rfl)) (by decide) pd_0 (by decide) (by decide) (by decide) (by decide) (dv_ct hw wd d h0 n0) rfl rfl (Nat.le_of_eq rfl) rfl at_272 r126
  have r128 : W h0 0 0 280 #[.val (.long q), .second, .val (.int x), .val (.int sel), .val (.int d), .val (.long wd), .second, .val (.int (own_step (own_step (own_step (own_step (own_step (own_step (own_step (own_step (0 : Int32) wd (0 : Int32) d) wd (1 : Int32) d) wd (2 : Int32) d) wd (3 : Int32) d) wd (4 : Int32) d) wd (5 : Int32) d) wd (6 : Int32) d) wd (7 : Int32) d))] [] := (H.icmpNo at_277 (H.iload at_275 r127 rfl) (teq (own_all wd d (hd ▸ own_d x))).2)
  have r129 : W h0 0 0 285 #[.val (.long q), .second, .val (.int x), .val (.int sel), .val (.int d), .val (.long wd), .second, .val (.int (own_step (own_step (own_step (own_step (own_step (own_step (own_step (own_step (0 : Int32) wd (0 : Int32) d) wd (1 : Int32) d) wd (2 : Int32) d) wd (3 : Int32) d) wd (4 : Int32) d) wd (5 : Int32) d) wd (6 : Int32) d) wd (7 : Int32) d))] [(.int (1 : Int32))] := (H.goto (pc' := 285) at_281 (H.iconst (z := (1 : Int32)) at_280 r128 rfl) (by decide) (by decide))
  exact ⟨_, _, H.retZ rfl rfl (Nat.le_refl _) (Nat.le_refl _) at_285 r129, rfl⟩
set_option maxRecDepth 65536 in
set_option maxHeartbeats 40000000 in
theorem comes_1 {Post : Tables → Env → Array Value → State → Outcome → State → Prop} (hpost : ∀ tb e args s v u, (limb_1_1.after args s (.returned v) u = true ∧ limb_1_2.after args s (.returned v) u = true ∧ True) → FrameEnd s (.returned v) u (Jvm.fieldLocs frame_1_writes args s ++ Jvm.arrayLocs frame_1_arrays args s ++ Jvm.staticLocs frame_1_statics s) 0 0 → Post tb e args s (.returned v) u) :
    ArmFor flags0 classFile x code maxLocals ret World_1 tables_1 room_1 Calls_1 rest_1 Pre_1 Post := by
  intro l hfl _ _ p e ha hc hk s m args below hf hA hF happ hP
  obtain ⟨hcalls, hrest, hpre⟩ := hP
  obtain ⟨-, -, -, hnamed, -, -, -, hat⟩ := (Spec.applies_iff hf).mp happ
  obtain ⟨hg, hn⟩ := and_e (Cond.before_iff.mp (show (Jvm.Cond.and given_1 narrow_1).before args s = true from hpre))
  obtain ⟨hcnt, hg0⟩ := and_e hg
  obtain ⟨ha0, hg1⟩ := and_e hg0
  obtain ⟨ha1, hg2⟩ := and_e hg1
  obtain ⟨w0, w1, w2, rfl⟩ : ∃ w0 w1 w2 : Value, args = #[w0, w1, w2] := by
    have hs : args.size = 3 := by simpa [Cond.value, given_1] using hcnt
    obtain ⟨L⟩ := args
    match L, hs with
    | [w0, w1, w2], _ => exact ⟨w0, w1, w2, rfl⟩
  have hw := fun d (hd : d ∈ tables_1) => atoms_spec (ws := Jvm.Cond.code x code maxLocals ret :: tables_1) hat d (List.mem_cons_of_mem _ hd)
  have hfit : Fit s := fun {y c} hc i hi => by
    obtain ⟨ha, rfl⟩ := Array.getElem?_eq_some_iff.mp hc
    have q := List.all_eq_true.mp ((Array.all_eq_true_iff_forall_mem.mp hF) _ (Array.getElem_mem ha)) i (List.mem_range.mpr hi)
    simpa [Array.getElem?_eq_getElem hi] using q
  obtain ⟨i0, ei0⟩ := isL_v ha0
  obtain rfl : w0 = (.long i0) := Option.some.inj ei0
  obtain ⟨i1, ei1⟩ := is_v ha1
  obtain rfl : w1 = (.int i1) := Option.some.inj ei1
  obtain ⟨i2, ei2⟩ := is_v hg2
  obtain rfl : w2 = (.int i2) := Option.some.inj ei2
  obtain ⟨n, o, h1, h2, h3, _, L, rfl, ⟨rfl, N⟩, hq⟩ := law_ct (l := l) hw i0 i1 i2  s.heap s.heap.size (Nat.le_refl _) tables_1 p e ha hc hk s m _ below hf ((Spec.applies_iff_loose hf).mp happ).1 ⟨rfl, State.Warmed39.refl s, rfl⟩ trivial
  refine ⟨n, _, h1, h2, h3, hpost _ _ _ _ _ _ ⟨Cond.after_iff.mpr rfl, Cond.after_iff.mpr (eq_i res_at (Term.int_eval (1)) rfl), trivial⟩ ⟨hq.1, hq.2.1, (hq.2.2.sift fun y hy => Or.inr (N y hy)).mono (by decide) (by decide)⟩⟩
theorem main_1_1 : Claimed_1_1 := comes_1 fun _ _ _ _ _ _ h hF => ⟨h.1, hF⟩
theorem main_1_2 : Claimed_1_2 := comes_1 fun _ _ _ _ _ _ h hF => ⟨h.2.1, hF⟩
end Jvm.Pilot.@@N@@
namespace Jvm.Pilot.@@N@@
open Jvm Jvm.ClassFile Sem Op Lib Jvm.Free Jvm.Stand Jvm.Pilot.@@N@@.Jvm.D
/-! MADE BY PROGRAM (witnessworld.py) out of the Statement's table words and the real class files: 9 classes; the members and pool entries that the words name. The judged class is class 1, her method 1. -/
namespace start1
open Jvm.ClassFile
def u (s : String) : CpInfo := .utf8 (stringToUtf16 s)
/-- a pool by its gaps: so many unusable entries, then the entry; so many at the end -/
def gap : Nat → List CpInfo → List CpInfo
  | 0, r => r
  | n + 1, r => .unusable :: gap n r
def poolList (es : List (Nat × CpInfo)) (last : Nat) : List CpInfo := es.foldr (fun e r => gap e.1 (e.2 :: r)) (gap last [])
def pool (es : List (Nat × CpInfo)) (last : Nat) : Array CpInfo := ⟨poolList es last⟩
def fileOf (pool : Array CpInfo) (this : Nat) (attrs : Array Attribute := #[]) (ms : Array MethodInfo := #[]) (fl : Nat := 33) (sup : Nat := 0) (ifs : Array Nat := #[]) (fds : Array FieldInfo := #[]) : ClassFile where
  minorVersion := 0
  majorVersion := 65
  constantPool := pool
  accessFlags := fl
  thisClass := this
  superClass := sup
  interfaces := ifs
  fields := fds
  methods := ms
  attributes := attrs
def plain (name : String) (sup : Option ClassId) : Class where
  name := name
  kind := .ordinary
  loader := none
  accessFlags := 33
  super := sup
  interfaces := #[]
  cf := none
  fields := #[]
  methods := #[]
  instanceTypes := #[]
  staticTypes := #[]
  resolved := #[]
  callSites := []
  init := .initialized
  statics := none
  mirror := none

def pool0 : Array CpInfo := pool [(5, u "<init>"), (0, u "()V"), (1, .class_ 10), (1, u "java/lang/Object")] 113

def k0m0 : Method := { name := "<init>", desc := "()V", sig := { parameters := [], returnType := none }, accessFlags := 1, code := none }
/-- java/lang/Object -/
def k0 : Class := { plain "java/lang/Object" none with
  accessFlags := 33
  interfaces := #[]
  cf := some (fileOf pool0 8 #[] #[{ accessFlags := 1, nameIndex := 5, descriptorIndex := 6, attributes := #[] }] 33 0 #[] #[])
  fields := #[]
  methods := #[k0m0]
  instanceTypes := #[]
  staticTypes := #[]
  resolved := Array.replicate 124 none
  statics := none }

def pool1 : Array CpInfo := pool [(2, .class_ 4), (1, u "java/lang/Object"), (0, u "<init>"), (0, u "()V"), (0, .methodref 8 9), (0, .class_ 10), (0, .nameAndType 11 12), (0, u "com/example/stablemate/stablemate/layout/ByteWordsDecimalValuePinLaw"), (0, u "digitify"), (0, u "(JII)I"), (0, .methodref 8 14), (0, .nameAndType 15 16), (0, u "put"), (0, u "(JII)J"), (0, .methodref 8 18), (0, .nameAndType 19 20), (0, u "step"), (0, u "(IJII)I"), (0, .methodref 22 23), (0, .class_ 24), (0, .nameAndType 25 26), (0, u "com/example/stablemate/stablemate/layout/ByteWords"), (0, u "decimalValue"), (0, u "(JI)I"), (0, .long 255), (1, .methodref 8 30), (0, .nameAndType 31 26), (0, u "byteAt"), (0, .long 18446744073709551615), (3, u "law"), (0, u "(JII)Z")] 3

def k1m0 : Method := { name := "<init>", desc := "()V", sig := { parameters := [], returnType := none }, accessFlags := 2, code := none }
def k1c1 : Code := { maxStack := 7, maxLocals := 8, code := code, exceptionTable := #[], attributes := #[] }
def k1m1 : Method := { name := "law", desc := "(JII)Z", sig := { parameters := [.long, .int, .int], returnType := some .boolean }, accessFlags := 9, code := some k1c1 }
def k1c2 : Code := { maxStack := 4, maxLocals := 3, code := method_3_code, exceptionTable := #[], attributes := #[] }
def k1m2 : Method := { name := "byteAt", desc := "(JI)I", sig := { parameters := [.long, .int], returnType := some .int }, accessFlags := 10, code := some k1c2 }
def k1c3 : Code := { maxStack := 3, maxLocals := 5, code := method_4_code, exceptionTable := #[], attributes := #[] }
def k1m3 : Method := { name := "digitify", desc := "(JII)I", sig := { parameters := [.long, .int, .int], returnType := some .int }, accessFlags := 10, code := some k1c3 }
def k1c4 : Code := { maxStack := 6, maxLocals := 5, code := method_5_code, exceptionTable := #[], attributes := #[] }
def k1m4 : Method := { name := "put", desc := "(JII)J", sig := { parameters := [.long, .int, .int], returnType := some .long }, accessFlags := 10, code := some k1c4 }
def k1c5 : Code := { maxStack := 3, maxLocals := 6, code := method_6_code, exceptionTable := #[], attributes := #[] }
def k1m5 : Method := { name := "step", desc := "(IJII)I", sig := { parameters := [.int, .long, .int, .int], returnType := some .int }, accessFlags := 10, code := some k1c5 }
/-- com/example/stablemate/stablemate/layout/ByteWordsDecimalValuePinLaw -/
def k1 : Class := { plain "com/example/stablemate/stablemate/layout/ByteWordsDecimalValuePinLaw" (some 0) with
  accessFlags := 49
  interfaces := #[]
  cf := some (fileOf pool1 8 #[] #[{ accessFlags := 2, nameIndex := 5, descriptorIndex := 6, attributes := #[] }, { accessFlags := 9, nameIndex := 36, descriptorIndex := 37, attributes := #[] }, { accessFlags := 10, nameIndex := 31, descriptorIndex := 26, attributes := #[] }, { accessFlags := 10, nameIndex := 11, descriptorIndex := 12, attributes := #[] }, { accessFlags := 10, nameIndex := 15, descriptorIndex := 16, attributes := #[] }, { accessFlags := 10, nameIndex := 19, descriptorIndex := 20, attributes := #[] }] 49 2 #[] #[])
  fields := #[]
  methods := #[k1m0, k1m1, k1m2, k1m3, k1m4, k1m5]
  instanceTypes := #[]
  staticTypes := #[]
  resolved := Array.replicate 41 none
  statics := none }

def pool2 : Array CpInfo := pool [(1, .class_ 2), (0, u "com/example/stablemate/stablemate/layout/ByteWords"), (1, .class_ 6), (1, u "java/lang/Object"), (0, u "<init>"), (0, u "()V"), (2, u "WORDS"), (0, u "Ljava/lang/invoke/VarHandle;"), (12, .long 9259542123273814144), (7, .long 3472328296227680304), (1, .long 8536140394893047414), (1, .long 2561), (1, .long 71777214294589695), (1, .long 6553601), (1, .long 281470681808895), (1, .long 42949672960001), (15, u "EVERY_BYTE"), (0, u "J"), (1, u "EVERY_TOP_BIT"), (0, u "EVERY_LOW_SEVEN_BITS"), (0, u "GATHER_TOP_BITS"), (0, u "DIGIT_VALUES_STAY_BELOW_TOP_BIT"), (0, u "I"), (8, u "decimalValue"), (0, u "(JI)I")] 4

def k2m0 : Method := { name := "<init>", desc := "()V", sig := { parameters := [], returnType := none }, accessFlags := 2, code := none }
def k2c1 : Code := { maxStack := 5, maxLocals := 11, code := prog_39_method_5_code, exceptionTable := #[], attributes := #[] }
def k2m1 : Method := { name := "decimalValue", desc := "(JI)I", sig := { parameters := [.long, .int], returnType := some .int }, accessFlags := 8, code := some k2c1 }
/-- com/example/stablemate/stablemate/layout/ByteWords -/
def k2 : Class := { plain "com/example/stablemate/stablemate/layout/ByteWords" (some 0) with
  accessFlags := 32
  interfaces := #[]
  cf := some (fileOf pool2 1 #[] #[{ accessFlags := 2, nameIndex := 7, descriptorIndex := 8, attributes := #[] }, { accessFlags := 8, nameIndex := 77, descriptorIndex := 78, attributes := #[] }] 32 4 #[] #[{ accessFlags := 24, nameIndex := 61, descriptorIndex := 62, attributes := #[] }, { accessFlags := 24, nameIndex := 64, descriptorIndex := 62, attributes := #[] }, { accessFlags := 26, nameIndex := 65, descriptorIndex := 62, attributes := #[] }, { accessFlags := 26, nameIndex := 66, descriptorIndex := 62, attributes := #[] }, { accessFlags := 26, nameIndex := 67, descriptorIndex := 68, attributes := #[] }, { accessFlags := 26, nameIndex := 11, descriptorIndex := 12, attributes := #[] }])
  fields := #[{ name := "EVERY_BYTE", type := .long, accessFlags := 24, slot := 0, constantValue := 0 }, { name := "EVERY_TOP_BIT", type := .long, accessFlags := 24, slot := 1, constantValue := 0 }, { name := "EVERY_LOW_SEVEN_BITS", type := .long, accessFlags := 26, slot := 2, constantValue := 0 }, { name := "GATHER_TOP_BITS", type := .long, accessFlags := 26, slot := 3, constantValue := 0 }, { name := "DIGIT_VALUES_STAY_BELOW_TOP_BIT", type := .int, accessFlags := 26, slot := 4, constantValue := 0 }, { name := "WORDS", type := (.object "java/lang/invoke/VarHandle"), accessFlags := 26, slot := 5, constantValue := 0 }]
  methods := #[k2m0, k2m1]
  instanceTypes := #[]
  staticTypes := #[.long, .long, .long, .long, .int, (.object "java/lang/invoke/VarHandle")]
  resolved := Array.replicate 83 none
  statics := none }

def pool3 : Array CpInfo := pool [(1, u "java/lang/Cloneable"), (0, .class_ 1), (0, u "java/lang/Object"), (0, .class_ 3)] 3

/-- java/lang/Cloneable -/
def k3 : Class := { plain "java/lang/Cloneable" (some 0) with
  accessFlags := 1537
  interfaces := #[]
  cf := some (fileOf pool3 2 #[] #[] 1537 4 #[] #[])
  fields := #[]
  methods := #[]
  instanceTypes := #[]
  staticTypes := #[]
  resolved := Array.replicate 8 none
  statics := none }

def pool4 : Array CpInfo := pool [(1, u "java/io/Serializable"), (0, .class_ 1), (0, u "java/lang/Object"), (0, .class_ 3)] 3

/-- java/io/Serializable -/
def k4 : Class := { plain "java/io/Serializable" (some 0) with
  accessFlags := 1537
  interfaces := #[]
  cf := some (fileOf pool4 2 #[] #[] 1537 4 #[] #[])
  fields := #[]
  methods := #[]
  instanceTypes := #[]
  staticTypes := #[]
  resolved := Array.replicate 8 none
  statics := none }

/-- the primitive byte -/
def k5 : Class := { plain "byte" none with kind := .primitive 'B', accessFlags := 0x411 }
/-- [B -/
def k6 : Class := { plain "[B" (some 0) with kind := .array 5 .byte, interfaces := #[3, 4], accessFlags := 1041 }

/-- the primitive int -/
def k7 : Class := { plain "int" none with kind := .primitive 'I', accessFlags := 0x411 }
/-- [I -/
def k8 : Class := { plain "[I" (some 0) with kind := .array 7 .int, interfaces := #[3, 4], accessFlags := 1041 }

def heap : Heap := #[]
def classes : Array Class := #[k0, k1, k2, k3, k4, k5, k6, k7, k8]
def interned : List (Array UInt16 × Addr) := []
def slotsUsed : Nat := 0
def theMethod : MethodId := ⟨1, 1⟩
def args0 : Array Value := #[.long 5, .int 2, .int 3]
def aboutOver (below : List Frame) : State where
  vm := { classes := classes, interned := interned.toArray }
  heap := heap
  slotsUsed := slotsUsed
  threads := #[{ frames := .invoking theMethod args0 :: below }]
def below0 : List Frame := [.native { method := ⟨0, 0⟩, args := #[] }]
def about1 : State := aboutOver below0
def p0 : Program := .bare "" "" ""
def e0 : Env := launch0.env 0 0 0
theorem w_frames : about1.frames = Frame.invoking theMethod args0 :: below0 := rfl
set_option maxRecDepth 65536 in
theorem w_args : argsFit about1.vm theMethod args0 = true := by decide +kernel
set_option maxRecDepth 65536 in
theorem w_heap : heapFits about1 = true := by decide +kernel
set_option maxRecDepth 65536 in
theorem w_runnable : about1.curStatus? = some .runnable := by decide +kernel
set_option maxRecDepth 65536 in
theorem w_alone : about1.alone = true := by decide +kernel
set_option maxRecDepth 65536 in
theorem w_named : about1.methodNamed? x = some theMethod := by decide +kernel
set_option maxRecDepth 65536 in
theorem w_hears : about1.hears theMethod below0 = true := by decide +kernel
set_option maxRecDepth 65536 in
theorem w_ripe : about1.ripe theMethod args0 below0 = true := by decide +kernel
theorem w_running : about1.status = .running := rfl
set_option maxRecDepth 65536 in
theorem w_room : about1.hasRoom e0.platform room_1 = true :=
  launch0.hasRoom_least _ room_1 (by decide +kernel) (by decide +kernel) (by decide +kernel) (by decide +kernel) (by decide +kernel) (by decide +kernel)
theorem allAtoms_all (ts : List Jvm.Cond) (a : Array Jvm.Value) (st : Jvm.State) : (allAtoms ts).before a st = ts.all (fun c => c.before a st) := by
  induction ts with
  | nil => rfl
  | cons c t ih =>
    show (Jvm.Cond.and c (allAtoms t)).before a st = _
    rw [Jvm.Cond.before_and, ih, List.all_cons]
def words1 : List Jvm.Cond := Jvm.Cond.code x code maxLocals ret :: tables_1
/-- a 'code' word, met by the world's own term for the bytes: nothing is compared byte by byte -/
theorem code_word {y : MethodName} {bytes : ByteArray} {mx : Nat} {rt : Option FieldType} {a : Array Value} {s : State} {m : MethodId} {meth : Method} {c : Code} (h1 : s.methodNamed? y = some m) (h2 : s.vm.method? m = some meth) (h3 : meth.code = some c) (h4 : c.code = bytes)
    (h5 : (c.maxLocals == mx && c.exceptionTable.isEmpty && decide (c.maxStack ≤ mostOperands) && decide (meth.sig.returnType = rt) && !meth.locks && decide (parseMethodDescriptor y.desc = some meth.sig)) = true) : (Jvm.Cond.code y bytes mx rt).before a s = true := by
  simp only [Bool.and_eq_true, beq_iff_eq, Bool.not_eq_true', decide_eq_true_eq] at h5
  obtain ⟨⟨⟨⟨⟨g1, g2⟩, g3⟩, g4⟩, g5⟩, g6⟩ := h5
  simp [Cond.before, Cond.holds, Cond.value, h1, h2, h3, h4, g1, g2, g3, g4, g5, g6]
def isCode : Jvm.Cond → Bool
  | .code _ _ _ _ => true
  | _ => false
theorem all_split {L : List Jvm.Cond} {P : Jvm.Cond → Bool} (h1 : L.all (fun c => isCode c || P c) = true) (h2 : ∀ c ∈ L.filter isCode, P c = true) : L.all P = true := by
  refine List.all_eq_true.mpr fun c hc => ?_
  have h := List.all_eq_true.mp h1 c hc
  rcases Bool.eq_false_or_eq_true (isCode c) with hi | hi
  · exact h2 c (List.mem_filter.mpr ⟨hc, hi⟩)
  · simpa [hi] using h
set_option maxRecDepth 65536 in
theorem w_c0 : (Jvm.Cond.code x code maxLocals ret).before args0 about1 = true := code_word (m := ⟨1, 1⟩) (meth := k1m1) (c := k1c1) (by decide +kernel) rfl rfl rfl (by decide +kernel)
set_option maxRecDepth 65536 in
theorem w_c1 : (Jvm.Cond.code ({ cls := "com/example/stablemate/stablemate/layout/ByteWordsDecimalValuePinLaw", name := "digitify", desc := "(JII)I" } : Jvm.MethodName) method_4_code (5 : Nat) (Option.some Jvm.ClassFile.FieldType.int)).before args0 about1 = true := code_word (m := ⟨1, 3⟩) (meth := k1m3) (c := k1c3) (by decide +kernel) rfl rfl rfl (by decide +kernel)
set_option maxRecDepth 65536 in
theorem w_c2 : (Jvm.Cond.code ({ cls := "com/example/stablemate/stablemate/layout/ByteWordsDecimalValuePinLaw", name := "byteAt", desc := "(JI)I" } : Jvm.MethodName) method_3_code (3 : Nat) (Option.some Jvm.ClassFile.FieldType.int)).before args0 about1 = true := code_word (m := ⟨1, 2⟩) (meth := k1m2) (c := k1c2) (by decide +kernel) rfl rfl rfl (by decide +kernel)
set_option maxRecDepth 65536 in
theorem w_c3 : (Jvm.Cond.code ({ cls := "com/example/stablemate/stablemate/layout/ByteWordsDecimalValuePinLaw", name := "put", desc := "(JII)J" } : Jvm.MethodName) method_5_code (5 : Nat) (Option.some Jvm.ClassFile.FieldType.long)).before args0 about1 = true := code_word (m := ⟨1, 4⟩) (meth := k1m4) (c := k1c4) (by decide +kernel) rfl rfl rfl (by decide +kernel)
set_option maxRecDepth 65536 in
theorem w_c4 : (Jvm.Cond.code ({ cls := "com/example/stablemate/stablemate/layout/ByteWordsDecimalValuePinLaw", name := "step", desc := "(IJII)I" } : Jvm.MethodName) method_6_code (6 : Nat) (Option.some Jvm.ClassFile.FieldType.int)).before args0 about1 = true := code_word (m := ⟨1, 5⟩) (meth := k1m5) (c := k1c5) (by decide +kernel) rfl rfl rfl (by decide +kernel)
set_option maxRecDepth 65536 in
theorem w_c5 : (Jvm.Cond.code ({ cls := "com/example/stablemate/stablemate/layout/ByteWords", name := "decimalValue", desc := "(JI)I" } : Jvm.MethodName) prog_39_method_5_code (11 : Nat) (Option.some Jvm.ClassFile.FieldType.int)).before args0 about1 = true := code_word (m := ⟨2, 1⟩) (meth := k2m1) (c := k2c1) (by decide +kernel) rfl rfl rfl (by decide +kernel)
def codes1 : List Jvm.Cond := [Jvm.Cond.code x code maxLocals ret, Jvm.Cond.code ({ cls := "com/example/stablemate/stablemate/layout/ByteWordsDecimalValuePinLaw", name := "digitify", desc := "(JII)I" } : Jvm.MethodName) method_4_code (5 : Nat) (Option.some Jvm.ClassFile.FieldType.int), Jvm.Cond.code ({ cls := "com/example/stablemate/stablemate/layout/ByteWordsDecimalValuePinLaw", name := "byteAt", desc := "(JI)I" } : Jvm.MethodName) method_3_code (3 : Nat) (Option.some Jvm.ClassFile.FieldType.int), Jvm.Cond.code ({ cls := "com/example/stablemate/stablemate/layout/ByteWordsDecimalValuePinLaw", name := "put", desc := "(JII)J" } : Jvm.MethodName) method_5_code (5 : Nat) (Option.some Jvm.ClassFile.FieldType.long), Jvm.Cond.code ({ cls := "com/example/stablemate/stablemate/layout/ByteWordsDecimalValuePinLaw", name := "step", desc := "(IJII)I" } : Jvm.MethodName) method_6_code (6 : Nat) (Option.some Jvm.ClassFile.FieldType.int), Jvm.Cond.code ({ cls := "com/example/stablemate/stablemate/layout/ByteWords", name := "decimalValue", desc := "(JI)I" } : Jvm.MethodName) prog_39_method_5_code (11 : Nat) (Option.some Jvm.ClassFile.FieldType.int)]
set_option maxRecDepth 65536 in
theorem codes_eq : words1.filter isCode = codes1 := rfl
theorem w_codes : ∀ c ∈ words1.filter isCode, c.before args0 about1 = true := by
  rw [codes_eq]
  intro c hc
  simp only [codes1, List.mem_cons, List.not_mem_nil, or_false] at hc
  rcases hc with rfl | rfl | rfl | rfl | rfl | rfl
  · exact w_c0
  · exact w_c1
  · exact w_c2
  · exact w_c3
  · exact w_c4
  · exact w_c5
set_option maxRecDepth 65536 in
theorem w_t1 : (words1.take 24).all (fun c => isCode c || c.before args0 about1) = true := by decide +kernel
set_option maxRecDepth 65536 in
theorem w_t2 : (words1.drop 24).all (fun c => isCode c || c.before args0 about1) = true := by decide +kernel
theorem w_tables : (allAtoms (Jvm.Cond.code x code maxLocals ret :: tables_1)).before args0 about1 = true := by
  rw [allAtoms_all]
  show words1.all (fun c => c.before args0 about1) = true
  refine all_split ?_ w_codes
  rw [← List.take_append_drop 24 words1, List.all_append, w_t1, w_t2]
  rfl
set_option maxRecDepth 65536 in
theorem w_case : (Jvm.Cond.and given_1 narrow_1).before args0 about1 = true := by decide +kernel
theorem w_applies : (headSpec (Jvm.Cond.code x code maxLocals ret :: tables_1) room_1).applies x e0.platform about1 = true :=
  (Spec.applies_iff w_frames).mpr ⟨w_running, w_runnable, w_alone, w_named, w_hears, w_ripe, w_room, w_tables⟩
theorem atStart : AtStart classFile x code maxLocals ret World_1 tables_1 room_1 Calls_1 rest_1 Pre_1 launch0 p0 e0 about1 theMethod args0 below0 :=
  ⟨lists_1, trivial, launch0.admits_env _ _ _, launch0.least_env, fairChoices_fair.cas, fairChoices_fair.clock, w_frames, w_args, w_heap, w_applies, trivial, trivial, w_case⟩
end start1
theorem witness_1 : WitnessClaimed_1 := ⟨start1.p0, start1.e0, start1.about1, start1.theMethod, start1.args0, start1.below0, start1.atStart⟩
end Jvm.Pilot.@@N@@
