import JvmDerived
import JvmDerived.Pilot.@@N@@Statement
import JvmDerived.Pilot.@@N@@Code
set_option linter.unusedVariables false
set_option linter.unusedSimpArgs false
namespace Jvm.OwnW
open Jvm Jvm.ClassFile Sem Op Lib Jvm.Free Jvm.Stand Jvm.LawKit Jvm.RoadKit Bundle
/-- the walk stands at pc, over the heap h; k cells and n slots have come; nothing that stood at the start is written -/
def At0 (p : Program) (l : Launch) (e : Env) (R : Room) (s : State) (m : MethodId) (args : Array Value) (below : List Frame) (meth : Method) (c : Code) (n0 : Nat) (S0 : State) (h : Heap) (k n pc : Nat) (Ls : Array Slot) (st : List Value) : Prop :=
  ∃ (T : State) (locs : List Loc), Stand p l e R s m args below meth c T locs k n ∧ T.heap = h ∧ Fr n0 locs ∧ ∀ t, Steps p.tables e below (T.setTop (mkF m pc Ls st)) t → Steps p.tables e below S0 t
/-- the walk has returned v, over the heap h -/
def End0 (p : Program) (e : Env) (R : Room) (s : State) (below : List Frame) (n0 : Nat) (S0 : State) (v : Option Value) (h : Heap) : Prop :=
  ∃ (s₂ : State) (L : List Loc), Steps p.tables e below S0 s₂ ∧ s₂.status = .running ∧ Ended s₂ below (.returned v) ∧ s₂.heap = h ∧ Fr n0 L ∧ FrameEnd s (.returned v) s₂ L R.cells R.slots
abbrev WT := Heap → Nat → Nat → Nat → Array Slot → List Value → Prop
abbrev VT := Option Value → Heap → Prop
/-- W and V are of one walk of the body of y -/
def Wk (l : Launch) (Z : State) (y : MethodName) (code : ByteArray) (mx : Nat) (ret : Option FieldType) (R : Room) (n0 : Nat) (W : WT) (V : VT) : Prop :=
  ∃ (p : Program) (e : Env) (s : State) (m : MethodId) (args : Array Value) (below : List Frame) (meth : Method) (c : Code) (S0 : State),
    p.tables.exec = Jvm.exec ∧ c.code = code ∧ c.maxLocals = mx ∧ s.vm.findClass y.cls = some m.cls ∧ Z.Warmed39 s.vm ∧ meth.name = y.name ∧ meth.sig.returnType = ret ∧ meth.locks = false ∧
    W = At0 p l e R s m args below meth c n0 S0 ∧ V = End0 p e R s below n0 S0
/-- a contract: called with 'as' over the heap h the method returns v and leaves h' with Q v h' -/
def Ct (l : Launch) (Z : State) (y : MethodName) (bytes : ByteArray) (mx : Nat) (ret : Option FieldType) (rm : Room) (n0 : Nat) (as : Array Value) (h : Heap) (Q : Option Value → Heap → Prop) : Prop :=
  ∀ ws : List Jvm.Cond, MetFree l y (head1 (Jvm.Cond.code y bytes mx ret :: ws) rm) (fun a U => a = as ∧ Z.Warmed39 U.vm ∧ U.heap = h) (fun _ _ _ _ _ => True) (fun _ U o U' => ∃ v L, o = .returned v ∧ (Q v U'.heap ∧ Fr n0 L) ∧ FrameEnd U o U' L rm.cells rm.slots)
theorem Ct.of {l : Launch} {Z : State} {y : MethodName} {bytes : ByteArray} {mx : Nat} {ret : Option FieldType} {rm : Room} {n0 : Nat} {as : Array Value} {h : Heap} {Q : Option Value → Heap → Prop} {Ls : Array Slot} (hpn : plainFor y = true) (hef : ∀ m, entryFrame m as mx = mkF m 0 Ls [])
    (body : ∀ W V, Wk l Z y bytes mx ret rm n0 W V → W h 0 0 0 Ls [] → ∃ v h', V v h' ∧ Q v h') : Ct l Z y bytes mx ret rm n0 as h Q := by
  intro ws
  refine MetFree.of_bodySF hpn hisR ?_
  intro p e s m args below meth c s₁ Bd hml0 hP hK
  obtain ⟨rfl, hZ, hh⟩ := hP
  have X0 : Stand p l e rm s m args below meth c s₁ [] 0 0 := Stand.of_body Bd
  have e0 : s₁.heap = h := by rw [← hh, Bd.state]; rfl
  obtain ⟨v, h', ⟨s₂, L, g1, g2, g3, g4, g5, g6⟩, hQ⟩ := body _ _ ⟨p, e, s, m, args, below, meth, c, s₁.setTop (entryFrame m args mx), Bd.exec, Bd.bytes, hml0, findClass_of_methodNamed Bd.named, hZ, (name_of_methodNamed Bd.named Bd.method).1, Bd.returns, Bd.notSynchronized, rfl, rfl⟩
    ⟨s₁, [], X0, e0, Fr.nil n0, fun t k => castTop (hef m) k⟩
  exact ⟨s₂, _, g1, g2, g3, v, L, rfl, ⟨by rw [g4]; exact hQ, g5⟩, g6⟩
theorem Ct.imp {l : Launch} {Z : State} {y : MethodName} {bytes : ByteArray} {mx : Nat} {ret : Option FieldType} {rm : Room} {n0 : Nat} {as : Array Value} {h : Heap} {Q Q' : Option Value → Heap → Prop} (hM : Ct l Z y bytes mx ret rm n0 as h Q) (hi : ∀ v h', Q v h' → Q' v h') : Ct l Z y bytes mx ret rm n0 as h Q' := by
  intro ws p e ha hc hk s m args below hf happ hP hK
  obtain ⟨n, o, h1, h2, h3, v, L, g1, ⟨g2, g3⟩, g4⟩ := hM ws p e ha hc hk s m args below hf happ hP hK
  exact ⟨n, o, h1, h2, h3, v, L, g1, ⟨hi _ _ g2, g3⟩, g4⟩
/-- the class that declares z is no interface, by a word of the sheet -/
def NF (Z : State) (a0 : Array Value) (z : MethodName) : Prop := (∃ C z2, (Jvm.Cond.selects C z2 z2).before a0 Z = true ∧ z2.cls = z.cls) ∨ (∃ S, (Jvm.Cond.superclass z.cls S).before a0 Z = true) ∨ (Jvm.Cond.noSuperclass z.cls).before a0 Z = true
theorem NF.at {Z s : State} {a0 : Array Value} {z : MethodName} (hZ : Z.Warmed39 s.vm) (f : NF Z a0 z) : NotFace s z := by
  rcases f with ⟨C, z2, w, e⟩ | ⟨S, w⟩ | w
  · intro r0 h0
    obtain ⟨c2, r2, m2, q1, q2, q3, q4, kP, hkP, hkPi⟩ := Cond.selects_spec (mvT (args := #[]) hZ w)
    have a := findClass_of_methodNamed h0
    have b := findClass_of_methodNamed q3
    rw [e] at b
    have d : r0.cls = m2.cls := Option.some.inj (a.symm.trans b)
    exact ⟨kP, by rw [d]; exact hkP, hkPi⟩
  · exact nf_super (args := #[]) (mvT hZ w)
  · exact nf_top (args := #[]) (mvT hZ w)
section Steps
variable {l : Launch} {Z : State} {y : MethodName} {code : ByteArray} {mx : Nat} {ret : Option FieldType} {R : Room} {n0 : Nat} {W : WT} {V : VT} {h : Heap} {k n pc pc' : Nat} {Ls Ls' : Array Slot} {st st' : List Value} {a0 : Array Value}
/-- a plain step, by the library's law for it -/
theorem Wk.step (H : Wk l Z y code mx ret R n0 W V) (r : W h k n pc Ls st)
    (f : ∀ {tb : Tables} [Ours tb] {e : Env} {below : List Frame} {T t : State} {m : MethodId} {c : Code}, At T m c below → tb.exec = Jvm.exec → c.code = code → Steps tb e below (T.setTop (mkF m pc' Ls' st')) t → Steps tb e below (T.setTop (mkF m pc Ls st)) t) : W h k n pc' Ls' st' := by
  obtain ⟨p, e, s, m, args, below, meth, c, S0, hx, hby, hml, hown, hZ, hnm, hret, hlk, rfl, rfl⟩ := H
  obtain ⟨T, locs, X, eh, N, sp⟩ := r
  exact ⟨T, locs, X, eh, N, fun t q => sp t (f X.here hx hby q)⟩
/-- the account of cells and slots may be widened -/
theorem Wk.more (H : Wk l Z y code mx ret R n0 W V) {k' n' : Nat} (hk : k ≤ k') (hn : n ≤ n') (r : W h k n pc Ls st) : W h k' n' pc Ls st := by
  obtain ⟨p, e, s, m, args, below, meth, c, S0, hx, hby, hml, hown, hZ, hnm, hret, hlk, rfl, rfl⟩ := H
  obtain ⟨T, locs, X, eh, N, sp⟩ := r
  exact ⟨T, locs, X.mono hk hn, eh, N, sp⟩
/-- a step that reads the tables or the heap -/
theorem Wk.stepX (H : Wk l Z y code mx ret R n0 W V) (r : W h k n pc Ls st)
    (f : ∀ {p : Program} {e : Env} {s : State} {m : MethodId} {args : Array Value} {below : List Frame} {meth : Method} {c : Code} {T : State} {locs : List Loc}, Stand p l e R s m args below meth c T locs k n → p.tables.exec = Jvm.exec → c.code = code → c.maxLocals = mx → s.vm.findClass y.cls = some m.cls → Z.Warmed39 s.vm → T.heap = h → ∃ T', Stand p l e R s m args below meth c T' locs k n ∧ T'.heap = h ∧ ∀ t, Steps p.tables e below (T'.setTop (mkF m pc' Ls' st')) t → Steps p.tables e below (T.setTop (mkF m pc Ls st)) t) : W h k n pc' Ls' st' := by
  obtain ⟨p, e, s, m, args, below, meth, c, S0, hx, hby, hml, hown, hZ, hnm, hret, hlk, rfl, rfl⟩ := H
  obtain ⟨T, locs, X, eh, N, sp⟩ := r
  obtain ⟨T', X', e', q⟩ := f X hx hby hml hown hZ eh
  exact ⟨T', locs, X', e', N, fun t u => sp t (q t u)⟩
theorem Wk.aloadN (H : Wk l Z y code mx ret R n0 W V) {i : Fin 4} {v : Value} (hd : decode code pc = .ok (.aload_n i, 1)) (r : W h k n pc Ls (st)) (hl : Ls[i.val]? = some (.val v)) (hv : v.isRef = true) : W h k n (pc + 1) Ls (v :: st) :=
  H.step r fun A hx hby q => XS.aloadN A hx rfl (hb hby hd) hl hv q
theorem Wk.aload (H : Wk l Z y code mx ret R n0 W V) {i : Nat} {v : Value} (hd : decode code pc = .ok (.aload i, 2)) (r : W h k n pc Ls (st)) (hl : Ls[i]? = some (.val v)) (hv : v.isRef = true) : W h k n (pc + 2) Ls (v :: st) :=
  H.step r fun A hx hby q => XS.aload A hx rfl (hb hby hd) hl hv q
theorem Wk.iloadN (H : Wk l Z y code mx ret R n0 W V) {i : Fin 4} {v : Int32} (hd : decode code pc = .ok (.iload_n i, 1)) (r : W h k n pc Ls (st)) (hl : Ls[i.val]? = some (.val (.int v))) : W h k n (pc + 1) Ls (.int v :: st) :=
  H.step r fun A hx hby q => XS.iloadN A hx rfl (hb hby hd) hl q
theorem Wk.iload (H : Wk l Z y code mx ret R n0 W V) {i : Nat} {v : Int32} (hd : decode code pc = .ok (.iload i, 2)) (r : W h k n pc Ls (st)) (hl : Ls[i]? = some (.val (.int v))) : W h k n (pc + 2) Ls (.int v :: st) :=
  H.step r fun A hx hby q => XS.iload A hx rfl (hb hby hd) hl q
theorem Wk.lloadN (H : Wk l Z y code mx ret R n0 W V) {i : Fin 4} {v : Int64} (hd : decode code pc = .ok (.lload_n i, 1)) (r : W h k n pc Ls (st)) (hl : Ls[i.val]? = some (.val (.long v))) : W h k n (pc + 1) Ls (.long v :: st) :=
  H.step r fun A hx hby q => XS.lloadN A hx rfl (hb hby hd) hl q
theorem Wk.lload (H : Wk l Z y code mx ret R n0 W V) {i : Nat} {v : Int64} (hd : decode code pc = .ok (.lload i, 2)) (r : W h k n pc Ls (st)) (hl : Ls[i]? = some (.val (.long v))) : W h k n (pc + 2) Ls (.long v :: st) :=
  H.step r fun A hx hby q => XS.lload A hx rfl (hb hby hd) hl q
theorem Wk.floadN (H : Wk l Z y code mx ret R n0 W V) {i : Fin 4} {v : UInt32} (hd : decode code pc = .ok (.fload_n i, 1)) (r : W h k n pc Ls (st)) (hl : Ls[i.val]? = some (.val (.float v))) : W h k n (pc + 1) Ls (.float v :: st) :=
  H.step r fun A hx hby q => XS.floadN A hx rfl (hb hby hd) hl q
theorem Wk.iconst (H : Wk l Z y code mx ret R n0 W V) {i : Int} {z : Int32} (hd : decode code pc = .ok (.iconst i, 1)) (r : W h k n pc Ls st) (hz : Int32.ofInt i = z) : W h k n (pc + 1) Ls (.int z :: st) := by
  subst hz
  exact H.step r fun A hx hby q => XS.iconst A hx rfl (hb hby hd) q
theorem Wk.bipush (H : Wk l Z y code mx ret R n0 W V) {i : Int} {z : Int32} (hd : decode code pc = .ok (.bipush i, 2)) (r : W h k n pc Ls st) (hz : (Int8.ofInt i).toInt32 = z) : W h k n (pc + 2) Ls (.int z :: st) := by
  subst hz
  exact H.step r fun A hx hby q => XS.bipush A hx rfl (hb hby hd) q
theorem Wk.sipush (H : Wk l Z y code mx ret R n0 W V) {i : Int} {z : Int32} (hd : decode code pc = .ok (.sipush i, 3)) (r : W h k n pc Ls st) (hz : (Int16.ofInt i).toInt32 = z) : W h k n (pc + 3) Ls (.int z :: st) := by
  subst hz
  exact H.step r fun A hx hby q => XS.sipush A hx rfl (hb hby hd) q
theorem Wk.lconst (H : Wk l Z y code mx ret R n0 W V) {i : Fin 2} {z : Int64} (hd : decode code pc = .ok (.lconst i, 1)) (r : W h k n pc Ls st) (hz : Int64.ofNat i = z) : W h k n (pc + 1) Ls (.long z :: st) := by
  subst hz
  exact H.step r fun A hx hby q => XS.lconst A hx rfl (hb hby hd) q
theorem Wk.fconst0 (H : Wk l Z y code mx ret R n0 W V) {v : UInt32} (hd : decode code pc = .ok (.fconst 0, 1)) (r : W h k n pc Ls st) (hv : FP.fconst0 = v) : W h k n (pc + 1) Ls (.float v :: st) :=
  H.step r fun A hx hby q => XS.fconst0 A hx rfl (hb hby hd) hv q
theorem Wk.fcmp (H : Wk l Z y code mx ret R n0 W V) {o : CmpOp} {x z : UInt32} {v : Int32} (hd : decode code pc = .ok (.fcmp o, 1)) (r : W h k n pc Ls (.float z :: .float x :: st)) (hv : cmpValue (FP.fcmp x z) o = v) : W h k n (pc + 1) Ls (.int v :: st) :=
  H.step r fun A hx hby q => XS.fcmpS A hx rfl (hb hby hd) rfl hv q
theorem Wk.aconstNull (H : Wk l Z y code mx ret R n0 W V) (hd : decode code pc = .ok (.aconst_null, 1)) (r : W h k n pc Ls (st)) : W h k n (pc + 1) Ls (.null :: st) :=
  H.step r fun A hx hby q => XS.aconstNull A hx rfl (hb hby hd)  q
theorem Wk.iadd (H : Wk l Z y code mx ret R n0 W V) {a b : Int32} (hd : decode code pc = .ok (.iadd, 1)) (r : W h k n pc Ls (.int b :: .int a :: st)) : W h k n (pc + 1) Ls (.int (a + b) :: st) :=
  H.step r fun A hx hby q => XS.iadd A hx rfl (hb hby hd) rfl q
theorem Wk.isub (H : Wk l Z y code mx ret R n0 W V) {a b : Int32} (hd : decode code pc = .ok (.isub, 1)) (r : W h k n pc Ls (.int b :: .int a :: st)) : W h k n (pc + 1) Ls (.int (a - b) :: st) :=
  H.step r fun A hx hby q => XS.isub A hx rfl (hb hby hd) rfl q
theorem Wk.iand (H : Wk l Z y code mx ret R n0 W V) {a b : Int32} (hd : decode code pc = .ok (.iand, 1)) (r : W h k n pc Ls (.int b :: .int a :: st)) : W h k n (pc + 1) Ls (.int (a &&& b) :: st) :=
  H.step r fun A hx hby q => XS.iand A hx rfl (hb hby hd) rfl q
theorem Wk.imul (H : Wk l Z y code mx ret R n0 W V) {a b : Int32} (hd : decode code pc = .ok (.imul, 1)) (r : W h k n pc Ls (.int b :: .int a :: st)) : W h k n (pc + 1) Ls (.int (a * b) :: st) :=
  H.step r fun A hx hby q => XS.imul A hx rfl (hb hby hd) rfl q
theorem Wk.ior (H : Wk l Z y code mx ret R n0 W V) {a b : Int32} (hd : decode code pc = .ok (.ior, 1)) (r : W h k n pc Ls (.int b :: .int a :: st)) : W h k n (pc + 1) Ls (.int (a ||| b) :: st) :=
  H.step r fun A hx hby q => XS.ior A hx rfl (hb hby hd) rfl q
theorem Wk.ixor (H : Wk l Z y code mx ret R n0 W V) {a b : Int32} (hd : decode code pc = .ok (.ixor, 1)) (r : W h k n pc Ls (.int b :: .int a :: st)) : W h k n (pc + 1) Ls (.int (a ^^^ b) :: st) :=
  H.step r fun A hx hby q => XS.ixor A hx rfl (hb hby hd) rfl q
theorem Wk.ishl (H : Wk l Z y code mx ret R n0 W V) {a b : Int32} (hd : decode code pc = .ok (.ishl, 1)) (r : W h k n pc Ls (.int b :: .int a :: st)) : W h k n (pc + 1) Ls (.int (a <<< (b &&& 31)) :: st) :=
  H.step r fun A hx hby q => XS.ishl A hx rfl (hb hby hd) rfl q
theorem Wk.ishr (H : Wk l Z y code mx ret R n0 W V) {a b : Int32} (hd : decode code pc = .ok (.ishr, 1)) (r : W h k n pc Ls (.int b :: .int a :: st)) : W h k n (pc + 1) Ls (.int (a >>> (b &&& 31)) :: st) :=
  H.step r fun A hx hby q => XS.ishr A hx rfl (hb hby hd) rfl q
theorem Wk.iushr (H : Wk l Z y code mx ret R n0 W V) {a b : Int32} (hd : decode code pc = .ok (.iushr, 1)) (r : W h k n pc Ls (.int b :: .int a :: st)) : W h k n (pc + 1) Ls (.int ((a.toUInt32 >>> (b &&& 31).toUInt32).toInt32) :: st) :=
  H.step r fun A hx hby q => XS.iushr A hx rfl (hb hby hd) rfl q
theorem Wk.ladd (H : Wk l Z y code mx ret R n0 W V) {a b : Int64} (hd : decode code pc = .ok (.ladd, 1)) (r : W h k n pc Ls (.long b :: .long a :: st)) : W h k n (pc + 1) Ls (.long (a + b) :: st) :=
  H.step r fun A hx hby q => XS.ladd A hx rfl (hb hby hd) rfl q
theorem Wk.lsub (H : Wk l Z y code mx ret R n0 W V) {a b : Int64} (hd : decode code pc = .ok (.lsub, 1)) (r : W h k n pc Ls (.long b :: .long a :: st)) : W h k n (pc + 1) Ls (.long (a - b) :: st) :=
  H.step r fun A hx hby q => XS.lsub A hx rfl (hb hby hd) rfl q
theorem Wk.lmul (H : Wk l Z y code mx ret R n0 W V) {a b : Int64} (hd : decode code pc = .ok (.lmul, 1)) (r : W h k n pc Ls (.long b :: .long a :: st)) : W h k n (pc + 1) Ls (.long (a * b) :: st) :=
  H.step r fun A hx hby q => XS.lmul A hx rfl (hb hby hd) rfl q
theorem Wk.land (H : Wk l Z y code mx ret R n0 W V) {a b : Int64} (hd : decode code pc = .ok (.land, 1)) (r : W h k n pc Ls (.long b :: .long a :: st)) : W h k n (pc + 1) Ls (.long (a &&& b) :: st) :=
  H.step r fun A hx hby q => XS.land A hx rfl (hb hby hd) rfl q
theorem Wk.lor (H : Wk l Z y code mx ret R n0 W V) {a b : Int64} (hd : decode code pc = .ok (.lor, 1)) (r : W h k n pc Ls (.long b :: .long a :: st)) : W h k n (pc + 1) Ls (.long (a ||| b) :: st) :=
  H.step r fun A hx hby q => XS.lor A hx rfl (hb hby hd) rfl q
theorem Wk.lxor (H : Wk l Z y code mx ret R n0 W V) {a b : Int64} (hd : decode code pc = .ok (.lxor, 1)) (r : W h k n pc Ls (.long b :: .long a :: st)) : W h k n (pc + 1) Ls (.long (a ^^^ b) :: st) :=
  H.step r fun A hx hby q => XS.lxor A hx rfl (hb hby hd) rfl q
theorem Wk.lshl (H : Wk l Z y code mx ret R n0 W V) {a : Int64} {b : Int32} (hd : decode code pc = .ok (.lshl, 1)) (r : W h k n pc Ls (.int b :: .long a :: st)) : W h k n (pc + 1) Ls (.long (a <<< (b &&& 0x3f).toInt64) :: st) :=
  H.step r fun A hx hby q => XS.lshl A hx rfl (hb hby hd) rfl q
theorem Wk.lshr (H : Wk l Z y code mx ret R n0 W V) {a : Int64} {b : Int32} (hd : decode code pc = .ok (.lshr, 1)) (r : W h k n pc Ls (.int b :: .long a :: st)) : W h k n (pc + 1) Ls (.long (a >>> (b &&& 0x3f).toInt64) :: st) :=
  H.step r fun A hx hby q => XS.lshr A hx rfl (hb hby hd) rfl q
theorem Wk.lushr (H : Wk l Z y code mx ret R n0 W V) {a : Int64} {b : Int32} (hd : decode code pc = .ok (.lushr, 1)) (r : W h k n pc Ls (.int b :: .long a :: st)) : W h k n (pc + 1) Ls (.long ((a.toUInt64 >>> (b &&& 0x3f).toInt64.toUInt64).toInt64) :: st) :=
  H.step r fun A hx hby q => XS.lushr A hx rfl (hb hby hd) rfl q
theorem Wk.ldiv (H : Wk l Z y code mx ret R n0 W V) {a b : Int64} (hd : decode code pc = .ok (.ldiv, 1)) (r : W h k n pc Ls (.long b :: .long a :: st)) (hy : b ≠ 0) : W h k n (pc + 1) Ls (.long (a / b) :: st) :=
  H.step r fun A hx hby q => XS.ldiv A hx rfl (hb hby hd) rfl hy q
theorem Wk.idiv (H : Wk l Z y code mx ret R n0 W V) {a b : Int32} (hd : decode code pc = .ok (.idiv, 1)) (r : W h k n pc Ls (.int b :: .int a :: st)) (hy : b ≠ 0) : W h k n (pc + 1) Ls (.int (a / b) :: st) :=
  H.step r fun A hx hby q => XS.idiv A hx rfl (hb hby hd) rfl hy q
theorem Wk.lrem (H : Wk l Z y code mx ret R n0 W V) {a b : Int64} (hd : decode code pc = .ok (.lrem, 1)) (r : W h k n pc Ls (.long b :: .long a :: st)) (hy : b ≠ 0) : W h k n (pc + 1) Ls (.long (a % b) :: st) := by
  rw [← lrem_mod a b]
  exact H.step r fun A hx hby q => XS.lrem A hx rfl (hb hby hd) rfl hy q
theorem Wk.irem (H : Wk l Z y code mx ret R n0 W V) {a b : Int32} (hd : decode code pc = .ok (.irem, 1)) (r : W h k n pc Ls (.int b :: .int a :: st)) (hy : b ≠ 0) : W h k n (pc + 1) Ls (.int (a % b) :: st) :=
  H.stepX r fun X hx hby hml hown hZ eT => ⟨_, X, eT, fun t q => iremM X hx rfl (hb hby hd) rfl hy q⟩
theorem Wk.i2b (H : Wk l Z y code mx ret R n0 W V) {a : Int32} (hd : decode code pc = .ok (.i2b, 1)) (r : W h k n pc Ls (.int a :: st)) : W h k n (pc + 1) Ls (.int (a.toInt8.toInt32) :: st) :=
  H.step r fun A hx hby q => XS.i2b A hx rfl (hb hby hd) rfl q
theorem Wk.i2c (H : Wk l Z y code mx ret R n0 W V) {a : Int32} (hd : decode code pc = .ok (.i2c, 1)) (r : W h k n pc Ls (.int a :: st)) : W h k n (pc + 1) Ls (.int (a.toUInt32.toUInt16.toUInt32.toInt32) :: st) :=
  H.step r fun A hx hby q => XS.i2c A hx rfl (hb hby hd) rfl q
theorem Wk.i2s (H : Wk l Z y code mx ret R n0 W V) {a : Int32} (hd : decode code pc = .ok (.i2s, 1)) (r : W h k n pc Ls (.int a :: st)) : W h k n (pc + 1) Ls (.int (a.toInt16.toInt32) :: st) :=
  H.step r fun A hx hby q => XS.i2s A hx rfl (hb hby hd) rfl q
theorem Wk.i2l (H : Wk l Z y code mx ret R n0 W V) {a : Int32} (hd : decode code pc = .ok (.i2l, 1)) (r : W h k n pc Ls (.int a :: st)) : W h k n (pc + 1) Ls (.long (a.toInt64) :: st) :=
  H.step r fun A hx hby q => XS.i2l A hx rfl (hb hby hd) rfl q
theorem Wk.l2i (H : Wk l Z y code mx ret R n0 W V) {a : Int64} (hd : decode code pc = .ok (.l2i, 1)) (r : W h k n pc Ls (.long a :: st)) : W h k n (pc + 1) Ls (.int (a.toInt32) :: st) :=
  H.step r fun A hx hby q => XS.l2i A hx rfl (hb hby hd) rfl q
theorem Wk.ineg (H : Wk l Z y code mx ret R n0 W V) {a : Int32} (hd : decode code pc = .ok (.ineg, 1)) (r : W h k n pc Ls (.int a :: st)) : W h k n (pc + 1) Ls (.int (-a) :: st) :=
  H.step r fun A hx hby q => XS.ineg A hx rfl (hb hby hd) rfl q
theorem Wk.lcmp (H : Wk l Z y code mx ret R n0 W V) {a b : Int64} (hd : decode code pc = .ok (.lcmp, 1)) (r : W h k n pc Ls (.long b :: .long a :: st)) : W h k n (pc + 1) Ls (.int (lcmpW a b) :: st) :=
  H.step r fun A hx hby q => XS.lcmp A hx rfl (hb hby hd) rfl q
theorem Wk.dup (H : Wk l Z y code mx ret R n0 W V) {v : Value} (hd : decode code pc = .ok (.dup, 1)) (r : W h k n pc Ls (v :: st)) (hc : v.category = 1) : W h k n (pc + 1) Ls (v :: v :: st) :=
  H.step r fun A hx hby q => XS.dup A hx rfl (hb hby hd) rfl hc q
theorem Wk.pop (H : Wk l Z y code mx ret R n0 W V) {v : Value} (hd : decode code pc = .ok (.pop, 1)) (r : W h k n pc Ls (v :: st)) (hc : v.category = 1) : W h k n (pc + 1) Ls (st) :=
  H.step r fun A hx hby q => XS.pop A hx rfl (hb hby hd) rfl hc q
theorem Wk.dupX1 (H : Wk l Z y code mx ret R n0 W V) {v w : Value} (hd : decode code pc = .ok (.dup_x1, 1)) (r : W h k n pc Ls (v :: w :: st)) (hc : v.category = 1) (hc2 : w.category = 1) : W h k n (pc + 1) Ls (v :: w :: v :: st) :=
  H.step r fun A hx hby q => XS.dupX1 A hx rfl (hb hby hd) rfl hc hc2 q
theorem Wk.istoreN (H : Wk l Z y code mx ret R n0 W V) {i : Fin 4} {v : Int32} (hd : decode code pc = .ok (.istore_n i, 1)) (r : W h k n pc Ls (.int v :: st)) (hl : storeLocals Ls i.val (.int v) = some Ls') : W h k n (pc + 1) Ls' (st) :=
  H.step r fun A hx hby q => XS.istoreN A hx rfl (hb hby hd) rfl hl q
theorem Wk.istore (H : Wk l Z y code mx ret R n0 W V) {i : Nat} {v : Int32} (hd : decode code pc = .ok (.istore i, 2)) (r : W h k n pc Ls (.int v :: st)) (hl : storeLocals Ls i (.int v) = some Ls') : W h k n (pc + 2) Ls' (st) :=
  H.step r fun A hx hby q => XS.istore A hx rfl (hb hby hd) rfl hl q
theorem Wk.lstoreN (H : Wk l Z y code mx ret R n0 W V) {i : Fin 4} {v : Int64} (hd : decode code pc = .ok (.lstore_n i, 1)) (r : W h k n pc Ls (.long v :: st)) (hl : storeLocals Ls i.val (.long v) = some Ls') : W h k n (pc + 1) Ls' (st) :=
  H.step r fun A hx hby q => XS.lstoreN A hx rfl (hb hby hd) rfl hl q
theorem Wk.lstore (H : Wk l Z y code mx ret R n0 W V) {i : Nat} {v : Int64} (hd : decode code pc = .ok (.lstore i, 2)) (r : W h k n pc Ls (.long v :: st)) (hl : storeLocals Ls i (.long v) = some Ls') : W h k n (pc + 2) Ls' (st) :=
  H.step r fun A hx hby q => XS.lstore A hx rfl (hb hby hd) rfl hl q
theorem Wk.astoreN (H : Wk l Z y code mx ret R n0 W V) {i : Fin 4} {v : Value} (hd : decode code pc = .ok (.astore_n i, 1)) (r : W h k n pc Ls (v :: st)) (hv : v.isRef = true) (hl : storeLocals Ls i.val v = some Ls') : W h k n (pc + 1) Ls' (st) :=
  H.step r fun A hx hby q => XS.astoreN A hx rfl (hb hby hd) rfl hv hl q
theorem Wk.astore (H : Wk l Z y code mx ret R n0 W V) {i : Nat} {v : Value} (hd : decode code pc = .ok (.astore i, 2)) (r : W h k n pc Ls (v :: st)) (hv : v.isRef = true) (hl : storeLocals Ls i v = some Ls') : W h k n (pc + 2) Ls' (st) :=
  H.step r fun A hx hby q => XS.astore A hx rfl (hb hby hd) rfl hv hl q
theorem Wk.istoreNS (H : Wk l Z y code mx ret R n0 W V) {i : Fin 4} {v : Int32} {o : Slot} (hd : decode code pc = .ok (.istore_n i, 1)) (r : W h k n pc Ls (.int v :: st)) (hold : Ls[i.val]? = some o) (ho : One o) : W h k n (pc + 1) (Ls.setIfInBounds i.val (.val (.int v))) st :=
  H.step r fun A hx hby q => XS.istoreNS A hx rfl (hb hby hd) rfl hold ho q
theorem Wk.istoreS (H : Wk l Z y code mx ret R n0 W V) {i : Nat} {v : Int32} {o : Slot} (hd : decode code pc = .ok (.istore i, 2)) (r : W h k n pc Ls (.int v :: st)) (hold : Ls[i]? = some o) (ho : One o) : W h k n (pc + 2) (Ls.setIfInBounds i (.val (.int v))) st :=
  H.step r fun A hx hby q => XS.istoreS A hx rfl (hb hby hd) rfl hold ho q
theorem Wk.iinc (H : Wk l Z y code mx ret R n0 W V) {i : Nat} {cst : Int} {v z : Int32} (hd : decode code pc = .ok (.iinc i cst, 3)) (r : W h k n pc Ls (st)) (hz : v + Int32.ofInt cst = z) (hl : Ls[i]? = some (.val (.int v))) (hl' : storeLocals Ls i (.int z) = some Ls') : W h k n (pc + 3) Ls' (st) :=
  H.step r fun A hx hby q => XS.iinc A hx rfl (hb hby hd) hl (hz ▸ hl') q
theorem Wk.goto (H : Wk l Z y code mx ret R n0 W V) {o : Int} (hd : decode code pc = .ok (.goto o, 3)) (r : W h k n pc Ls st) (ho : 0 ≤ (pc : Int) + o) (hp : ((pc : Int) + o).toNat = pc') : W h k n pc' Ls st :=
  H.step r fun A hx hby q => XS.goto A hx rfl rfl (hb hby hd) ho hp q
theorem Wk.ifYes (H : Wk l Z y code mx ret R n0 W V) {cd : ClassFile.Cond} {a : Int32} {o : Int} (hd : decode code pc = .ok (.ifCond cd o, 3)) (r : W h k n pc Ls (.int a :: st)) (ho : 0 ≤ (pc : Int) + o) (hp : ((pc : Int) + o).toNat = pc') (hc : if_icmp.holds cd a 0 = true) : W h k n pc' Ls st :=
  H.step r fun A hx hby q => XS.ifYes A hx rfl rfl (hb hby hd) rfl ((if0 cd a).trans hc) ho hp q
theorem Wk.ifNo (H : Wk l Z y code mx ret R n0 W V) {cd : ClassFile.Cond} {a : Int32} {o : Int} (hd : decode code pc = .ok (.ifCond cd o, 3)) (r : W h k n pc Ls (.int a :: st)) (hc : if_icmp.holds cd a 0 = false) : W h k n (pc + 3) Ls st :=
  H.step r fun A hx hby q => XS.ifNo A hx rfl (hb hby hd) rfl ((if0 cd a).trans hc) q
theorem Wk.icmpYes (H : Wk l Z y code mx ret R n0 W V) {cd : ClassFile.Cond} {a b : Int32} {o : Int} (hd : decode code pc = .ok (.if_icmp cd o, 3)) (r : W h k n pc Ls (.int b :: .int a :: st)) (ho : 0 ≤ (pc : Int) + o) (hp : ((pc : Int) + o).toNat = pc') (hc : if_icmp.holds cd a b = true) : W h k n pc' Ls st :=
  H.step r fun A hx hby q => XS.icmpYes A hx rfl rfl (hb hby hd) rfl hc ho hp q
theorem Wk.icmpNo (H : Wk l Z y code mx ret R n0 W V) {cd : ClassFile.Cond} {a b : Int32} {o : Int} (hd : decode code pc = .ok (.if_icmp cd o, 3)) (r : W h k n pc Ls (.int b :: .int a :: st)) (hc : if_icmp.holds cd a b = false) : W h k n (pc + 3) Ls st :=
  H.step r fun A hx hby q => XS.icmpNo A hx rfl (hb hby hd) rfl hc q
theorem Wk.ifnullYes (H : Wk l Z y code mx ret R n0 W V) {o : Int} (hd : decode code pc = .ok (.ifnull o, 3)) (r : W h k n pc Ls (.null :: st)) (ho : 0 ≤ (pc : Int) + o) (hp : ((pc : Int) + o).toNat = pc') : W h k n pc' Ls st :=
  H.step r fun A hx hby q => XS.ifnullYes A hx rfl rfl (hb hby hd) rfl ho hp q
theorem Wk.ifnullNo (H : Wk l Z y code mx ret R n0 W V) {a : Addr} {o : Int} (hd : decode code pc = .ok (.ifnull o, 3)) (r : W h k n pc Ls (.ref a :: st)) : W h k n (pc + 3) Ls st :=
  H.step r fun A hx hby q => XS.ifnullNo A hx rfl (hb hby hd) rfl q
theorem Wk.ifnonnullYes (H : Wk l Z y code mx ret R n0 W V) {a : Addr} {o : Int} (hd : decode code pc = .ok (.ifnonnull o, 3)) (r : W h k n pc Ls (.ref a :: st)) (ho : 0 ≤ (pc : Int) + o) (hp : ((pc : Int) + o).toNat = pc') : W h k n pc' Ls st :=
  H.step r fun A hx hby q => XS.ifnonnullYes A hx rfl rfl (hb hby hd) rfl ho hp q
theorem Wk.ifnonnullNo (H : Wk l Z y code mx ret R n0 W V) {o : Int} (hd : decode code pc = .ok (.ifnonnull o, 3)) (r : W h k n pc Ls (.null :: st)) : W h k n (pc + 3) Ls st :=
  H.step r fun A hx hby q => XS.ifnonnullNo A hx rfl (hb hby hd) rfl q
theorem Wk.acmpYes (H : Wk l Z y code mx ret R n0 W V) {cd : ClassFile.ACond} {a b : Value} {o : Int} (hd : decode code pc = .ok (.if_acmp cd o, 3)) (r : W h k n pc Ls (b :: a :: st)) (ho : 0 ≤ (pc : Int) + o) (hp : ((pc : Int) + o).toNat = pc') (ha : a.isRef = true) (hb' : b.isRef = true) (hc : XT.acmp cd a b = true) : W h k n pc' Ls st :=
  H.step r fun A hx hby q => XT.acmpYes A hx rfl rfl (hb hby hd) rfl ha hb' hc ho hp q
theorem Wk.acmpNo (H : Wk l Z y code mx ret R n0 W V) {cd : ClassFile.ACond} {a b : Value} {o : Int} (hd : decode code pc = .ok (.if_acmp cd o, 3)) (r : W h k n pc Ls (b :: a :: st)) (ha : a.isRef = true) (hb' : b.isRef = true) (hc : XT.acmp cd a b = false) : W h k n (pc + 3) Ls st :=
  H.step r fun A hx hby q => XT.acmpNo A hx rfl (hb hby hd) rfl ha hb' hc q
theorem Wk.lookHit (H : Wk l Z y code mx ret R n0 W V) {z : Int32} {dflt : Int} {pairs : Array (Int × Int)} {len : Nat} {a off : Int} (hsorted : (pairs.toList.zip (pairs.toList.drop 1)).all (fun (a, next) => a.1 < next.1) = true) (hfind : pairs.find? (·.1 == z.toInt) = some (a, off)) (ho : 0 ≤ (pc : Int) + off) (hp : ((pc : Int) + off).toNat = pc') (hd : decode code pc = .ok (.lookupswitch dflt pairs, len)) (r : W h k n pc Ls (.int z :: st)) : W h k n pc' Ls st := by
  subst hp
  exact H.stepX r fun X hx hby hml hown hZ eT => ⟨_, X, eT, fun t q => X.lookupswitchHit hx (g := mkF _ pc Ls (.int z :: st)) rfl rfl (hb hby hd) hsorted hfind ho t q⟩
theorem Wk.lookMiss (H : Wk l Z y code mx ret R n0 W V) {z : Int32} {dflt : Int} {pairs : Array (Int × Int)} {len : Nat} (hsorted : (pairs.toList.zip (pairs.toList.drop 1)).all (fun (a, next) => a.1 < next.1) = true) (hfind : pairs.find? (·.1 == z.toInt) = none) (ho : 0 ≤ (pc : Int) + dflt) (hp : ((pc : Int) + dflt).toNat = pc') (hd : decode code pc = .ok (.lookupswitch dflt pairs, len)) (r : W h k n pc Ls (.int z :: st)) : W h k n pc' Ls st := by
  subst hp
  exact H.stepX r fun X hx hby hml hown hZ eT => ⟨_, X, eT, fun t q => X.lookupswitchMiss hx (g := mkF _ pc Ls (.int z :: st)) rfl rfl (hb hby hd) hsorted hfind ho t q⟩
theorem Wk.getS (H : Wk l Z y code mx ret R n0 W V) {i : Nat} {O nm d : String} {v : Value} (w : (Jvm.Cond.fieldLink y.cls i O nm d).before a0 Z = true) (F : Sta Z h O nm d v) (hd : decode code pc = .ok (.getstatic i, 3)) (r : W h k n pc Ls st) : W h k n (pc + 3) Ls (v :: st) :=
  H.stepX r fun X hx hby hml hown hZ eT => RoadKit.getS X hx hZ (host := "") hown w Via.refl eT F (g := mkF _ pc Ls st) rfl (hb hby hd)
theorem Wk.instY (H : Wk l Z y code mx ret R n0 W V) {i : Nat} {K : String} {a : Addr} (w : (Jvm.Cond.classLink y.cls i K).before a0 Z = true) (F : Ins Z h a K true) (hd : decode code pc = .ok (.instanceof i, 3)) (r : W h k n pc Ls (.ref a :: st)) : W h k n (pc + 3) Ls (.int 1 :: st) :=
  H.stepX r fun X hx hby hml hown hZ eT => RoadKit.instY X hx hZ hown w eT F (g := mkF _ pc Ls (.ref a :: st)) rfl rfl (hb hby hd)
theorem Wk.instNo (H : Wk l Z y code mx ret R n0 W V) {i : Nat} {K C : String} {a : Addr} (w : (Jvm.Cond.classLink y.cls i K).before a0 Z = true) (E : Exa Z h a C) (F : ∃ c t, Z.vm.findClass C = some c ∧ Z.vm.findClass K = some t ∧ Z.vm.assignable c t = false) (hd : decode code pc = .ok (.instanceof i, 3)) (r : W h k n pc Ls (.ref a :: st)) : W h k n (pc + 3) Ls (.int 0 :: st) :=
  H.stepX r fun X hx hby hml hown hZ eT => RoadKit.instNo X hx hZ hown w eT E F (g := mkF _ pc Ls (.ref a :: st)) rfl rfl (hb hby hd)
theorem Wk.instNull (H : Wk l Z y code mx ret R n0 W V) {i : Nat} (hd : decode code pc = .ok (.instanceof i, 3)) (r : W h k n pc Ls (.null :: st)) : W h k n (pc + 3) Ls (.int 0 :: st) :=
  H.stepX r fun X hx hby hml hown hZ eT => ⟨_, X, eT, X.instanceofNull hx (g := mkF _ pc Ls (.null :: st)) rfl rfl (hb hby hd)⟩
theorem Wk.castY (H : Wk l Z y code mx ret R n0 W V) {i : Nat} {K : String} {a : Addr} (w : (Jvm.Cond.classLink y.cls i K).before a0 Z = true) (F : Ins Z h a K true) (hd : decode code pc = .ok (.checkcast i, 3)) (r : W h k n pc Ls (.ref a :: st)) : W h k n (pc + 3) Ls (.ref a :: st) :=
  H.stepX r fun X hx hby hml hown hZ eT => RoadKit.castY X hx hZ hown w eT F (g := mkF _ pc Ls (.ref a :: st)) rfl rfl (hb hby hd)
theorem Wk.castNull (H : Wk l Z y code mx ret R n0 W V) {i : Nat} (hd : decode code pc = .ok (.checkcast i, 3)) (r : W h k n pc Ls (.null :: st)) : W h k n (pc + 3) Ls (.null :: st) :=
  H.stepX r fun X hx hby hml hown hZ eT => ⟨_, X, eT, X.checkcastNull hx (g := mkF _ pc Ls (.null :: st)) rfl rfl (hb hby hd)⟩
theorem Wk.ldcInt (H : Wk l Z y code mx ret R n0 W V) {i : Nat} {v : Int32} (hd : decode code pc = .ok (.ldc i, 2)) (r : W h k n pc Ls st) (w : (Jvm.Cond.constant y.cls i v).before a0 Z = true) : W h k n (pc + 2) Ls (.int v :: st) :=
  H.stepX r fun X hx hby hml hown hZ eT => ⟨_, X, eT, X.ldcInt hx hown (mvT hZ w) (g := mkF _ pc Ls st) rfl (hb hby hd)⟩
theorem Wk.ldcWInt (H : Wk l Z y code mx ret R n0 W V) {i : Nat} {v : Int32} (hd : decode code pc = .ok (.ldc_w i, 3)) (r : W h k n pc Ls st) (w : (Jvm.Cond.constant y.cls i v).before a0 Z = true) : W h k n (pc + 3) Ls (.int v :: st) :=
  H.stepX r fun {p e s m args below meth c T locs} X hx hby hml hown hZ eT => ⟨T, X, eT, fun t q => by
    obtain ⟨kc, cf, bytes, hk, hcf, hcp, hb'⟩ := Cond.constant_spec hown (mvT (args := args) hZ w)
    obtain ⟨k', hk', he⟩ := X.warmed.alike.2.2 _ _ hk
    have hdg := hb hby hd
    show Steps p.tables e below (T.setTop (mkF m pc Ls st)) t
    jvm_step X.here [hx, hdg, ldc_w.wp_int (s := T) (f := mkF m pc Ls st) X.here.top hk' (by rw [he]; exact hcf) hcp, hb']
    exact q⟩
theorem Wk.ldcFloat (H : Wk l Z y code mx ret R n0 W V) {i : Nat} {v : UInt32} (w : (Jvm.Cond.constantFloat y.cls i v).before a0 Z = true) (hd : decode code pc = .ok (.ldc i, 2)) (r : W h k n pc Ls st) : W h k n (pc + 2) Ls (.float v :: st) :=
  H.stepX r fun X hx hby hml hown hZ eT => ⟨_, X, eT, X.ldcFloatC hx hown (mvT hZ w) (g := mkF _ pc Ls st) rfl (hb hby hd)⟩
theorem Wk.ldcLong (H : Wk l Z y code mx ret R n0 W V) {i : Nat} {v : Int64} (hd : decode code pc = .ok (.ldc2_w i, 3)) (r : W h k n pc Ls st) (w : (Jvm.Cond.constantLong y.cls i v).before a0 Z = true) : W h k n (pc + 3) Ls (.long v :: st) :=
  H.stepX r fun X hx hby hml hown hZ eT => ⟨_, X, eT, X.ldc2Long hx hown (mvT hZ w) (g := mkF _ pc Ls st) rfl (hb hby hd)⟩
theorem Wk.getF (H : Wk l Z y code mx ret R n0 W V) {i : Nat} {R0 O nm d host : String} {a : Addr} {v : Value} (w : (Jvm.Cond.fieldLink y.cls i R0 nm d).before a0 Z = true ∨ (Jvm.Cond.fieldLinkNest y.cls i R0 nm d host).before a0 Z = true) (via : Via Z R0 O nm d) (F : Fld Z h a O nm d v) (hd : decode code pc = .ok (.getfield i, 3)) (r : W h k n pc Ls (.ref a :: st)) : W h k n (pc + 3) Ls (v :: st) :=
  H.stepX r fun X hx hby hml hown hZ eT => RoadKit.getF X hx hZ hown w via eT F (g := mkF _ pc Ls (.ref a :: st)) rfl rfl (hb hby hd)
theorem Wk.getF' (H : Wk l Z y code mx ret R n0 W V) {i : Nat} {O nm d : String} {a : Addr} {v : Value} (w : (Jvm.Cond.fieldLink y.cls i O nm d).before a0 Z = true) (F : Fld Z h a O nm d v) (hd : decode code pc = .ok (.getfield i, 3)) (r : W h k n pc Ls (.ref a :: st)) : W h k n (pc + 3) Ls (v :: st) :=
  H.getF (host := "") (Or.inl w) Via.refl F hd r
theorem Wk.putF (H : Wk l Z y code mx ret R n0 W V) {i kk : Nat} {R0 O nm d host C : String} {ty : FieldType} {a : Addr} {v old : Value} (w : (Jvm.Cond.fieldLink y.cls i R0 nm d).before a0 Z = true ∨ (Jvm.Cond.fieldLinkNest y.cls i R0 nm d host).before a0 Z = true) (via : Via Z R0 O nm d) (F : Fld Z h a O nm d old) (E : Exa Z h a C) (L : (Jvm.Cond.lays C O nm d).before a0 Z = true ∨ ((Jvm.Cond.laysFinal C O nm d).before a0 Z = true ∧ y.cls = O ∧ y.name = "<init>")) (wi : (Jvm.Cond.instantiable C kk).before a0 Z = true)
    (hty : parseFieldDescriptor d = some ty) (hn : narrow ty v = v) (hf : fits ty v = true) (hn0 : n0 ≤ a) (hd : decode code pc = .ok (.putfield i, 3)) (r : W h k n pc Ls (v :: .ref a :: st)) : ∃ h', Wr h h' a (Jvm.RoadKit.slotOf Z O nm d) v ∧ W h' k n (pc + 3) Ls st := by
  obtain ⟨p, e, s, m, args, below, meth, c, S0, hx, hby, hml, hown, hZ, hnm, hret, hlk, rfl, rfl⟩ := H
  obtain ⟨T, locs, X, eh, N, sp⟩ := r
  obtain ⟨T', h', X', e', W', q⟩ := RoadKit.putF X hx hZ hown w via eh F E (L.imp id fun u => ⟨u.1, u.2.1, by rw [hnm]; exact u.2.2⟩) wi hty hn hf (g := mkF m pc Ls (v :: .ref a :: st)) rfl rfl (hb hby hd)
  exact ⟨h', W', T', _, X', e', Fr.snoc X' N hn0, fun t u => sp t (q t u)⟩
theorem Wk.newO (H : Wk l Z y code mx ret R n0 W V) {i q : Nat} {C : String} (w : (Jvm.Cond.classLink y.cls i C).before a0 Z = true) (wi : (Jvm.Cond.instantiable C q).before a0 Z = true) (wz : (Jvm.Cond.initialized C).before a0 Z = true) (hc : k + 1 ≤ R.cells) (hl : n + q ≤ R.slots) (hd : decode code pc = .ok (.new i, 3)) (r : W h k n pc Ls st) :
    ∃ h' a, a = h.size ∧ Ext h h' ∧ Exa Z h' a C ∧ (∀ {O nm d : String} {ty : FieldType}, Laid Z a0 C O nm d → parseFieldDescriptor d = some ty → Fld Z h' a O nm d (defaultValue ty)) ∧ (∃ cell : Cell, h'[a]? = some cell ∧ cell.vm = .none ∧ cell.monitor = {}) ∧ W h' (k + 1) (n + q) (pc + 3) Ls (.ref a :: st) := by
  obtain ⟨p, e, s, m, args, below, meth, c, S0, hx, hby, hml, hown, hZ, hnm, hret, hlk, rfl, rfl⟩ := H
  obtain ⟨T, locs, X, eh, N, sp⟩ := r
  obtain ⟨T', h', X', e', E', A', D', U', q'⟩ := RoadKit.newO X hx hZ hown w wi wz eh (g := mkF m pc Ls st) rfl (hb hby hd) hc hl
  exact ⟨h', _, rfl, E', A', D', U', T', _, X', e', N, fun t u => sp t (q' t u)⟩
theorem Wk.newP (H : Wk l Z y code mx ret R n0 W V) {aty : ArrayType} {ty : FieldType} {z : Int32} {cap : Nat} (hty : newarray.typeOf aty = ty) (w : (Jvm.Cond.arrayClass ty).before a0 Z = true) (hn : ¬ z < 0) (hcap : z.toNatClampNeg ≤ cap) (hb8 : cap * 8 ≤ 536870912) (hc : k + 1 ≤ R.cells) (hl : n + cap ≤ R.slots) (hd : decode code pc = .ok (.newarray aty, 2)) (r : W h k n pc Ls (.int z :: st)) :
    ∃ h' a cA, a = h.size ∧ Ext h h' ∧ Arr Z h' a (newA cA ty z) ty ∧ W h' (k + 1) (n + cap) (pc + 2) Ls (.ref a :: st) := by
  subst hty
  obtain ⟨p, e, s, m, args, below, meth, c, S0, hx, hby, hml, hown, hZ, hnm, hret, hlk, rfl, rfl⟩ := H
  obtain ⟨T, locs, X, eh, N, sp⟩ := r
  obtain ⟨T', h', cA, X', e', E', A', q'⟩ := RoadKit.newP X hx hZ w eh (g := mkF m pc Ls (.int z :: st)) rfl (hb hby hd) rfl hn hcap hb8 hc hl
  exact ⟨h', _, cA, rfl, E', A', T', _, X', e', N, fun t u => sp t (q' t u)⟩
theorem Wk.arrLen (H : Wk l Z y code mx ret R n0 W V) {a : Addr} {cl : Cell} {ty : FieldType} {z : Int32} (A : Arr Z h a cl ty) (hz : cl.slots.size.toInt32 = z) (hd : decode code pc = .ok (.arraylength, 1)) (r : W h k n pc Ls (.ref a :: st)) : W h k n (pc + 1) Ls (.int z :: st) := by
  subst hz
  exact H.stepX r fun X hx hby hml hown hZ eT => ⟨_, X, eT, X.arraylength hx (by rw [eT]; exact A.1) (State.isArrayOf_alike hZ.alike A.2.1) (g := mkF _ pc Ls (.ref a :: st)) rfl rfl (hb hby hd)⟩
theorem Wk.iaload (H : Wk l Z y code mx ret R n0 W V) {a : Addr} {cl : Cell} {j : Int32} {v : Value} (A : Arr Z h a cl .int) (hin : ¬ (j < 0 ∨ cl.slots.size ≤ j.toNatClampNeg)) (hv : cl.slots[j.toNatClampNeg]? = some v) (hd : decode code pc = .ok (.iaload, 1)) (r : W h k n pc Ls (.int j :: .ref a :: st)) : W h k n (pc + 1) Ls (v :: st) :=
  H.stepX r fun X hx hby hml hown hZ eT => ⟨_, X, eT, X.iaload hx (by rw [eT]; exact A.1) (State.isArrayOf_alike hZ.alike A.2.1) A.2.2 hin hv (g := mkF _ pc Ls (.int j :: .ref a :: st)) rfl rfl (hb hby hd)⟩
theorem Wk.laload (H : Wk l Z y code mx ret R n0 W V) {a : Addr} {cl : Cell} {j : Int32} {v : Value} (A : Arr Z h a cl .long) (hin : ¬ (j < 0 ∨ cl.slots.size ≤ j.toNatClampNeg)) (hv : cl.slots[j.toNatClampNeg]? = some v) (hd : decode code pc = .ok (.laload, 1)) (r : W h k n pc Ls (.int j :: .ref a :: st)) : W h k n (pc + 1) Ls (v :: st) :=
  H.stepX r fun X hx hby hml hown hZ eT => ⟨_, X, eT, X.laload hx (by rw [eT]; exact A.1) (State.isArrayOf_alike hZ.alike A.2.1) A.2.2 hin hv (g := mkF _ pc Ls (.int j :: .ref a :: st)) rfl rfl (hb hby hd)⟩
theorem Wk.caload (H : Wk l Z y code mx ret R n0 W V) {a : Addr} {cl : Cell} {j : Int32} {v : Value} (A : Arr Z h a cl .char) (hin : ¬ (j < 0 ∨ cl.slots.size ≤ j.toNatClampNeg)) (hv : cl.slots[j.toNatClampNeg]? = some v) (hd : decode code pc = .ok (.caload, 1)) (r : W h k n pc Ls (.int j :: .ref a :: st)) : W h k n (pc + 1) Ls (v :: st) :=
  H.stepX r fun X hx hby hml hown hZ eT => ⟨_, X, eT, X.caload hx (by rw [eT]; exact A.1) (State.isArrayOf_alike hZ.alike A.2.1) A.2.2 hin hv (g := mkF _ pc Ls (.int j :: .ref a :: st)) rfl rfl (hb hby hd)⟩
theorem Wk.baload (H : Wk l Z y code mx ret R n0 W V) {a : Addr} {cl : Cell} {j : Int32} {v : Value} (A : Arr Z h a cl .byte) (hin : ¬ (j < 0 ∨ cl.slots.size ≤ j.toNatClampNeg)) (hv : cl.slots[j.toNatClampNeg]? = some v) (hd : decode code pc = .ok (.baload, 1)) (r : W h k n pc Ls (.int j :: .ref a :: st)) : W h k n (pc + 1) Ls (v :: st) :=
  H.stepX r fun X hx hby hml hown hZ eT => ⟨_, X, eT, X.baloadBytes hx (by rw [eT]; exact A.1) (State.isArrayOf_alike hZ.alike A.2.1) A.2.2 hin hv (g := mkF _ pc Ls (.int j :: .ref a :: st)) rfl rfl (hb hby hd)⟩
theorem Wk.aaload (H : Wk l Z y code mx ret R n0 W V) {a : Addr} {cl : Cell} {ty : FieldType} {j : Int32} {v : Value} (A : Arr Z h a cl ty) (hty : ty.isReference = true) (hin : ¬ (j < 0 ∨ cl.slots.size ≤ j.toNatClampNeg)) (hv : cl.slots[j.toNatClampNeg]? = some v) (hd : decode code pc = .ok (.aaload, 1)) (r : W h k n pc Ls (.int j :: .ref a :: st)) : W h k n (pc + 1) Ls (v :: st) :=
  H.stepX r fun X hx hby hml hown hZ eT => ⟨_, X, eT, X.aaload hx (by rw [eT]; exact A.1) (State.isArrayOf_alike hZ.alike A.2.1) hty A.2.2 hin hv (g := mkF _ pc Ls (.int j :: .ref a :: st)) rfl rfl (hb hby hd)⟩
theorem Wk.stI (H : Wk l Z y code mx ret R n0 W V) {a : Addr} {cl : Cell} {j : Int32} {x : Int32} (A : Arr Z h a cl .int) (hin : ¬ (j < 0 ∨ cl.slots.size ≤ j.toNatClampNeg)) (hn0 : n0 ≤ a) (hd : decode code pc = .ok (.iastore, 1)) (r : W h k n pc Ls (.int x :: .int j :: .ref a :: st)) : ∃ h', Wr h h' a j.toNatClampNeg (.int x) ∧ W h' k n (pc + 1) Ls st := by
  obtain ⟨p, e, s, m, args, below, meth, c, S0, hx, hby, hml, hown, hZ, hnm, hret, hlk, rfl, rfl⟩ := H
  obtain ⟨T, locs, X, eh, N, sp⟩ := r
  obtain ⟨T', h', X', e', W', q⟩ := RoadKit.stI X hx hZ eh A hin (g := mkF m pc Ls (.int x :: .int j :: .ref a :: st)) rfl rfl (hb hby hd)
  exact ⟨h', W', T', _, X', e', Fr.snoc X' N hn0, fun t u => sp t (q t u)⟩
theorem Wk.stJ (H : Wk l Z y code mx ret R n0 W V) {a : Addr} {cl : Cell} {j : Int32} {x : Int64} (A : Arr Z h a cl .long) (hin : ¬ (j < 0 ∨ cl.slots.size ≤ j.toNatClampNeg)) (hn0 : n0 ≤ a) (hd : decode code pc = .ok (.lastore, 1)) (r : W h k n pc Ls (.long x :: .int j :: .ref a :: st)) : ∃ h', Wr h h' a j.toNatClampNeg (.long x) ∧ W h' k n (pc + 1) Ls st := by
  obtain ⟨p, e, s, m, args, below, meth, c, S0, hx, hby, hml, hown, hZ, hnm, hret, hlk, rfl, rfl⟩ := H
  obtain ⟨T, locs, X, eh, N, sp⟩ := r
  obtain ⟨T', h', X', e', W', q⟩ := RoadKit.stJ X hx hZ eh A hin (g := mkF m pc Ls (.long x :: .int j :: .ref a :: st)) rfl rfl (hb hby hd)
  exact ⟨h', W', T', _, X', e', Fr.snoc X' N hn0, fun t u => sp t (q t u)⟩
theorem Wk.stC (H : Wk l Z y code mx ret R n0 W V) {a : Addr} {cl : Cell} {j : Int32} {x : Int32} (A : Arr Z h a cl .char) (hin : ¬ (j < 0 ∨ cl.slots.size ≤ j.toNatClampNeg)) (hn0 : n0 ≤ a) (hd : decode code pc = .ok (.castore, 1)) (r : W h k n pc Ls (.int x :: .int j :: .ref a :: st)) : ∃ h', Wr h h' a j.toNatClampNeg (.int (nar .char x)) ∧ W h' k n (pc + 1) Ls st := by
  obtain ⟨p, e, s, m, args, below, meth, c, S0, hx, hby, hml, hown, hZ, hnm, hret, hlk, rfl, rfl⟩ := H
  obtain ⟨T, locs, X, eh, N, sp⟩ := r
  obtain ⟨T', h', X', e', W', q⟩ := RoadKit.stC X hx hZ eh A hin (g := mkF m pc Ls (.int x :: .int j :: .ref a :: st)) rfl rfl (hb hby hd)
  exact ⟨h', W', T', _, X', e', Fr.snoc X' N hn0, fun t u => sp t (q t u)⟩
theorem Wk.stB (H : Wk l Z y code mx ret R n0 W V) {a : Addr} {cl : Cell} {j : Int32} {x : Int32} (A : Arr Z h a cl .byte) (hin : ¬ (j < 0 ∨ cl.slots.size ≤ j.toNatClampNeg)) (hn0 : n0 ≤ a) (hd : decode code pc = .ok (.bastore, 1)) (r : W h k n pc Ls (.int x :: .int j :: .ref a :: st)) : ∃ h', Wr h h' a j.toNatClampNeg (.int (nar .byte x)) ∧ W h' k n (pc + 1) Ls st := by
  obtain ⟨p, e, s, m, args, below, meth, c, S0, hx, hby, hml, hown, hZ, hnm, hret, hlk, rfl, rfl⟩ := H
  obtain ⟨T, locs, X, eh, N, sp⟩ := r
  obtain ⟨T', h', X', e', W', q⟩ := RoadKit.stB X hx hZ eh A hin (g := mkF m pc Ls (.int x :: .int j :: .ref a :: st)) rfl rfl (hb hby hd)
  exact ⟨h', W', T', _, X', e', Fr.snoc X' N hn0, fun t u => sp t (q t u)⟩
theorem Wk.initO (H : Wk l Z y code mx ret R n0 W V) {i w : Nat} {a : Addr} (w1 : (Jvm.Cond.methodLink y.cls i Lib.objectInit).before a0 Z = true) (w2 : (Jvm.Cond.instanceMethod Lib.objectInit).before a0 Z = true) (w3 : (Jvm.Cond.code Lib.objectInit ⟨#[0xb1]⟩ 1 none).before a0 Z = true) (hsz : Ls.size = mx) (hf : 1 ≤ R.frames) (hw : (st.map fun v => v.category).sum ≤ w) (hl : w + 12 ≤ R.locals) (hd : decode code pc = .ok (.invokespecial i, 3)) (r : W h k n pc Ls (.ref a :: st)) : W h k n (pc + 3) Ls st :=
  H.stepX r fun X hx hby hml hown hZ eT => RoadKit.initO X hx hZ hown w1 w2 w3 eT (g := mkF _ pc Ls (.ref a :: st)) rfl (by rw [hml]; exact hsz) rfl (hb hby hd) hf (by show 2 * 0 + _ ≤ _; omega) hl
variable {y' : MethodName} {bytes' : ByteArray} {mx' : Nat} {ret' : Option FieldType} {rm' : Room} {as' : Array Value} {Q : Option Value → Heap → Prop} {i w : Nat} {ps : List FieldType} {rt : Option FieldType} {argsL rest : List Value}
theorem Wk.callS (H : Wk l Z y code mx ret R n0 W V) (w1 : (Jvm.Cond.methodLink y.cls i y').before a0 Z = true) (w2 : (Jvm.Cond.static y').before a0 Z = true) (w3 : (Jvm.Cond.initialized y'.cls).before a0 Z = true) (w4 : (Jvm.Cond.code y' bytes' mx' ret').before a0 Z = true) (hy : y'.cls ≠ "java/lang/invoke/MethodHandle" ∧ y'.cls ≠ "java/lang/invoke/VarHandle")
    (hpd : parseMethodDescriptor y'.desc = some ⟨ps, rt⟩) (hf : rm'.frames + 1 ≤ R.frames) (hl : w + (mx' + 11) + rm'.locals ≤ R.locals) (hc : k + rm'.cells ≤ R.cells) (hn : n + rm'.slots ≤ R.slots) (hM : Ct l Z y' bytes' mx' ret' rm' n0 argsL.toArray h Q) (hlen : argsL.length = ps.length) (hsz : Ls.size = mx) (hw : (rest.map fun v => v.category).sum ≤ w) (hst : st = argsL.reverse ++ rest) (hd : decode code pc = .ok (.invokestatic i, 3)) (r : W h k n pc Ls st) :
    ∃ v h', Q v h' ∧ W h' (k + rm'.cells) (n + rm'.slots) (pc + 3) Ls (v.toList ++ rest) := by
  subst hst
  obtain ⟨p, e, s, m, args, below, meth, c, S0, hx, hby, hml, hown, hZ, hnm, hret, hlk, rfl, rfl⟩ := H
  obtain ⟨T, locs, X, eh, N, sp⟩ := r
  obtain ⟨v, _, ⟨T1, L1, k1, n1⟩, -, X1, ⟨Lc, hQ, g1, g2, g3⟩, st1⟩ := Jvm.LawKit.callS X hx (y := y') hown (mvT hZ w1) (mvT hZ w2) (mvT hZ w3) (mvT hZ w4) hy (backOf (W := w) (Q := fun v hh L => Q v hh ∧ Fr n0 L) (hM []) hZ w4 w3 hf hl) (g := mkF m pc Ls (argsL.reverse ++ rest)) rfl (by rw [hml]; exact hsz) (argsL := argsL) (rest := rest) (lenOf hpd hlen) rfl (by show 2 * 0 + _ ≤ _; omega) (hb hby hd) (fun _ _ => ⟨rfl, eh, hc, hn⟩)
  dsimp only [Pt.U, Pt.locs, Pt.cells, Pt.slots] at X1 g1 g2 g3 st1 hQ
  subst g1 g2 g3
  exact ⟨v, T1.heap, hQ.1, T1, _, X1, rfl, Fr.app N hQ.2, fun t u => sp t (st1 t u)⟩
theorem Wk.callI (H : Wk l Z y code mx ret R n0 W V) {a : Addr} (hi : y'.name = "<init>") (w1 : (Jvm.Cond.methodLink y.cls i y').before a0 Z = true) (w2 : (Jvm.Cond.instanceMethod y').before a0 Z = true) (w3 : (Jvm.Cond.initialized y'.cls).before a0 Z = true) (w4 : (Jvm.Cond.code y' bytes' mx' none).before a0 Z = true) (hy : y'.cls ≠ "java/lang/invoke/MethodHandle" ∧ y'.cls ≠ "java/lang/invoke/VarHandle")
    (hpd : parseMethodDescriptor y'.desc = some ⟨ps, rt⟩) (hf : rm'.frames + 1 ≤ R.frames) (hl : w + (mx' + 11) + rm'.locals ≤ R.locals) (hc : k + rm'.cells ≤ R.cells) (hn : n + rm'.slots ≤ R.slots) (hM : Ct l Z y' bytes' mx' none rm' n0 (.ref a :: argsL).toArray h Q) (hlen : argsL.length = ps.length) (hsz : Ls.size = mx) (hw : (rest.map fun v => v.category).sum ≤ w) (hst : st = argsL.reverse ++ .ref a :: rest) (hd : decode code pc = .ok (.invokespecial i, 3)) (r : W h k n pc Ls st) :
    ∃ v h', Q v h' ∧ W h' (k + rm'.cells) (n + rm'.slots) (pc + 3) Ls (v.toList ++ rest) := by
  subst hst
  obtain ⟨p, e, s, m, args, below, meth, c, S0, hx, hby, hml, hown, hZ, hnm, hret, hlk, rfl, rfl⟩ := H
  obtain ⟨T, locs, X, eh, N, sp⟩ := r
  obtain ⟨v, _, ⟨T1, L1, k1, n1⟩, -, X1, ⟨Lc, hQ, g1, g2, g3⟩, st1⟩ := X.specialBack hx (y := y') hi hown (mvT hZ w1) (mvT hZ w2) (mvT hZ w4) hy (backOf (W := w) (Q := fun v hh L => Q v hh ∧ Fr n0 L) (hM []) hZ w4 w3 hf hl) (g := mkF m pc Ls (argsL.reverse ++ .ref a :: rest)) rfl (by rw [hml]; exact hsz) (Steps.refl _) (a := a) (argsL := argsL) (rest := rest) (lenOf hpd hlen) rfl (by show 2 * 0 + _ ≤ _; omega) (hb hby hd) (fun _ _ => ⟨rfl, eh, hc, hn⟩)
  dsimp only [Pt.U, Pt.locs, Pt.cells, Pt.slots] at X1 g1 g2 g3 st1 hQ
  subst g1 g2 g3
  exact ⟨v, T1.heap, hQ.1, T1, _, X1, rfl, Fr.app N hQ.2, fun t u => sp t (st1.trans u)⟩
theorem Wk.callV (H : Wk l Z y code mx ret R n0 W V) {a : Addr} {C : String} {z' : MethodName} (w1 : (Jvm.Cond.methodLink y.cls i z').before a0 Z = true) (w2 : (Jvm.Cond.declares z').before a0 Z = true) (nf : NF Z a0 z') (w5 : (Jvm.Cond.selects C z' y').before a0 Z = true) (w6 : (Jvm.Cond.instanceMethod y').before a0 Z = true) (w3 : (Jvm.Cond.initialized y'.cls).before a0 Z = true) (w4 : (Jvm.Cond.code y' bytes' mx' ret').before a0 Z = true) (hy : z'.cls ≠ "java/lang/invoke/MethodHandle" ∧ z'.cls ≠ "java/lang/invoke/VarHandle")
    (hpd : parseMethodDescriptor z'.desc = some ⟨ps, rt⟩) (hf : rm'.frames + 1 ≤ R.frames) (hl : w + (mx' + 11) + rm'.locals ≤ R.locals) (hc : k + rm'.cells ≤ R.cells) (hn : n + rm'.slots ≤ R.slots) (E : Exa Z h a C) (hM : Ct l Z y' bytes' mx' ret' rm' n0 (.ref a :: argsL).toArray h Q) (hlen : argsL.length = ps.length) (hsz : Ls.size = mx) (hw : (rest.map fun v => v.category).sum ≤ w) (hst : st = argsL.reverse ++ .ref a :: rest) (hd : decode code pc = .ok (.invokevirtual i, 3)) (r : W h k n pc Ls st) :
    ∃ v h', Q v h' ∧ W h' (k + rm'.cells) (n + rm'.slots) (pc + 3) Ls (v.toList ++ rest) := by
  subst hst
  obtain ⟨p, e, s, m, args, below, meth, c, S0, hx, hby, hml, hown, hZ, hnm, hret, hlk, rfl, rfl⟩ := H
  obtain ⟨T, locs, X, eh, N, sp⟩ := r
  obtain ⟨cq, kq, qa, qb, qc⟩ := isOf (s := s) (T := T) hZ eh E
  obtain ⟨v, _, ⟨T1, L1, k1, n1⟩, -, X1, ⟨Lc, hQ, g1, g2, g3⟩, st1⟩ := X.virtualBack hx (y := z') (z := y') hown (mvT hZ w1) (mvT hZ w2) (nf.at hZ) (mvT hZ w5) (mvT hZ w6) hy (backOf (W := w) (Q := fun v hh L => Q v hh ∧ Fr n0 L) (hM []) hZ w4 w3 hf hl) qa qc (g := mkF m pc Ls (argsL.reverse ++ .ref a :: rest)) rfl (by rw [hml]; exact hsz) (Steps.refl _) (argsL := argsL) (rest := rest) (lenOf hpd hlen) rfl (by show 2 * 0 + _ ≤ _; omega) (hb hby hd) (fun _ _ => ⟨rfl, eh, hc, hn⟩)
  dsimp only [Pt.U, Pt.locs, Pt.cells, Pt.slots] at X1 g1 g2 g3 st1 hQ
  subst g1 g2 g3
  exact ⟨v, T1.heap, hQ.1, T1, _, X1, rfl, Fr.app N hQ.2, fun t u => sp t (st1.trans u)⟩
theorem Wk.callSP (H : Wk l Z y code mx ret R n0 W V) {v0 : Option Value} (w1 : (Jvm.Cond.methodLink y.cls i y').before a0 Z = true) (w2 : (Jvm.Cond.static y').before a0 Z = true) (w3 : (Jvm.Cond.initialized y'.cls).before a0 Z = true) (w4 : (Jvm.Cond.code y' bytes' mx' ret').before a0 Z = true) (hy : y'.cls ≠ "java/lang/invoke/MethodHandle" ∧ y'.cls ≠ "java/lang/invoke/VarHandle")
    (hpd : parseMethodDescriptor y'.desc = some ⟨ps, rt⟩) (hf : rm'.frames + 1 ≤ R.frames) (hl : w + (mx' + 11) + rm'.locals ≤ R.locals) (hc : k + rm'.cells ≤ R.cells) (hn : n + rm'.slots ≤ R.slots) (hM : Ct l Z y' bytes' mx' ret' rm' n0 argsL.toArray h (fun v h' => v = v0 ∧ h' = h)) (hlen : argsL.length = ps.length) (hsz : Ls.size = mx) (hw : (rest.map fun v => v.category).sum ≤ w) (hst : st = argsL.reverse ++ rest) (hd : decode code pc = .ok (.invokestatic i, 3)) (r : W h k n pc Ls st) :
    W h (k + rm'.cells) (n + rm'.slots) (pc + 3) Ls (v0.toList ++ rest) := by
  obtain ⟨v, h', ⟨e1, e2⟩, r'⟩ := H.callS w1 w2 w3 w4 hy hpd hf hl hc hn hM hlen hsz hw hst hd r
  rw [← e1, ← e2]
  rw [e2] at r' ⊢
  exact r'
theorem Wk.callVP (H : Wk l Z y code mx ret R n0 W V) {v0 : Option Value} {a : Addr} {C : String} {z' : MethodName} (w1 : (Jvm.Cond.methodLink y.cls i z').before a0 Z = true) (w2 : (Jvm.Cond.declares z').before a0 Z = true) (nf : NF Z a0 z') (w5 : (Jvm.Cond.selects C z' y').before a0 Z = true) (w6 : (Jvm.Cond.instanceMethod y').before a0 Z = true) (w3 : (Jvm.Cond.initialized y'.cls).before a0 Z = true) (w4 : (Jvm.Cond.code y' bytes' mx' ret').before a0 Z = true) (hy : z'.cls ≠ "java/lang/invoke/MethodHandle" ∧ z'.cls ≠ "java/lang/invoke/VarHandle")
    (hpd : parseMethodDescriptor z'.desc = some ⟨ps, rt⟩) (hf : rm'.frames + 1 ≤ R.frames) (hl : w + (mx' + 11) + rm'.locals ≤ R.locals) (hc : k + rm'.cells ≤ R.cells) (hn : n + rm'.slots ≤ R.slots) (E : Exa Z h a C) (hM : Ct l Z y' bytes' mx' ret' rm' n0 (.ref a :: argsL).toArray h (fun v h' => v = v0 ∧ h' = h)) (hlen : argsL.length = ps.length) (hsz : Ls.size = mx) (hw : (rest.map fun v => v.category).sum ≤ w) (hst : st = argsL.reverse ++ .ref a :: rest) (hd : decode code pc = .ok (.invokevirtual i, 3)) (r : W h k n pc Ls st) :
    W h (k + rm'.cells) (n + rm'.slots) (pc + 3) Ls (v0.toList ++ rest) := by
  obtain ⟨v, h', ⟨e1, e2⟩, r'⟩ := H.callV w1 w2 nf w5 w6 w3 w4 hy hpd hf hl hc hn E hM hlen hsz hw hst hd r
  rw [← e1, ← e2]
  rw [e2] at r' ⊢
  exact r'
theorem Wk.retV (H : Wk l Z y code mx ret R n0 W V) {v : Value} {t : FieldType} {ins : Instr} (ht : ret = some t) (hn' : narrow t v = v) (hi : (ins = .ireturn ∧ (t = .int ∨ t = .boolean ∨ t = .byte ∨ t = .char ∨ t = .short) ∧ ∃ z, v = .int z) ∨ (ins = .lreturn ∧ t = .long ∧ ∃ z, v = .long z) ∨ (ins = .dreturn ∧ t = .double ∧ ∃ z, v = .double z) ∨ (ins = .freturn ∧ t = .float ∧ ∃ z, v = .float z) ∨ (ins = .areturn ∧ t.isReference = true ∧ v.isRef = true))
    (hk : k ≤ R.cells) (hn : n ≤ R.slots) (hd : decode code pc = .ok (ins, 1)) (r : W h k n pc Ls (v :: st)) : V (some v) h := by
  obtain ⟨p, e, s, m, args, below, meth, c, S0, hx, hby, hml, hown, hZ, hnm, hret, hlk, rfl, rfl⟩ := H
  obtain ⟨T, locs, X, eh, N, sp⟩ := r
  have hrt : meth.sig.returnType = some t := hret.trans ht
  obtain ⟨fs, hr, hrun, hended, hW, hsame⟩ := X.leave (v := some v) (fun q => by rw [hrt] at q; cases q) hlk
  exact ⟨_, locs, sp _ (retOut X hx hrt hn' hi (hb hby hd) hr), hrun, hended, eh, N, ⟨_, rfl⟩, hW, hsame.mono hk hn⟩
theorem Wk.retI (H : Wk l Z y code mx ret R n0 W V) {z : Int32} (ht : ret = some .int) (hk : k ≤ R.cells) (hn : n ≤ R.slots) (hd : decode code pc = .ok (.ireturn, 1)) (r : W h k n pc Ls (.int z :: st)) : V (some (.int z)) h :=
  H.retV ht rfl (Or.inl ⟨rfl, Or.inl rfl, z, rfl⟩) hk hn hd r
theorem Wk.retJ (H : Wk l Z y code mx ret R n0 W V) {z : Int64} (ht : ret = some .long) (hk : k ≤ R.cells) (hn : n ≤ R.slots) (hd : decode code pc = .ok (.lreturn, 1)) (r : W h k n pc Ls (.long z :: st)) : V (some (.long z)) h :=
  H.retV ht rfl (Or.inr (Or.inl ⟨rfl, rfl, z, rfl⟩)) hk hn hd r
theorem Wk.retZ (H : Wk l Z y code mx ret R n0 W V) {z z' : Int32} (hz : z &&& 1 = z') (ht : ret = some .boolean) (hk : k ≤ R.cells) (hn : n ≤ R.slots) (hd : decode code pc = .ok (.ireturn, 1)) (r : W h k n pc Ls (.int z :: st)) : V (some (.int z')) h := by
  subst hz
  obtain ⟨p, e, s, m, args, below, meth, c, S0, hx, hby, hml, hown, hZ, hnm, hret, hlk, rfl, rfl⟩ := H
  obtain ⟨T, locs, X, eh, N, sp⟩ := r
  have hrt : meth.sig.returnType = some .boolean := hret.trans ht
  obtain ⟨fs, hr, hrun, hended, hW, hsame⟩ := X.leave (v := some (.int (nar .boolean z))) (fun q => by rw [hrt] at q; cases q) hlk
  exact ⟨_, locs, sp _ (retN X hx hrt (by simp) (hb hby hd) hr), hrun, hended, eh, N, ⟨_, rfl⟩, hW, hsame.mono hk hn⟩
theorem Wk.retB (H : Wk l Z y code mx ret R n0 W V) {z z' : Int32} (hz : z.toInt8.toInt32 = z') (ht : ret = some .byte) (hk : k ≤ R.cells) (hn : n ≤ R.slots) (hd : decode code pc = .ok (.ireturn, 1)) (r : W h k n pc Ls (.int z :: st)) : V (some (.int z')) h := by
  subst hz
  obtain ⟨p, e, s, m, args, below, meth, c, S0, hx, hby, hml, hown, hZ, hnm, hret, hlk, rfl, rfl⟩ := H
  obtain ⟨T, locs, X, eh, N, sp⟩ := r
  have hrt : meth.sig.returnType = some .byte := hret.trans ht
  obtain ⟨fs, hr, hrun, hended, hW, hsame⟩ := X.leave (v := some (.int (nar .byte z))) (fun q => by rw [hrt] at q; cases q) hlk
  exact ⟨_, locs, sp _ (retN X hx hrt (by simp) (hb hby hd) hr), hrun, hended, eh, N, ⟨_, rfl⟩, hW, hsame.mono hk hn⟩
theorem Wk.retC (H : Wk l Z y code mx ret R n0 W V) {z z' : Int32} (hz : z.toUInt32.toUInt16.toUInt32.toInt32 = z') (ht : ret = some .char) (hk : k ≤ R.cells) (hn : n ≤ R.slots) (hd : decode code pc = .ok (.ireturn, 1)) (r : W h k n pc Ls (.int z :: st)) : V (some (.int z')) h := by
  subst hz
  obtain ⟨p, e, s, m, args, below, meth, c, S0, hx, hby, hml, hown, hZ, hnm, hret, hlk, rfl, rfl⟩ := H
  obtain ⟨T, locs, X, eh, N, sp⟩ := r
  have hrt : meth.sig.returnType = some .char := hret.trans ht
  obtain ⟨fs, hr, hrun, hended, hW, hsame⟩ := X.leave (v := some (.int (nar .char z))) (fun q => by rw [hrt] at q; cases q) hlk
  exact ⟨_, locs, sp _ (retN X hx hrt (by simp) (hb hby hd) hr), hrun, hended, eh, N, ⟨_, rfl⟩, hW, hsame.mono hk hn⟩
theorem Wk.retR (H : Wk l Z y code mx ret R n0 W V) {v : Value} {t : FieldType} (ht : ret = some t) (htr : t.isReference = true) (hv : v.isRef = true) (hk : k ≤ R.cells) (hn : n ≤ R.slots) (hd : decode code pc = .ok (.areturn, 1)) (r : W h k n pc Ls (v :: st)) : V (some v) h :=
  H.retV ht (by cases v <;> simp [Value.isRef] at hv <;> cases t <;> simp [FieldType.isReference] at htr <;> rfl) (Or.inr (Or.inr (Or.inr (Or.inr ⟨rfl, htr, hv⟩)))) hk hn hd r
theorem Wk.retN (H : Wk l Z y code mx ret R n0 W V) (ht : ret = none) (hk : k ≤ R.cells) (hn : n ≤ R.slots) (hd : decode code pc = .ok (.return_, 1)) (r : W h k n pc Ls []) : V none h := by
  obtain ⟨p, e, s, m, args, below, meth, c, S0, hx, hby, hml, hown, hZ, hnm, hret, hlk, rfl, rfl⟩ := H
  obtain ⟨T, locs, X, eh, N, sp⟩ := r
  have hrt : meth.sig.returnType = none := hret.trans ht
  obtain ⟨fs, hr, hrun, hended, hW, hsame⟩ := X.leave (v := none) (fun _ => rfl) hlk
  exact ⟨_, locs, sp _ (X.returnOut hx hrt (hb hby hd) hr), hrun, hended, eh, N, ⟨_, rfl⟩, hW, hsame.mono hk hn⟩
end Steps
end Jvm.OwnW
namespace Jvm.OwnW
open Jvm Jvm.ClassFile Sem Op Lib Jvm.Free Jvm.Stand Jvm.LawKit Jvm.RoadKit Bundle
/-- an array at a, of components ty, that holds just vs -/
def Ary (Z : State) (h : Heap) (a : Addr) (ty : FieldType) (vs : List Value) : Prop := ∃ c : Cell, Arr Z h a c ty ∧ c.slots = vs.toArray
section Arrays
variable {l : Launch} {Z : State} {y : MethodName} {code : ByteArray} {mx : Nat} {ret : Option FieldType} {R : Room} {n0 : Nat} {W : WT} {V : VT} {h h' : Heap} {k n pc : Nat} {Ls : Array Slot} {st : List Value} {a0 : Array Value} {a b : Addr} {ty : FieldType} {vs : List Value} {ws : List Addr} {sl : Nat} {v : Value}
theorem Ary.lt (A : Ary Z h a ty vs) : a < h.size := by obtain ⟨c, A, -⟩ := A; exact A.lt
theorem Ary.ext (A : Ary Z h a ty vs) (E : Ext h h') : Ary Z h' a ty vs := by obtain ⟨c, A, q⟩ := A; exact ⟨c, A.ext E, q⟩
theorem Ary.other (A : Ary Z h b ty vs) (w : Wr h h' a sl v) (ne : b ≠ a) : Ary Z h' b ty vs := by obtain ⟨c, A, q⟩ := A; exact ⟨c, A.other w ne, q⟩
theorem Ary.keep (A : Ary Z h a ty vs) (K : Keep h h' ws) (q : a ∉ ws) : Ary Z h' a ty vs := by obtain ⟨c, A, r⟩ := A; exact ⟨c, ⟨K.2.1 a c A.1 q, A.2⟩, r⟩
theorem Ary.same (A : Ary Z h a ty vs) (w : Wr h h' a sl v) : Ary Z h' a ty (vs.set sl v) := by
  obtain ⟨c, A, q⟩ := A
  refine ⟨_, A.same w, ?_⟩
  show c.slots.setIfInBounds sl v = _
  rw [q, List.setIfInBounds_toArray]
theorem idx_ok {j : Int32} {i : Nat} (hj : j.toInt = i) : j.toNatClampNeg = i ∧ ¬ j < 0 := by
  refine ⟨?_, ?_⟩
  · show j.toInt.toNat = i
    rw [hj]; rfl
  · rw [Int32.lt_iff_toInt_lt, hj, Int32.toInt_zero]
    omega
theorem idx_in' {j : Int32} {i : Nat} (hj : j.toInt = i) {c : Cell} (q : c.slots = vs.toArray) (hi : i < vs.length) : ¬ (j < 0 ∨ c.slots.size ≤ j.toNatClampNeg) := by
  obtain ⟨h1, h2⟩ := idx_ok hj
  rw [h1, q, List.size_toArray]
  exact fun u => u.elim h2 (fun u => by omega)
theorem Wk.newA (H : Wk l Z y code mx ret R n0 W V) {aty : ArrayType} {z : Int32} {cap i : Nat} {d : Value} (hty : newarray.typeOf aty = ty) (hdv : defaultValue ty = d) (w : (Jvm.Cond.arrayClass ty).before a0 Z = true) (hz : z.toInt = i) (hcap : i ≤ cap) (hb8 : cap * 8 ≤ 536870912) (hc : k + 1 ≤ R.cells) (hl : n + cap ≤ R.slots) (hd : decode code pc = .ok (.newarray aty, 2)) (r : W h k n pc Ls (.int z :: st)) :
    ∃ h' a, a = h.size ∧ Ext h h' ∧ Ary Z h' a ty (List.replicate i d) ∧ W h' (k + 1) (n + cap) (pc + 2) Ls (.ref a :: st) := by
  obtain ⟨h1, h2⟩ := idx_ok hz
  obtain ⟨h', a, cA, e, E, A, r'⟩ := H.newP hty w h2 (by rw [h1]; exact hcap) hb8 hc hl hd r
  refine ⟨h', a, e, E, ⟨_, A, ?_⟩, r'⟩
  show Array.replicate z.toNatClampNeg (defaultValue ty) = _
  rw [h1, hdv, List.toArray_replicate]
theorem Wk.newAE (H : Wk l Z y code mx ret R n0 W V) {aty : ArrayType} {z : Int32} {cap i : Nat} {d : Value} {ad : String} (hty : newarray.typeOf aty = ty) (hdv : defaultValue ty = d) (had : "[" ++ ty.toString = ad) (w : (Jvm.Cond.arrayClass ty).before a0 Z = true) (hz : z.toInt = i) (hcap : i ≤ cap) (hb8 : cap * 8 ≤ 536870912) (hc : k + 1 ≤ R.cells) (hl : n + cap ≤ R.slots) (hd : decode code pc = .ok (.newarray aty, 2)) (r : W h k n pc Ls (.int z :: st)) :
    ∃ h' a, a = h.size ∧ Ext h h' ∧ Ary Z h' a ty (List.replicate i d) ∧ Exa Z h' a ad ∧ W h' (k + 1) (n + cap) (pc + 2) Ls (.ref a :: st) := by
  obtain ⟨h1, h2⟩ := idx_ok hz
  subst hty
  obtain ⟨p, e, s, m, args, below, meth, c, S0, hx, hby, hml, hown, hZ, hnm, hret, hlk, rfl, rfl⟩ := H
  obtain ⟨T, locs, X, eh, N, sp⟩ := r
  obtain ⟨T', h', cA, X', e', E', A', EX, q'⟩ := RoadKit.newPE X hx hZ w eh (g := mkF m pc Ls (.int z :: st)) rfl (hb hby hd) rfl h2 (by rw [h1]; exact hcap) hb8 hc hl had
  refine ⟨h', _, rfl, E', ⟨_, A', ?_⟩, EX, T', _, X', e', N, fun t u => sp t (q' t u)⟩
  show Array.replicate z.toNatClampNeg (defaultValue (newarray.typeOf aty)) = _
  rw [h1, hdv, List.toArray_replicate]
theorem Wk.cloneA (H : Wk l Z y code mx ret R n0 W V) {i w cap : Nat} {ad : String} (w1 : (Jvm.Cond.methodLink y.cls i ⟨ad, "clone", "()Ljava/lang/Object;"⟩).before a0 Z = true) (w2 : (Jvm.Cond.sameMethod ad "java/lang/Object" "clone" "()Ljava/lang/Object;").before a0 Z = true) (w3 : (Jvm.Cond.native ⟨"java/lang/Object", "clone", "()Ljava/lang/Object;"⟩).before a0 Z = true)
    (w4 : (Jvm.Cond.instanceMethod ⟨"java/lang/Object", "clone", "()Ljava/lang/Object;"⟩).before a0 Z = true) (w5 : (Jvm.Cond.selects ad ⟨ad, "clone", "()Ljava/lang/Object;"⟩ ⟨"java/lang/Object", "clone", "()Ljava/lang/Object;"⟩).before a0 Z = true) (w6 : (Jvm.Cond.castable ad "java/lang/Cloneable").before a0 Z = true)
    (A : Ary Z h a ty vs) (E : Exa Z h a ad) (hfit : ∀ v ∈ vs, fits ty v = true) (hsz : Ls.size = mx) (hf : 1 ≤ R.frames) (hw : (st.map fun v => v.category).sum ≤ w) (hl : w + 14 ≤ R.locals) (hcap : vs.length ≤ cap) (hc : k + 1 ≤ R.cells) (hsl : n + cap ≤ R.slots) (hd : decode code pc = .ok (.invokevirtual i, 3)) (r : W h k n pc Ls (.ref a :: st)) :
    ∃ h' b, b = h.size ∧ Ext h h' ∧ Ary Z h' b ty vs ∧ Exa Z h' b ad ∧ W h' (k + 1) (n + cap) (pc + 3) Ls (.ref b :: st) := by
  obtain ⟨p, e, s, m, args, below, meth, c, S0, hx, hby, hml, hown, hZ, hnm, hret, hlk, rfl, rfl⟩ := H
  obtain ⟨T, locs, X, eh, N, sp⟩ := r
  obtain ⟨cl, Ar, q⟩ := A
  have hF : FitC Z cl := fitC_of Ar (fun j hj v hv => hfit v (by rw [q, List.getElem?_toArray] at hv; exact List.mem_of_getElem? hv))
  obtain ⟨T', h', X', e', E', A', EX, q'⟩ := RoadKit.cloneA X hx hZ hown w1 w2 w3 w4 w5 w6 eh Ar E hF (g := mkF m pc Ls (.ref a :: st)) rfl (by rw [hml]; exact hsz) rfl (hb hby hd) hf (by show 2 * 0 + _ ≤ _; omega) hl (by rw [q, List.size_toArray]; exact hcap) hc hsl
  exact ⟨h', _, rfl, E', ⟨_, A', q⟩, EX, T', _, X', e', N, fun t u => sp t (q' t u)⟩
theorem Wk.lenA (H : Wk l Z y code mx ret R n0 W V) {z : Int32} (A : Ary Z h a ty vs) (hz : vs.length.toInt32 = z) (hd : decode code pc = .ok (.arraylength, 1)) (r : W h k n pc Ls (.ref a :: st)) : W h k n (pc + 1) Ls (.int z :: st) := by
  obtain ⟨c, A, q⟩ := A
  exact H.arrLen A (by rw [q, List.size_toArray]; exact hz) hd r
theorem Wk.ldI (H : Wk l Z y code mx ret R n0 W V) {j : Int32} {i : Nat} (A : Ary Z h a .int vs) (hj : j.toInt = i) (hv : vs[i]? = some v) (hd : decode code pc = .ok (.iaload, 1)) (r : W h k n pc Ls (.int j :: .ref a :: st)) : W h k n (pc + 1) Ls (v :: st) := by
  obtain ⟨c, A, q⟩ := A
  obtain ⟨h1, h2⟩ := idx_ok hj
  exact H.iaload A (idx_in' hj q (List.getElem?_eq_some_iff.mp hv).1) (by rw [h1, q, List.getElem?_toArray]; exact hv) hd r
theorem Wk.ldJ (H : Wk l Z y code mx ret R n0 W V) {j : Int32} {i : Nat} (A : Ary Z h a .long vs) (hj : j.toInt = i) (hv : vs[i]? = some v) (hd : decode code pc = .ok (.laload, 1)) (r : W h k n pc Ls (.int j :: .ref a :: st)) : W h k n (pc + 1) Ls (v :: st) := by
  obtain ⟨c, A, q⟩ := A
  obtain ⟨h1, h2⟩ := idx_ok hj
  exact H.laload A (idx_in' hj q (List.getElem?_eq_some_iff.mp hv).1) (by rw [h1, q, List.getElem?_toArray]; exact hv) hd r
theorem Wk.ldC (H : Wk l Z y code mx ret R n0 W V) {j : Int32} {i : Nat} (A : Ary Z h a .char vs) (hj : j.toInt = i) (hv : vs[i]? = some v) (hd : decode code pc = .ok (.caload, 1)) (r : W h k n pc Ls (.int j :: .ref a :: st)) : W h k n (pc + 1) Ls (v :: st) := by
  obtain ⟨c, A, q⟩ := A
  obtain ⟨h1, h2⟩ := idx_ok hj
  exact H.caload A (idx_in' hj q (List.getElem?_eq_some_iff.mp hv).1) (by rw [h1, q, List.getElem?_toArray]; exact hv) hd r
theorem Wk.ldB (H : Wk l Z y code mx ret R n0 W V) {j : Int32} {i : Nat} (A : Ary Z h a .byte vs) (hj : j.toInt = i) (hv : vs[i]? = some v) (hd : decode code pc = .ok (.baload, 1)) (r : W h k n pc Ls (.int j :: .ref a :: st)) : W h k n (pc + 1) Ls (v :: st) := by
  obtain ⟨c, A, q⟩ := A
  obtain ⟨h1, h2⟩ := idx_ok hj
  exact H.baload A (idx_in' hj q (List.getElem?_eq_some_iff.mp hv).1) (by rw [h1, q, List.getElem?_toArray]; exact hv) hd r
theorem Wk.putI (H : Wk l Z y code mx ret R n0 W V) {j : Int32} {i : Nat} {x : Int32} (A : Ary Z h a .int vs) (hj : j.toInt = i) (hi : i < vs.length) (hn0 : n0 ≤ a) (hd : decode code pc = .ok (.iastore, 1)) (r : W h k n pc Ls (.int x :: .int j :: .ref a :: st)) : ∃ h', Wr h h' a i (.int x) ∧ Ary Z h' a .int (vs.set i (.int x)) ∧ W h' k n (pc + 1) Ls st := by
  obtain ⟨h1, h2⟩ := idx_ok hj
  obtain ⟨c, A', q⟩ := id A
  obtain ⟨h', w, r'⟩ := H.stI A' (idx_in' hj q hi) hn0 hd r
  rw [h1] at w
  exact ⟨h', w, A.same w, r'⟩
theorem Wk.putJ (H : Wk l Z y code mx ret R n0 W V) {j : Int32} {i : Nat} {x : Int64} (A : Ary Z h a .long vs) (hj : j.toInt = i) (hi : i < vs.length) (hn0 : n0 ≤ a) (hd : decode code pc = .ok (.lastore, 1)) (r : W h k n pc Ls (.long x :: .int j :: .ref a :: st)) : ∃ h', Wr h h' a i (.long x) ∧ Ary Z h' a .long (vs.set i (.long x)) ∧ W h' k n (pc + 1) Ls st := by
  obtain ⟨h1, h2⟩ := idx_ok hj
  obtain ⟨c, A', q⟩ := id A
  obtain ⟨h', w, r'⟩ := H.stJ A' (idx_in' hj q hi) hn0 hd r
  rw [h1] at w
  exact ⟨h', w, A.same w, r'⟩
theorem Wk.putC (H : Wk l Z y code mx ret R n0 W V) {j : Int32} {i : Nat} {x : Int32} {z : Int32} (hz : x.toUInt32.toUInt16.toUInt32.toInt32 = z) (A : Ary Z h a .char vs) (hj : j.toInt = i) (hi : i < vs.length) (hn0 : n0 ≤ a) (hd : decode code pc = .ok (.castore, 1)) (r : W h k n pc Ls (.int x :: .int j :: .ref a :: st)) : ∃ h', Wr h h' a i (.int z) ∧ Ary Z h' a .char (vs.set i (.int z)) ∧ W h' k n (pc + 1) Ls st := by
  subst hz
  obtain ⟨h1, h2⟩ := idx_ok hj
  obtain ⟨c, A', q⟩ := id A
  obtain ⟨h', w, r'⟩ := H.stC A' (idx_in' hj q hi) hn0 hd r
  rw [h1] at w
  exact ⟨h', w, A.same w, r'⟩
theorem Wk.putB (H : Wk l Z y code mx ret R n0 W V) {j : Int32} {i : Nat} {x : Int32} {z : Int32} (hz : x.toInt8.toInt32 = z) (A : Ary Z h a .byte vs) (hj : j.toInt = i) (hi : i < vs.length) (hn0 : n0 ≤ a) (hd : decode code pc = .ok (.bastore, 1)) (r : W h k n pc Ls (.int x :: .int j :: .ref a :: st)) : ∃ h', Wr h h' a i (.int z) ∧ Ary Z h' a .byte (vs.set i (.int z)) ∧ W h' k n (pc + 1) Ls st := by
  subst hz
  obtain ⟨h1, h2⟩ := idx_ok hj
  obtain ⟨c, A', q⟩ := id A
  obtain ⟨h', w, r'⟩ := H.stB A' (idx_in' hj q hi) hn0 hd r
  rw [h1] at w
  exact ⟨h', w, A.same w, r'⟩
end Arrays
theorem ns_root {Z : State} {a0 : Array Value} {O K : String} {q : Nat} (w : (Jvm.Cond.noSuperclass O).before a0 Z = true) (wk : (Jvm.Cond.instantiable K q).before a0 Z = true) (hn : O ≠ K) : NS Z O K := by
  obtain ⟨c, k, h1, h2, h3, -, -⟩ := Cond.noSuperclass_spec w
  obtain ⟨t, k', g1, g2, -⟩ := Cond.instantiable_spec wk
  have ne := ids_ne h1 g1 hn
  refine ⟨c, t, h1, g1, fun fuel => ?_⟩
  cases fuel with
  | zero => rfl
  | succ f => simp [Vm.isSubclassAux, ne, h2, h3]
theorem ns_no {Z : State} {a0 : Array Value} {C S K : String} {q : Nat} (w : (Jvm.Cond.superclass C S).before a0 Z = true) (wk : (Jvm.Cond.instantiable K q).before a0 Z = true) (n : NS Z C K) (hn : C ≠ K) : ∃ c t, Z.vm.findClass C = some c ∧ Z.vm.findClass K = some t ∧ Z.vm.assignable c t = false := by
  obtain ⟨c, t, h0, g0, n3⟩ := n
  obtain ⟨p, k, kp, h1, h2, h3, h4, h5, -, h7⟩ := Cond.superclass_spec h0 w
  obtain ⟨t', k', g1, g2, g5, g7, -⟩ := Cond.instantiable_spec wk
  cases g0.symm.trans g1
  have ne := ids_ne h0 g0 hn
  have g8 : k'.isInterface = false := by cases hh : k'.isInterface <;> simp [hh] at g7 ⊢
  refine ⟨c, t, h0, g0, ?_⟩
  show Z.vm.assignableAux (255 + 1) c t = false
  simp [Vm.assignableAux, ne, h2, g2, h5, g5, g8, Vm.isSubclass, n3]
/-- (k & 0x7fffffff) % m as a natural -/
theorem own_modn (k : Int32) (m : Nat) (h0 : 0 < m) (hm : m < 2147483648) : ∃ i : Nat, i < m ∧ (k &&& (2147483647 : Int32)) % Int32.ofNat m = Int32.ofNat i := by
  have h1 : (k &&& (2147483647 : Int32)).toInt = k.toInt % (2 ^ 31 : Nat) := c_mask k _ 31 (by decide) (by decide)
  have hM : (Int32.ofNat m).toInt = (m : Int) := Int32.toInt_ofNat_of_lt (by omega)
  have h2 := (c_irem (k &&& (2147483647 : Int32)) (Int32.ofNat m) m hM).1 (by rw [h1]; omega)
  have h3 : 0 ≤ (k &&& (2147483647 : Int32)).toInt % (m : Int) := Int.emod_nonneg _ (by omega)
  have h4 : (k &&& (2147483647 : Int32)).toInt % (m : Int) < m := Int.emod_lt_of_pos _ (by omega)
  refine ⟨((k &&& (2147483647 : Int32)) % Int32.ofNat m).toInt.toNat, by omega, ?_⟩
  apply Int32.toInt_inj.mp
  rw [Int32.toInt_ofNat_of_lt (by omega)]
  omega
theorem own_ofNat {i : Nat} (hi : i < 2147483648) : (Int32.ofNat i).toInt = (i : Int) := Int32.toInt_ofNat_of_lt (by omega)
theorem own_ltN {i j : Nat} (hi : i < 2147483648) (hj : j < 2147483648) : Int32.ofNat i < Int32.ofNat j ↔ i < j := by
  rw [Int32.lt_iff_toInt_lt, own_ofNat hi, own_ofNat hj]
  omega
theorem own_eqN {i j : Nat} (hi : i < 2147483648) (hj : j < 2147483648) : Int32.ofNat i = Int32.ofNat j ↔ i = j := by
  rw [← Int32.toInt_inj, own_ofNat hi, own_ofNat hj]
  omega
theorem own_nn {n : Nat} (hn : n < 2147483648) : ¬ Int32.ofNat n < 0 := by
  rw [Int32.lt_iff_toInt_lt, own_ofNat hn, show (0 : Int32).toInt = 0 from rfl]
  omega
theorem own_pred {n : Nat} (hp : 0 < n) (hn : n < 2147483648) : (Int32.ofNat n - (1 : Int32)).toInt = ((n - 1 : Nat) : Int) := by
  have h2 := c_isub (Int32.ofNat n) (1 : Int32)
  have r2 := rng32 (Int32.ofNat n - (1 : Int32))
  rw [own_ofNat hn, show (1 : Int32).toInt = 1 from rfl] at h2
  omega
theorem own_succ (i : Nat) : Int32.ofNat i + (1 : Int32) = Int32.ofNat (i + 1) := (Int32.ofNat_add i 1).symm
end Jvm.OwnW

namespace Jvm.Pilot.@@N@@
open Jvm Jvm.ClassFile Sem Op Lib Jvm.Free Jvm.Stand Jvm.LawKit Jvm.RoadKit Bundle Jvm.OwnW Jvm.Pilot.@@N@@.Jvm.D
def own_job (Z : State) (h : Heap) (a : Addr) (pl : Value) (ac nu : Int64) (pd lw : Int32) : Prop := Exa Z h a "com/example/lively_broker/livelybroker/broker/Job" ∧ Fld Z h a "com/example/lively_broker/livelybroker/broker/Job" "payload" "[B" pl ∧ Fld Z h a "com/example/lively_broker/livelybroker/broker/Job" "acceptedAt" "J" (.long ac) ∧ Fld Z h a "com/example/lively_broker/livelybroker/broker/Job" "number" "J" (.long nu) ∧ Fld Z h a "com/example/lively_broker/livelybroker/broker/Job" "placed" "Z" (.int pd) ∧ Fld Z h a "com/example/lively_broker/livelybroker/broker/Job" "lostWorkers" "I" (.int lw)
theorem own_job.keep {Z : State} {h h' : Heap} {a : Addr} {pl : Value} {ac nu : Int64} {pd lw : Int32} {ws : List Addr} (J : own_job Z h a pl ac nu pd lw) (K : Keep h h' ws) (q : a ∉ ws) : own_job Z h' a pl ac nu pd lw :=
  ⟨J.1.keep K, J.2.1.keep K q, J.2.2.1.keep K q, J.2.2.2.1.keep K q, J.2.2.2.2.1.keep K q, J.2.2.2.2.2.keep K q⟩
theorem own_fitR {pl : Value} (h : pl.isRef = true) : fits (.array .byte) pl = true := by rcases ref_cases h with rfl | ⟨b, rfl⟩ <;> rfl
theorem own_narR (pl : Value) : narrow (.array .byte) pl = pl := by cases pl <;> rfl
theorem own_nz {z : Int32} (h : z = 0 ∨ z = 1) : narrow .boolean (.int z) = .int z := by rcases h with rfl | rfl <;> rfl
theorem own_fz {z : Int32} (h : z = 0 ∨ z = 1) : fits .boolean (.int z) = true := by rcases h with rfl | rfl <;> rfl
theorem d1_0 : decode prog_1_method_1_code 0 = .ok (.aload_n 0, 1) := by decide +kernel
theorem d1_1 : decode prog_1_method_1_code 1 = .ok (.invokespecial 1, 3) := by decide +kernel
theorem d1_4 : decode prog_1_method_1_code 4 = .ok (.aload_n 0, 1) := by decide +kernel
theorem d1_5 : decode prog_1_method_1_code 5 = .ok (.new 7, 3) := by decide +kernel
theorem d1_8 : decode prog_1_method_1_code 8 = .ok (.dup, 1) := by decide +kernel
theorem d1_9 : decode prog_1_method_1_code 9 = .ok (.invokespecial 9, 3) := by decide +kernel
theorem d1_12 : decode prog_1_method_1_code 12 = .ok (.putfield 10, 3) := by decide +kernel
theorem d1_15 : decode prog_1_method_1_code 15 = .ok (.aload_n 0, 1) := by decide +kernel
theorem d1_16 : decode prog_1_method_1_code 16 = .ok (.aload_n 1, 1) := by decide +kernel
theorem d1_17 : decode prog_1_method_1_code 17 = .ok (.putfield 16, 3) := by decide +kernel
theorem d1_20 : decode prog_1_method_1_code 20 = .ok (.aload_n 0, 1) := by decide +kernel
theorem d1_21 : decode prog_1_method_1_code 21 = .ok (.aload_n 2, 1) := by decide +kernel
theorem d1_22 : decode prog_1_method_1_code 22 = .ok (.putfield 20, 3) := by decide +kernel
theorem d1_25 : decode prog_1_method_1_code 25 = .ok (.aload_n 0, 1) := by decide +kernel
theorem d1_26 : decode prog_1_method_1_code 26 = .ok (.lload_n 3, 1) := by decide +kernel
theorem d1_27 : decode prog_1_method_1_code 27 = .ok (.putfield 23, 3) := by decide +kernel
theorem d1_30 : decode prog_1_method_1_code 30 = .ok (.aload_n 0, 1) := by decide +kernel
theorem d1_31 : decode prog_1_method_1_code 31 = .ok (.lload 5, 2) := by decide +kernel
theorem d1_33 : decode prog_1_method_1_code 33 = .ok (.putfield 27, 3) := by decide +kernel
theorem d1_36 : decode prog_1_method_1_code 36 = .ok (.return_, 1) := by decide +kernel
theorem d3_0 : decode jdk_2620_method_3_code 0 = .ok (.aload_n 0, 1) := by decide +kernel
theorem d3_1 : decode jdk_2620_method_3_code 1 = .ok (.bipush 16, 2) := by decide +kernel
theorem d3_3 : decode jdk_2620_method_3_code 3 = .ok (.ldc 7, 2) := by decide +kernel
theorem d3_5 : decode jdk_2620_method_3_code 5 = .ok (.iconst 1, 1) := by decide +kernel
theorem d3_6 : decode jdk_2620_method_3_code 6 = .ok (.invokespecial 1, 3) := by decide +kernel
theorem d3_9 : decode jdk_2620_method_3_code 9 = .ok (.return_, 1) := by decide +kernel
theorem d4_0 : decode jdk_93_method_5_code 0 = .ok (.aload_n 0, 1) := by decide +kernel
theorem d4_1 : decode jdk_93_method_5_code 1 = .ok (.invokespecial 1, 3) := by decide +kernel
theorem d4_4 : decode jdk_93_method_5_code 4 = .ok (.aload_n 0, 1) := by decide +kernel
theorem d4_5 : decode jdk_93_method_5_code 5 = .ok (.new 42, 3) := by decide +kernel
theorem d4_8 : decode jdk_93_method_5_code 8 = .ok (.dup, 1) := by decide +kernel
theorem d4_9 : decode jdk_93_method_5_code 9 = .ok (.iload_n 1, 1) := by decide +kernel
theorem d4_10 : decode jdk_93_method_5_code 10 = .ok (.fload_n 2, 1) := by decide +kernel
theorem d4_11 : decode jdk_93_method_5_code 11 = .ok (.invokespecial 44, 3) := by decide +kernel
theorem d4_14 : decode jdk_93_method_5_code 14 = .ok (.putfield 10, 3) := by decide +kernel
theorem d4_17 : decode jdk_93_method_5_code 17 = .ok (.return_, 1) := by decide +kernel
theorem d5_0 : decode jdk_91_method_1_code 0 = .ok (.aload_n 0, 1) := by decide +kernel
theorem d5_1 : decode jdk_91_method_1_code 1 = .ok (.invokespecial 1, 3) := by decide +kernel
theorem d5_4 : decode jdk_91_method_1_code 4 = .ok (.return_, 1) := by decide +kernel
theorem d6_0 : decode jdk_22_method_1_code 0 = .ok (.aload_n 0, 1) := by decide +kernel
theorem d6_1 : decode jdk_22_method_1_code 1 = .ok (.invokespecial 1, 3) := by decide +kernel
theorem d6_4 : decode jdk_22_method_1_code 4 = .ok (.return_, 1) := by decide +kernel
theorem d7_0 : decode jdk_94_method_14_code 0 = .ok (.aload_n 0, 1) := by decide +kernel
theorem d7_1 : decode jdk_94_method_14_code 1 = .ok (.iload_n 1, 1) := by decide +kernel
theorem d7_2 : decode jdk_94_method_14_code 2 = .ok (.fload_n 2, 1) := by decide +kernel
theorem d7_3 : decode jdk_94_method_14_code 3 = .ok (.invokespecial 81, 3) := by decide +kernel
theorem d7_6 : decode jdk_94_method_14_code 6 = .ok (.aload_n 0, 1) := by decide +kernel
theorem d7_7 : decode jdk_94_method_14_code 7 = .ok (.iconst 0, 1) := by decide +kernel
theorem d7_8 : decode jdk_94_method_14_code 8 = .ok (.putfield 1, 3) := by decide +kernel
theorem d7_11 : decode jdk_94_method_14_code 11 = .ok (.aload_n 0, 1) := by decide +kernel
theorem d7_12 : decode jdk_94_method_14_code 12 = .ok (.iconst 0, 1) := by decide +kernel
theorem d7_13 : decode jdk_94_method_14_code 13 = .ok (.putfield 64, 3) := by decide +kernel
theorem d7_16 : decode jdk_94_method_14_code 16 = .ok (.return_, 1) := by decide +kernel
theorem d8_0 : decode jdk_69_method_5_code 0 = .ok (.aload_n 0, 1) := by decide +kernel
theorem d8_1 : decode jdk_69_method_5_code 1 = .ok (.invokespecial 43, 3) := by decide +kernel
theorem d8_4 : decode jdk_69_method_5_code 4 = .ok (.iload_n 1, 1) := by decide +kernel
theorem d8_5 : decode jdk_69_method_5_code 5 = .ok (.ifCond .ge 30, 3) := by decide +kernel
theorem d8_35 : decode jdk_69_method_5_code 35 = .ok (.iload_n 1, 1) := by decide +kernel
theorem d8_36 : decode jdk_69_method_5_code 36 = .ok (.ldc 42, 2) := by decide +kernel
theorem d8_38 : decode jdk_69_method_5_code 38 = .ok (.if_icmp .le 6, 3) := by decide +kernel
theorem d8_44 : decode jdk_69_method_5_code 44 = .ok (.fload_n 2, 1) := by decide +kernel
theorem d8_45 : decode jdk_69_method_5_code 45 = .ok (.fconst 0, 1) := by decide +kernel
theorem d8_46 : decode jdk_69_method_5_code 46 = .ok (.fcmp .g, 1) := by decide +kernel
theorem d8_47 : decode jdk_69_method_5_code 47 = .ok (.ifCond .le 10, 3) := by decide +kernel
theorem d8_50 : decode jdk_69_method_5_code 50 = .ok (.fload_n 2, 1) := by decide +kernel
theorem d8_51 : decode jdk_69_method_5_code 51 = .ok (.invokestatic 70, 3) := by decide +kernel
theorem d8_54 : decode jdk_69_method_5_code 54 = .ok (.ifCond .eq 30, 3) := by decide +kernel
theorem d8_84 : decode jdk_69_method_5_code 84 = .ok (.aload_n 0, 1) := by decide +kernel
theorem d8_85 : decode jdk_69_method_5_code 85 = .ok (.fload_n 2, 1) := by decide +kernel
theorem d8_86 : decode jdk_69_method_5_code 86 = .ok (.putfield 81, 3) := by decide +kernel
theorem d8_89 : decode jdk_69_method_5_code 89 = .ok (.aload_n 0, 1) := by decide +kernel
theorem d8_90 : decode jdk_69_method_5_code 90 = .ok (.iload_n 1, 1) := by decide +kernel
theorem d8_91 : decode jdk_69_method_5_code 91 = .ok (.invokestatic 85, 3) := by decide +kernel
theorem d8_94 : decode jdk_69_method_5_code 94 = .ok (.putfield 88, 3) := by decide +kernel
theorem d8_97 : decode jdk_69_method_5_code 97 = .ok (.return_, 1) := by decide +kernel
theorem d9_0 : decode jdk_71_method_1_code 0 = .ok (.aload_n 0, 1) := by decide +kernel
theorem d9_1 : decode jdk_71_method_1_code 1 = .ok (.invokespecial 1, 3) := by decide +kernel
theorem d9_4 : decode jdk_71_method_1_code 4 = .ok (.return_, 1) := by decide +kernel
theorem d10_0 : decode jdk_118_method_6_code 0 = .ok (.fload_n 0, 1) := by decide +kernel
theorem d10_1 : decode jdk_118_method_6_code 1 = .ok (.fload_n 0, 1) := by decide +kernel
theorem d10_2 : decode jdk_118_method_6_code 2 = .ok (.fcmp .l, 1) := by decide +kernel
theorem d10_3 : decode jdk_118_method_6_code 3 = .ok (.ifCond .eq 7, 3) := by decide +kernel
theorem d10_10 : decode jdk_118_method_6_code 10 = .ok (.iconst 0, 1) := by decide +kernel
theorem d10_11 : decode jdk_118_method_6_code 11 = .ok (.ireturn, 1) := by decide +kernel
theorem d11_0 : decode jdk_69_method_4_code 0 = .ok (.iconst (-1), 1) := by decide +kernel
theorem d11_1 : decode jdk_69_method_4_code 1 = .ok (.iload_n 0, 1) := by decide +kernel
theorem d11_2 : decode jdk_69_method_4_code 2 = .ok (.iconst 1, 1) := by decide +kernel
theorem d11_3 : decode jdk_69_method_4_code 3 = .ok (.isub, 1) := by decide +kernel
theorem d11_4 : decode jdk_69_method_4_code 4 = .ok (.invokestatic 34, 3) := by decide +kernel
theorem d11_7 : decode jdk_69_method_4_code 7 = .ok (.iushr, 1) := by decide +kernel
theorem d11_8 : decode jdk_69_method_4_code 8 = .ok (.istore_n 1, 1) := by decide +kernel
theorem d11_9 : decode jdk_69_method_4_code 9 = .ok (.iload_n 1, 1) := by decide +kernel
theorem d11_10 : decode jdk_69_method_4_code 10 = .ok (.ifCond .ge 7, 3) := by decide +kernel
theorem d11_17 : decode jdk_69_method_4_code 17 = .ok (.iload_n 1, 1) := by decide +kernel
theorem d11_18 : decode jdk_69_method_4_code 18 = .ok (.ldc 42, 2) := by decide +kernel
theorem d11_20 : decode jdk_69_method_4_code 20 = .ok (.if_icmp .lt 8, 3) := by decide +kernel
theorem d11_28 : decode jdk_69_method_4_code 28 = .ok (.iload_n 1, 1) := by decide +kernel
theorem d11_29 : decode jdk_69_method_4_code 29 = .ok (.iconst 1, 1) := by decide +kernel
theorem d11_30 : decode jdk_69_method_4_code 30 = .ok (.iadd, 1) := by decide +kernel
theorem d11_31 : decode jdk_69_method_4_code 31 = .ok (.ireturn, 1) := by decide +kernel
theorem d12_0 : decode jdk_33_method_47_code 0 = .ok (.iload_n 0, 1) := by decide +kernel
theorem d12_1 : decode jdk_33_method_47_code 1 = .ok (.ifCond .gt 14, 3) := by decide +kernel
theorem d12_15 : decode jdk_33_method_47_code 15 = .ok (.bipush 31, 2) := by decide +kernel
theorem d12_17 : decode jdk_33_method_47_code 17 = .ok (.istore_n 1, 1) := by decide +kernel
theorem d12_18 : decode jdk_33_method_47_code 18 = .ok (.iload_n 0, 1) := by decide +kernel
theorem d12_19 : decode jdk_33_method_47_code 19 = .ok (.ldc_w 264, 3) := by decide +kernel
theorem d12_22 : decode jdk_33_method_47_code 22 = .ok (.if_icmp .lt 11, 3) := by decide +kernel
theorem d12_33 : decode jdk_33_method_47_code 33 = .ok (.iload_n 0, 1) := by decide +kernel
theorem d12_34 : decode jdk_33_method_47_code 34 = .ok (.sipush 256, 3) := by decide +kernel
theorem d12_37 : decode jdk_33_method_47_code 37 = .ok (.if_icmp .lt 11, 3) := by decide +kernel
theorem d12_48 : decode jdk_33_method_47_code 48 = .ok (.iload_n 0, 1) := by decide +kernel
theorem d12_49 : decode jdk_33_method_47_code 49 = .ok (.bipush 16, 2) := by decide +kernel
theorem d12_51 : decode jdk_33_method_47_code 51 = .ok (.if_icmp .lt 10, 3) := by decide +kernel
theorem d12_61 : decode jdk_33_method_47_code 61 = .ok (.iload_n 0, 1) := by decide +kernel
theorem d12_62 : decode jdk_33_method_47_code 62 = .ok (.iconst 4, 1) := by decide +kernel
theorem d12_63 : decode jdk_33_method_47_code 63 = .ok (.if_icmp .lt 10, 3) := by decide +kernel
theorem d12_66 : decode jdk_33_method_47_code 66 = .ok (.iinc 1 (-2), 3) := by decide +kernel
theorem d12_69 : decode jdk_33_method_47_code 69 = .ok (.iload_n 0, 1) := by decide +kernel
theorem d12_70 : decode jdk_33_method_47_code 70 = .ok (.iconst 2, 1) := by decide +kernel
theorem d12_71 : decode jdk_33_method_47_code 71 = .ok (.iushr, 1) := by decide +kernel
theorem d12_72 : decode jdk_33_method_47_code 72 = .ok (.istore_n 0, 1) := by decide +kernel
theorem d12_73 : decode jdk_33_method_47_code 73 = .ok (.iload_n 1, 1) := by decide +kernel
theorem d12_74 : decode jdk_33_method_47_code 74 = .ok (.iload_n 0, 1) := by decide +kernel
theorem d12_75 : decode jdk_33_method_47_code 75 = .ok (.iconst 1, 1) := by decide +kernel
theorem d12_76 : decode jdk_33_method_47_code 76 = .ok (.iushr, 1) := by decide +kernel
theorem d12_77 : decode jdk_33_method_47_code 77 = .ok (.isub, 1) := by decide +kernel
theorem d12_78 : decode jdk_33_method_47_code 78 = .ok (.ireturn, 1) := by decide +kernel
theorem d13_0 : decode prog_1_method_17_code 0 = .ok (.aload_n 0, 1) := by decide +kernel
theorem d13_1 : decode prog_1_method_17_code 1 = .ok (.iload_n 1, 1) := by decide +kernel
theorem d13_2 : decode prog_1_method_17_code 2 = .ok (.putfield 36, 3) := by decide +kernel
theorem d13_5 : decode prog_1_method_17_code 5 = .ok (.aload_n 0, 1) := by decide +kernel
theorem d13_6 : decode prog_1_method_17_code 6 = .ok (.iload_n 2, 1) := by decide +kernel
theorem d13_7 : decode prog_1_method_17_code 7 = .ok (.putfield 58, 3) := by decide +kernel
theorem d13_10 : decode prog_1_method_17_code 10 = .ok (.return_, 1) := by decide +kernel
theorem d14_0 : decode prog_1_method_15_code 0 = .ok (.aload_n 0, 1) := by decide +kernel
theorem d14_1 : decode prog_1_method_15_code 1 = .ok (.dup, 1) := by decide +kernel
theorem d14_2 : decode prog_1_method_15_code 2 = .ok (.getfield 58, 3) := by decide +kernel
theorem d14_5 : decode prog_1_method_15_code 5 = .ok (.iconst 1, 1) := by decide +kernel
theorem d14_6 : decode prog_1_method_15_code 6 = .ok (.iadd, 1) := by decide +kernel
theorem d14_7 : decode prog_1_method_15_code 7 = .ok (.putfield 58, 3) := by decide +kernel
theorem d14_10 : decode prog_1_method_15_code 10 = .ok (.aload_n 0, 1) := by decide +kernel
theorem d14_11 : decode prog_1_method_15_code 11 = .ok (.getfield 58, 3) := by decide +kernel
theorem d14_14 : decode prog_1_method_15_code 14 = .ok (.ireturn, 1) := by decide +kernel
theorem d15_0 : decode prog_1_method_16_code 0 = .ok (.aload_n 0, 1) := by decide +kernel
theorem d15_1 : decode prog_1_method_16_code 1 = .ok (.getfield 58, 3) := by decide +kernel
theorem d15_4 : decode prog_1_method_16_code 4 = .ok (.ireturn, 1) := by decide +kernel
theorem d16_0 : decode prog_1_method_7_code 0 = .ok (.aload_n 0, 1) := by decide +kernel
theorem d16_1 : decode prog_1_method_7_code 1 = .ok (.getfield 36, 3) := by decide +kernel
theorem d16_4 : decode prog_1_method_7_code 4 = .ok (.ireturn, 1) := by decide +kernel
theorem d17_0 : decode prog_1_method_3_code 0 = .ok (.aload_n 0, 1) := by decide +kernel
theorem d17_1 : decode prog_1_method_3_code 1 = .ok (.getfield 20, 3) := by decide +kernel
theorem d17_4 : decode prog_1_method_3_code 4 = .ok (.areturn, 1) := by decide +kernel
theorem d18_0 : decode prog_1_method_5_code 0 = .ok (.aload_n 0, 1) := by decide +kernel
theorem d18_1 : decode prog_1_method_5_code 1 = .ok (.getfield 23, 3) := by decide +kernel
theorem d18_4 : decode prog_1_method_5_code 4 = .ok (.lreturn, 1) := by decide +kernel
theorem d19_0 : decode prog_1_method_6_code 0 = .ok (.aload_n 0, 1) := by decide +kernel
theorem d19_1 : decode prog_1_method_6_code 1 = .ok (.getfield 27, 3) := by decide +kernel
theorem d19_4 : decode prog_1_method_6_code 4 = .ok (.lreturn, 1) := by decide +kernel
theorem pd_0 : parseMethodDescriptor "()V" = some ⟨[], none⟩ := by decide +kernel
theorem pd_1 : parseMethodDescriptor "(I)I" = some ⟨[.int], some .int⟩ := by decide +kernel
theorem pd_2 : parseMethodDescriptor "(F)Z" = some ⟨[.float], some .boolean⟩ := by decide +kernel
theorem pd_3 : parseMethodDescriptor "(IF)V" = some ⟨[.int, .float], none⟩ := by decide +kernel
theorem pd_4 : parseMethodDescriptor "(IFZ)V" = some ⟨[.int, .float, .boolean], none⟩ := by decide +kernel
theorem pd_5 : parseMethodDescriptor "()I" = some ⟨[], some .int⟩ := by decide +kernel
theorem pd_6 : parseMethodDescriptor "()Z" = some ⟨[], some .boolean⟩ := by decide +kernel
theorem pd_7 : parseMethodDescriptor "()[B" = some ⟨[], some (.array .byte)⟩ := by decide +kernel
theorem pd_8 : parseMethodDescriptor "()J" = some ⟨[], some .long⟩ := by decide +kernel
theorem pd_9 : parseMethodDescriptor "([B[BJJ)V" = some ⟨[(.array .byte), (.array .byte), .long, .long], none⟩ := by decide +kernel
theorem pd_10 : parseMethodDescriptor "(ZI)V" = some ⟨[.boolean, .int], none⟩ := by decide +kernel
theorem pn_0 : plainName "java/util/AbstractCollection" = true := by first | (simp [plainName, overriddenIn]; done) | decide +kernel
theorem pn_1 : plainName "java/util/AbstractSet" = true := by first | (simp [plainName, overriddenIn]; done) | decide +kernel
theorem pn_2 : plainName "java/util/AbstractMap" = true := by first | (simp [plainName, overriddenIn]; done) | decide +kernel
theorem pn_3 : plainName "java/lang/Integer" = true := by first | (simp [plainName, overriddenIn]; done) | decide +kernel
theorem pn_4 : plainName "java/util/HashMap" = true := by first | (simp [plainName, overriddenIn]; done) | decide +kernel
theorem pn_5 : plainName "java/util/LinkedHashMap" = true := by first | (simp [plainName, overriddenIn]; done) | decide +kernel
theorem pn_6 : plainName "java/util/HashSet" = true := by first | (simp [plainName, overriddenIn]; done) | decide +kernel
theorem pn_7 : plainName "java/util/LinkedHashSet" = true := by first | (simp [plainName, overriddenIn]; done) | decide +kernel
theorem pn_8 : plainName "com/example/lively_broker/livelybroker/broker/Job" = true := by first | (simp [plainName, overriddenIn]; done) | decide +kernel
theorem pn_9 : plainName "com/example/lively_broker/livelybroker/broker/JobCountLostWorkerPinLaw" = true := by first | (simp [plainName, overriddenIn]; done) | decide +kernel
theorem ef_ac (x0 : Addr) (m : MethodId) : entryFrame m #[(.ref x0)] 1 = mkF m 0 #[.val (.ref x0)] [] := by first | (simp [entryFrame, mkF, argsToLocals, Value.category]; done) | rfl
theorem ef_as (x0 : Addr) (m : MethodId) : entryFrame m #[(.ref x0)] 1 = mkF m 0 #[.val (.ref x0)] [] := by first | (simp [entryFrame, mkF, argsToLocals, Value.category]; done) | rfl
theorem ef_am (x0 : Addr) (m : MethodId) : entryFrame m #[(.ref x0)] 1 = mkF m 0 #[.val (.ref x0)] [] := by first | (simp [entryFrame, mkF, argsToLocals, Value.category]; done) | rfl
theorem ef_nan (x0 : UInt32) (m : MethodId) : entryFrame m #[(.float x0)] 1 = mkF m 0 #[.val (.float x0)] [] := by first | (simp [entryFrame, mkF, argsToLocals, Value.category]; done) | rfl
theorem ef_nlz (x0 : Int32) (m : MethodId) : entryFrame m #[(.int x0)] 2 = mkF m 0 #[.val (.int x0), .unset] [] := by first | (simp [entryFrame, mkF, argsToLocals, Value.category]; done) | rfl
theorem ef_tsf (x0 : Int32) (m : MethodId) : entryFrame m #[(.int x0)] 2 = mkF m 0 #[.val (.int x0), .unset] [] := by first | (simp [entryFrame, mkF, argsToLocals, Value.category]; done) | rfl
theorem ef_hm (x0 : Addr) (x1 : Int32) (x2 : UInt32) (m : MethodId) : entryFrame m #[(.ref x0), (.int x1), (.float x2)] 3 = mkF m 0 #[.val (.ref x0), .val (.int x1), .val (.float x2)] [] := by first | (simp [entryFrame, mkF, argsToLocals, Value.category]; done) | rfl
theorem ef_lm (x0 : Addr) (x1 : Int32) (x2 : UInt32) (m : MethodId) : entryFrame m #[(.ref x0), (.int x1), (.float x2)] 3 = mkF m 0 #[.val (.ref x0), .val (.int x1), .val (.float x2)] [] := by first | (simp [entryFrame, mkF, argsToLocals, Value.category]; done) | rfl
theorem ef_hs (x0 : Addr) (x1 : Int32) (x2 : UInt32) (x3 : Int32) (m : MethodId) : entryFrame m #[(.ref x0), (.int x1), (.float x2), (.int x3)] 4 = mkF m 0 #[.val (.ref x0), .val (.int x1), .val (.float x2), .val (.int x3)] [] := by first | (simp [entryFrame, mkF, argsToLocals, Value.category]; done) | rfl
theorem ef_ls (x0 : Addr) (m : MethodId) : entryFrame m #[(.ref x0)] 1 = mkF m 0 #[.val (.ref x0)] [] := by first | (simp [entryFrame, mkF, argsToLocals, Value.category]; done) | rfl
theorem ef_job (a ia : Addr) (pl : Value) (hpl : pl.isRef = true) (ac nu : Int64) (m : MethodId) : entryFrame m #[(.ref a), (.ref ia), pl, (.long ac), (.long nu)] 7 = mkF m 0 #[.val (.ref a), .val (.ref ia), .val pl, .val (.long ac), .second, .val (.long nu), .second] [] := by
  rcases ref_cases hpl with rfl | ⟨b, rfl⟩ <;> first | (simp [entryFrame, mkF, argsToLocals, Value.category]; done) | rfl
theorem ef_rp (x0 : Addr) (x1 : Int32) (x2 : Int32) (m : MethodId) : entryFrame m #[(.ref x0), (.int x1), (.int x2)] 3 = mkF m 0 #[.val (.ref x0), .val (.int x1), .val (.int x2)] [] := by first | (simp [entryFrame, mkF, argsToLocals, Value.category]; done) | rfl
theorem ef_cl (x0 : Addr) (m : MethodId) : entryFrame m #[(.ref x0)] 1 = mkF m 0 #[.val (.ref x0)] [] := by first | (simp [entryFrame, mkF, argsToLocals, Value.category]; done) | rfl
theorem ef_glostWorkers (x0 : Addr) (m : MethodId) : entryFrame m #[(.ref x0)] 1 = mkF m 0 #[.val (.ref x0)] [] := by first | (simp [entryFrame, mkF, argsToLocals, Value.category]; done) | rfl
theorem ef_gplaced (x0 : Addr) (m : MethodId) : entryFrame m #[(.ref x0)] 1 = mkF m 0 #[.val (.ref x0)] [] := by first | (simp [entryFrame, mkF, argsToLocals, Value.category]; done) | rfl
theorem ef_gpayload (x0 : Addr) (m : MethodId) : entryFrame m #[(.ref x0)] 1 = mkF m 0 #[.val (.ref x0)] [] := by first | (simp [entryFrame, mkF, argsToLocals, Value.category]; done) | rfl
theorem ef_gacceptedAt (x0 : Addr) (m : MethodId) : entryFrame m #[(.ref x0)] 1 = mkF m 0 #[.val (.ref x0)] [] := by first | (simp [entryFrame, mkF, argsToLocals, Value.category]; done) | rfl
theorem ef_gnumber (x0 : Addr) (m : MethodId) : entryFrame m #[(.ref x0)] 1 = mkF m 0 #[.val (.ref x0)] [] := by first | (simp [entryFrame, mkF, argsToLocals, Value.category]; done) | rfl
theorem ef_0 (x0 : Int32) (x1 : Int32) (x2 : Int64) (x3 : Int64) (m : MethodId) : entryFrame m #[(.int x0), (.int x1), (.long x2), (.long x3)] maxLocals = mkF m 0 #[.val (.int x0), .val (.int x1), .val (.long x2), .second, .val (.long x3), .second, .unset, .unset, .unset, .unset, .unset, .unset, .unset, .unset, .unset, .unset, .unset, .unset] [] := by first | (simp [entryFrame, mkF, argsToLocals, Value.category, maxLocals]; done) | rfl
set_option maxRecDepth 65536 in
set_option maxHeartbeats 40000000 in
theorem ac_ct {l : Launch} {Z : State} {a0 : Array Value} (hw : ∀ d ∈ tables_1, d.before a0 Z = true) (a : Addr) (h0 : Heap) (n0 : Nat) :
    Ct l Z (⟨"java/util/AbstractCollection", "<init>", "()V"⟩ : MethodName) jdk_22_method_1_code 1 none ({ frames := 1, cells := 0, slots := 0, locals := 12 } : Room) n0 #[(.ref a)] h0 (fun v h' => v = none ∧ h' = h0) := by
  refine Ct.of (plainFor_of_name pn_0) (fun m => ef_ac a m) ?_
  intro W V H r0
  have r1 : W h0 0 0 1 #[.val (.ref a)] [(.ref a)] := (H.aloadN d6_0 r0 rfl rfl)
  have r2 : W h0 0 0 4 #[.val (.ref a)] [] := H.initO (w := 0) (hw _ (List.mem_of_getElem? (i := 35) rfl)) (hw _ (List.mem_of_getElem? (i := 8) rfl)) (hw _ (List.mem_of_getElem? (i := 9) rfl)) rfl (by decide) (Nat.le_of_eq rfl) (by decide) d6_1 r1
  exact ⟨_, _, H.retN rfl (Nat.le_refl _) (Nat.le_refl _) d6_4 r2, rfl, rfl⟩
set_option maxRecDepth 65536 in
set_option maxHeartbeats 40000000 in
theorem as_ct {l : Launch} {Z : State} {a0 : Array Value} (hw : ∀ d ∈ tables_1, d.before a0 Z = true) (a : Addr) (h0 : Heap) (n0 : Nat) :
    Ct l Z (⟨"java/util/AbstractSet", "<init>", "()V"⟩ : MethodName) jdk_91_method_1_code 1 none ({ frames := 2, cells := 0, slots := 0, locals := 24 } : Room) n0 #[(.ref a)] h0 (fun v h' => v = none ∧ h' = h0) := by
  refine Ct.of (plainFor_of_name pn_1) (fun m => ef_as a m) ?_
  intro W V H r0
  have r3 : W h0 0 0 1 #[.val (.ref a)] [(.ref a)] := (H.aloadN d5_0 r0 rfl rfl)
  obtain ⟨_, hn1, ⟨rfl, eh1⟩, r4⟩ := H.callI (w := 0) (argsL := []) (rest := []) rfl (hw _ (List.mem_of_getElem? (i := 29) rfl)) (hw _ (List.mem_of_getElem? (i := 30) rfl)) (hw _ (List.mem_of_getElem? (i := 33) rfl)) (hw _ (List.mem_of_getElem? (i := 34) rfl)) (by decide) pd_0 (by decide) (by decide) (by decide) (by decide) (ac_ct hw a h0 n0) rfl rfl (Nat.le_of_eq rfl) rfl d5_1 r3
  replace r4 : W hn1 0 0 4 #[.val (.ref a)] [] := r4
  rw [eh1] at r4
  exact ⟨_, _, H.retN rfl (Nat.le_refl _) (Nat.le_refl _) d5_4 r4, rfl, rfl⟩
set_option maxRecDepth 65536 in
set_option maxHeartbeats 40000000 in
theorem am_ct {l : Launch} {Z : State} {a0 : Array Value} (hw : ∀ d ∈ tables_1, d.before a0 Z = true) (a : Addr) (h0 : Heap) (n0 : Nat) :
    Ct l Z (⟨"java/util/AbstractMap", "<init>", "()V"⟩ : MethodName) jdk_71_method_1_code 1 none ({ frames := 1, cells := 0, slots := 0, locals := 12 } : Room) n0 #[(.ref a)] h0 (fun v h' => v = none ∧ h' = h0) := by
  refine Ct.of (plainFor_of_name pn_2) (fun m => ef_am a m) ?_
  intro W V H r0
  have r5 : W h0 0 0 1 #[.val (.ref a)] [(.ref a)] := (H.aloadN d9_0 r0 rfl rfl)
  have r6 : W h0 0 0 4 #[.val (.ref a)] [] := H.initO (w := 0) (hw _ (List.mem_of_getElem? (i := 55) rfl)) (hw _ (List.mem_of_getElem? (i := 8) rfl)) (hw _ (List.mem_of_getElem? (i := 9) rfl)) rfl (by decide) (Nat.le_of_eq rfl) (by decide) d9_1 r5
  exact ⟨_, _, H.retN rfl (Nat.le_refl _) (Nat.le_refl _) d9_4 r6, rfl, rfl⟩
set_option maxRecDepth 65536 in
set_option maxHeartbeats 40000000 in
theorem nan_ct {l : Launch} {Z : State} {a0 : Array Value} (hw : ∀ d ∈ tables_1, d.before a0 Z = true) (h0 : Heap) (n0 : Nat) :
    Ct l Z (⟨"java/lang/Float", "isNaN", "(F)Z"⟩ : MethodName) jdk_118_method_6_code 1 (some .boolean) ({ frames := 0, cells := 0, slots := 0, locals := 0 } : Room) n0 #[(.float (1061158912 : UInt32))] h0 (fun v h' => v = some (.int (0 : Int32)) ∧ h' = h0) := by
  refine Ct.of (by decide +kernel) (fun m => ef_nan (1061158912 : UInt32) m) ?_
  intro W V H r0
  have r7 : W h0 0 0 2 #[.val (.float (1061158912 : UInt32))] [(.float (1061158912 : UInt32)), (.float (1061158912 : UInt32))] := (H.floadN d10_1 (H.floadN d10_0 r0 rfl) rfl)
  have r8 : W h0 0 0 3 #[.val (.float (1061158912 : UInt32))] [(.int (0 : Int32))] := H.fcmp (v := (0 : Int32)) d10_2 r7 (by decide +kernel)
  have r9 : W h0 0 0 10 #[.val (.float (1061158912 : UInt32))] [] := (H.ifYes (pc' := 10) d10_3 r8 (by decide) (by decide) (teq (rfl : (0 : Int32) = 0)).1)
  have r10 : W h0 0 0 11 #[.val (.float (1061158912 : UInt32))] [(.int (0 : Int32))] := (H.iconst (z := (0 : Int32)) d10_10 r9 rfl)
  exact ⟨_, _, H.retZ rfl rfl (Nat.le_refl _) (Nat.le_refl _) d10_11 r10, rfl, rfl⟩
set_option maxRecDepth 65536 in
set_option maxHeartbeats 40000000 in
theorem nlz_ct {l : Launch} {Z : State} {a0 : Array Value} (hw : ∀ d ∈ tables_1, d.before a0 Z = true) (h0 : Heap) (n0 : Nat) :
    Ct l Z (⟨"java/lang/Integer", "numberOfLeadingZeros", "(I)I"⟩ : MethodName) jdk_33_method_47_code 2 (some .int) ({ frames := 0, cells := 0, slots := 0, locals := 0 } : Room) n0 #[(.int (15 : Int32))] h0 (fun v h' => v = some (.int (28 : Int32)) ∧ h' = h0) := by
  refine Ct.of (plainFor_of_name pn_3) (fun m => ef_nlz (15 : Int32) m) ?_
  intro W V H r0
  have r11 : W h0 0 0 15 #[.val (.int (15 : Int32)), .unset] [] := (H.ifYes (pc' := 15) d12_1 (H.iloadN d12_0 r0 rfl) (by decide) (by decide) (tlt (by decide +kernel)).2.2.1)
  have r12 : W h0 0 0 18 #[.val (.int (15 : Int32)), .val (.int (31 : Int32))] [] := (H.istoreN d12_17 (H.bipush (z := (31 : Int32)) d12_15 r11 rfl) rfl)
  have r13 : W h0 0 0 33 #[.val (.int (15 : Int32)), .val (.int (31 : Int32))] [] := (H.icmpYes (pc' := 33) d12_22 (H.ldcWInt d12_19 (H.iloadN d12_18 r12 rfl) (hw _ (List.mem_of_getElem? (i := 70) rfl))) (by decide) (by decide) (tlt (by decide +kernel)).1)
  have r14 : W h0 0 0 48 #[.val (.int (15 : Int32)), .val (.int (31 : Int32))] [] := (H.icmpYes (pc' := 48) d12_37 (H.sipush (z := (256 : Int32)) d12_34 (H.iloadN d12_33 r13 rfl) rfl) (by decide) (by decide) (tlt (by decide +kernel)).1)
  have r15 : W h0 0 0 61 #[.val (.int (15 : Int32)), .val (.int (31 : Int32))] [] := (H.icmpYes (pc' := 61) d12_51 (H.bipush (z := (16 : Int32)) d12_49 (H.iloadN d12_48 r14 rfl) rfl) (by decide) (by decide) (tlt (by decide +kernel)).1)
  have r16 : W h0 0 0 66 #[.val (.int (15 : Int32)), .val (.int (31 : Int32))] [] := (H.icmpNo d12_63 (H.iconst (z := (4 : Int32)) d12_62 (H.iloadN d12_61 r15 rfl) rfl) (flt (by decide +kernel)).1)
  have r17 : W h0 0 0 69 #[.val (.int (15 : Int32)), .val (.int ((31 : Int32) + (-2 : Int32)))] [] := (H.iinc (z := ((31 : Int32) + (-2 : Int32))) d12_66 r16 rfl rfl rfl)
  have r18 : W h0 0 0 73 #[.val (.int (((15 : Int32).toUInt32 >>> ((2 : Int32) &&& 31).toUInt32).toInt32)), .val (.int ((31 : Int32) + (-2 : Int32)))] [] := (H.istoreN d12_72 (H.iushr d12_71 (H.iconst (z := (2 : Int32)) d12_70 (H.iloadN d12_69 r17 rfl) rfl)) rfl)
  have r19 : W h0 0 0 78 #[.val (.int (((15 : Int32).toUInt32 >>> ((2 : Int32) &&& 31).toUInt32).toInt32)), .val (.int ((31 : Int32) + (-2 : Int32)))] [(.int (((31 : Int32) + (-2 : Int32)) - (((((15 : Int32).toUInt32 >>> ((2 : Int32) &&& 31).toUInt32).toInt32).toUInt32 >>> ((1 : Int32) &&& 31).toUInt32).toInt32)))] := (H.isub d12_77 (H.iushr d12_76 (H.iconst (z := (1 : Int32)) d12_75 (H.iloadN d12_74 (H.iloadN d12_73 r18 rfl) rfl) rfl)))
  exact ⟨_, _, H.retI rfl (Nat.le_refl _) (Nat.le_refl _) d12_78 r19, by first | rfl | decide +kernel, rfl⟩
set_option maxRecDepth 65536 in
set_option maxHeartbeats 40000000 in
theorem tsf_ct {l : Launch} {Z : State} {a0 : Array Value} (hw : ∀ d ∈ tables_1, d.before a0 Z = true) (h0 : Heap) (n0 : Nat) :
    Ct l Z (⟨"java/util/HashMap", "tableSizeFor", "(I)I"⟩ : MethodName) jdk_69_method_4_code 2 (some .int) ({ frames := 1, cells := 0, slots := 0, locals := 14 } : Room) n0 #[(.int (16 : Int32))] h0 (fun v h' => v = some (.int (16 : Int32)) ∧ h' = h0) := by
  refine Ct.of (plainFor_of_name pn_4) (fun m => ef_tsf (16 : Int32) m) ?_
  intro W V H r0
  have r20 : W h0 0 0 4 #[.val (.int (16 : Int32)), .unset] [(.int ((16 : Int32) - (1 : Int32))), (.int (-1 : Int32))] := (H.isub d11_3 (H.iconst (z := (1 : Int32)) d11_2 (H.iloadN d11_1 (H.iconst (z := (-1 : Int32)) d11_0 r0 rfl) rfl) rfl))
  replace r20 : W h0 0 0 4 #[.val (.int (16 : Int32)), .unset] [(.int (15 : Int32)), (.int (-1 : Int32))] := r20
  have r21 : W h0 0 0 7 #[.val (.int (16 : Int32)), .unset] [(.int (28 : Int32)), (.int (-1 : Int32))] := H.callSP (w := 1) (argsL := [(.int (15 : Int32))]) (rest := [(.int (-1 : Int32))]) (hw _ (List.mem_of_getElem? (i := 66) rfl)) (hw _ (List.mem_of_getElem? (i := 67) rfl)) (hw _ (List.mem_of_getElem? (i := 68) rfl)) (hw _ (List.mem_of_getElem? (i := 69) rfl)) (by decide) pd_1 (by decide) (by decide) (by decide) (by decide) (nlz_ct hw h0 n0) rfl rfl (Nat.le_of_eq rfl) rfl d11_4 r20
  have r22 : W h0 0 0 9 #[.val (.int (16 : Int32)), .val (.int (((-1 : Int32).toUInt32 >>> ((28 : Int32) &&& 31).toUInt32).toInt32))] [] := (H.istoreN d11_8 (H.iushr d11_7 r21) rfl)
  have r23 : W h0 0 0 17 #[.val (.int (16 : Int32)), .val (.int (((-1 : Int32).toUInt32 >>> ((28 : Int32) &&& 31).toUInt32).toInt32))] [] := (H.ifYes (pc' := 17) d11_10 (H.iloadN d11_9 r22 rfl) (by decide) (by decide) (flt (by decide +kernel)).2.1)
  have r24 : W h0 0 0 28 #[.val (.int (16 : Int32)), .val (.int (((-1 : Int32).toUInt32 >>> ((28 : Int32) &&& 31).toUInt32).toInt32))] [] := (H.icmpYes (pc' := 28) d11_20 (H.ldcInt d11_18 (H.iloadN d11_17 r23 rfl) (hw _ (List.mem_of_getElem? (i := 56) rfl))) (by decide) (by decide) (tlt (by decide +kernel)).1)
  have r25 : W h0 0 0 31 #[.val (.int (16 : Int32)), .val (.int (((-1 : Int32).toUInt32 >>> ((28 : Int32) &&& 31).toUInt32).toInt32))] [(.int ((((-1 : Int32).toUInt32 >>> ((28 : Int32) &&& 31).toUInt32).toInt32) + (1 : Int32)))] := (H.iadd d11_30 (H.iconst (z := (1 : Int32)) d11_29 (H.iloadN d11_28 r24 rfl) rfl))
  exact ⟨_, _, H.retI rfl (Nat.le_refl _) (Nat.le_refl _) d11_31 r25, by first | rfl | decide +kernel, rfl⟩
set_option maxRecDepth 65536 in
set_option maxHeartbeats 40000000 in
theorem hm_ct {l : Launch} {Z : State} {a0 : Array Value} (hw : ∀ d ∈ tables_1, d.before a0 Z = true) (a : Addr) (h0 : Heap) (n0 : Nat) (Z0 : n0 ≤ h0.size) (N0 : n0 ≤ a) (X0 : Exa Z h0 a "java/util/LinkedHashMap") (F1 : Fld Z h0 a "java/util/HashMap" "loadFactor" "F" (.float 0)) (F2 : Fld Z h0 a "java/util/HashMap" "threshold" "I" (.int 0)) (F3 : Fld Z h0 a "java/util/LinkedHashMap" "putMode" "I" (.int 0)) (F4 : Fld Z h0 a "java/util/LinkedHashMap" "accessOrder" "Z" (.int 0)) :
    Ct l Z (⟨"java/util/HashMap", "<init>", "(IF)V"⟩ : MethodName) jdk_69_method_5_code 3 none ({ frames := 2, cells := 0, slots := 0, locals := 28 } : Room) n0 #[(.ref a), (.int (16 : Int32)), (.float (1061158912 : UInt32))] h0 (fun v h' => v = none ∧ Keep h0 h' [a] ∧ Exa Z h' a "java/util/LinkedHashMap" ∧ Fld Z h' a "java/util/LinkedHashMap" "putMode" "I" (.int 0) ∧ Fld Z h' a "java/util/LinkedHashMap" "accessOrder" "Z" (.int 0)) := by
  refine Ct.of (plainFor_of_name pn_4) (fun m => ef_hm a (16 : Int32) (1061158912 : UInt32) m) ?_
  intro W V H r0
  have r26 : W h0 0 0 1 #[.val (.ref a), .val (.int (16 : Int32)), .val (.float (1061158912 : UInt32))] [(.ref a)] := (H.aloadN d8_0 r0 rfl rfl)
  obtain ⟨_, hn1, ⟨rfl, eh1⟩, r27⟩ := H.callI (w := 0) (argsL := []) (rest := []) rfl (hw _ (List.mem_of_getElem? (i := 49) rfl)) (hw _ (List.mem_of_getElem? (i := 50) rfl)) (hw _ (List.mem_of_getElem? (i := 53) rfl)) (hw _ (List.mem_of_getElem? (i := 54) rfl)) (by decide) pd_0 (by decide) (by decide) (by decide) (by decide) (am_ct hw a h0 n0) rfl rfl (Nat.le_of_eq rfl) rfl d8_1 r26
  replace r27 : W hn1 0 0 4 #[.val (.ref a), .val (.int (16 : Int32)), .val (.float (1061158912 : UInt32))] [] := r27
  rw [eh1] at r27
  have r28 : W h0 0 0 35 #[.val (.ref a), .val (.int (16 : Int32)), .val (.float (1061158912 : UInt32))] [] := (H.ifYes (pc' := 35) d8_5 (H.iloadN d8_4 r27 rfl) (by decide) (by decide) (flt (by decide +kernel)).2.1)
  have r29 : W h0 0 0 44 #[.val (.ref a), .val (.int (16 : Int32)), .val (.float (1061158912 : UInt32))] [] := (H.icmpYes (pc' := 44) d8_38 (H.ldcInt d8_36 (H.iloadN d8_35 r28 rfl) (hw _ (List.mem_of_getElem? (i := 56) rfl))) (by decide) (by decide) (flt (by decide +kernel)).2.2.2)
  have r30 : W h0 0 0 45 #[.val (.ref a), .val (.int (16 : Int32)), .val (.float (1061158912 : UInt32))] [(.float (1061158912 : UInt32))] := (H.floadN d8_44 r29 rfl)
  have r31 : W h0 0 0 46 #[.val (.ref a), .val (.int (16 : Int32)), .val (.float (1061158912 : UInt32))] [(.float (0 : UInt32)), (.float (1061158912 : UInt32))] := H.fconst0 (v := (0 : UInt32)) d8_45 r30 (by decide +kernel)
  have r32 : W h0 0 0 47 #[.val (.ref a), .val (.int (16 : Int32)), .val (.float (1061158912 : UInt32))] [(.int (1 : Int32))] := H.fcmp (v := (1 : Int32)) d8_46 r31 (by decide +kernel)
  have r33 : W h0 0 0 50 #[.val (.ref a), .val (.int (16 : Int32)), .val (.float (1061158912 : UInt32))] [] := (H.ifNo d8_47 r32 (tlt (by decide)).2.2.2)
  have r34 : W h0 0 0 51 #[.val (.ref a), .val (.int (16 : Int32)), .val (.float (1061158912 : UInt32))] [(.float (1061158912 : UInt32))] := (H.floadN d8_50 r33 rfl)
  have r35 : W h0 0 0 54 #[.val (.ref a), .val (.int (16 : Int32)), .val (.float (1061158912 : UInt32))] [(.int (0 : Int32))] := H.callSP (w := 0) (argsL := [(.float (1061158912 : UInt32))]) (rest := []) (hw _ (List.mem_of_getElem? (i := 57) rfl)) (hw _ (List.mem_of_getElem? (i := 58) rfl)) (hw _ (List.mem_of_getElem? (i := 59) rfl)) (hw _ (List.mem_of_getElem? (i := 60) rfl)) (by decide) pd_2 (by decide) (by decide) (by decide) (by decide) (nan_ct hw h0 n0) rfl rfl (Nat.le_of_eq rfl) rfl d8_51 r34
  have r36 : W h0 0 0 84 #[.val (.ref a), .val (.int (16 : Int32)), .val (.float (1061158912 : UInt32))] [] := (H.ifYes (pc' := 84) d8_54 r35 (by decide) (by decide) (teq (rfl : (0 : Int32) = 0)).1)
  have r37 : W h0 0 0 86 #[.val (.ref a), .val (.int (16 : Int32)), .val (.float (1061158912 : UInt32))] [(.float (1061158912 : UInt32)), (.ref a)] := (H.floadN d8_85 (H.aloadN d8_84 r36 rfl rfl) rfl)
  obtain ⟨h38, w39, r40⟩ := H.putF (ty := .float) (host := "") (Or.inl (hw _ (List.mem_of_getElem? (i := 61) rfl))) Via.refl F1 X0 (Or.inr ⟨(hw _ (List.mem_of_getElem? (i := 62) rfl)), rfl, rfl⟩) (hw _ (List.mem_of_getElem? (i := 37) rfl)) (by decide +kernel) rfl rfl N0 d8_86 r37
  have Z41 : n0 ≤ h38.size := by rw [w39.size]; exact Z0
  have G42 : Fld Z h38 a "java/util/HashMap" "loadFactor" "F" (.float (1061158912 : UInt32)) := F1.same w39
  replace r40 : W h38 0 0 89 #[.val (.ref a), .val (.int (16 : Int32)), .val (.float (1061158912 : UInt32))] [] := r40
  have r43 : W h38 0 0 91 #[.val (.ref a), .val (.int (16 : Int32)), .val (.float (1061158912 : UInt32))] [(.int (16 : Int32)), (.ref a)] := (H.iloadN d8_90 (H.aloadN d8_89 r40 rfl rfl) rfl)
  have r44 : W h38 0 0 94 #[.val (.ref a), .val (.int (16 : Int32)), .val (.float (1061158912 : UInt32))] [(.int (16 : Int32)), (.ref a)] := H.callSP (w := 1) (argsL := [(.int (16 : Int32))]) (rest := [(.ref a)]) (hw _ (List.mem_of_getElem? (i := 63) rfl)) (hw _ (List.mem_of_getElem? (i := 64) rfl)) (hw _ (List.mem_of_getElem? (i := 47) rfl)) (hw _ (List.mem_of_getElem? (i := 65) rfl)) (by decide) pd_1 (by decide) (by decide) (by decide) (by decide) (tsf_ct hw h38 n0) rfl rfl (Nat.le_of_eq rfl) rfl d8_91 r43
  have F45 := Fld.other w39 F2 (Or.inr (slot_ne (a0 := a0) (C := "java/util/LinkedHashMap") (Or.inl (hw _ (List.mem_of_getElem? (i := 72) rfl))) (Or.inr (hw _ (List.mem_of_getElem? (i := 62) rfl))) (by decide) (t := .int) (t' := .float) (by decide +kernel) (by decide +kernel)))
  have F46 := Exa.wr w39 X0
  obtain ⟨h47, w48, r49⟩ := H.putF (ty := .int) (host := "") (Or.inl (hw _ (List.mem_of_getElem? (i := 71) rfl))) Via.refl F45 F46 (Or.inl (hw _ (List.mem_of_getElem? (i := 72) rfl))) (hw _ (List.mem_of_getElem? (i := 37) rfl)) (by decide +kernel) rfl rfl N0 d8_94 r44
  have Z50 : n0 ≤ h47.size := by rw [w48.size]; exact Z41
  have G51 : Fld Z h47 a "java/util/HashMap" "threshold" "I" (.int (16 : Int32)) := F45.same w48
  replace r49 : W h47 0 0 97 #[.val (.ref a), .val (.int (16 : Int32)), .val (.float (1061158912 : UInt32))] [] := r49
  have F52 := Exa.wr w48 F46
  have F53 := Fld.other w39 F3 (Or.inr (slot_ne (a0 := a0) (C := "java/util/LinkedHashMap") (Or.inl (hw _ (List.mem_of_getElem? (i := 74) rfl))) (Or.inr (hw _ (List.mem_of_getElem? (i := 62) rfl))) (by decide) (t := .int) (t' := .float) (by decide +kernel) (by decide +kernel)))
  have F54 := Fld.other w48 F53 (Or.inr (slot_ne (a0 := a0) (C := "java/util/LinkedHashMap") (Or.inl (hw _ (List.mem_of_getElem? (i := 74) rfl))) (Or.inl (hw _ (List.mem_of_getElem? (i := 72) rfl))) (by decide) (t := .int) (t' := .int) (by decide +kernel) (by decide +kernel)))
  have F55 := Fld.other w39 F4 (Or.inr (slot_ne (a0 := a0) (C := "java/util/LinkedHashMap") (Or.inr (hw _ (List.mem_of_getElem? (i := 76) rfl))) (Or.inr (hw _ (List.mem_of_getElem? (i := 62) rfl))) (by decide) (t := .boolean) (t' := .float) (by decide +kernel) (by decide +kernel)))
  have F56 := Fld.other w48 F55 (Or.inr (slot_ne (a0 := a0) (C := "java/util/LinkedHashMap") (Or.inr (hw _ (List.mem_of_getElem? (i := 76) rfl))) (Or.inl (hw _ (List.mem_of_getElem? (i := 72) rfl))) (by decide) (t := .boolean) (t' := .int) (by decide +kernel) (by decide +kernel)))
  exact ⟨_, _, H.retN rfl (Nat.le_refl _) (Nat.le_refl _) d8_97 r49, rfl, (((Keep.refl _ _).wr w39 (Or.inl (List.mem_of_getElem? (i := 0) rfl))).wr w48 (Or.inl (List.mem_of_getElem? (i := 0) rfl))), F52, F54, F56⟩
set_option maxRecDepth 65536 in
set_option maxHeartbeats 40000000 in
theorem lm_ct {l : Launch} {Z : State} {a0 : Array Value} (hw : ∀ d ∈ tables_1, d.before a0 Z = true) (a : Addr) (h0 : Heap) (n0 : Nat) (Z0 : n0 ≤ h0.size) (N0 : n0 ≤ a) (X0 : Exa Z h0 a "java/util/LinkedHashMap") (F1 : Fld Z h0 a "java/util/HashMap" "loadFactor" "F" (.float 0)) (F2 : Fld Z h0 a "java/util/HashMap" "threshold" "I" (.int 0)) (F3 : Fld Z h0 a "java/util/LinkedHashMap" "putMode" "I" (.int 0)) (F4 : Fld Z h0 a "java/util/LinkedHashMap" "accessOrder" "Z" (.int 0)) :
    Ct l Z (⟨"java/util/LinkedHashMap", "<init>", "(IF)V"⟩ : MethodName) jdk_94_method_14_code 3 none ({ frames := 3, cells := 0, slots := 0, locals := 42 } : Room) n0 #[(.ref a), (.int (16 : Int32)), (.float (1061158912 : UInt32))] h0 (fun v h' => v = none ∧ Keep h0 h' [a]) := by
  refine Ct.of (plainFor_of_name pn_5) (fun m => ef_lm a (16 : Int32) (1061158912 : UInt32) m) ?_
  intro W V H r0
  have r57 : W h0 0 0 3 #[.val (.ref a), .val (.int (16 : Int32)), .val (.float (1061158912 : UInt32))] [(.float (1061158912 : UInt32)), (.int (16 : Int32)), (.ref a)] := (H.floadN d7_2 (H.iloadN d7_1 (H.aloadN d7_0 r0 rfl rfl) rfl) rfl)
  obtain ⟨_, hc1, ⟨rfl, K1, X1, G3, G4⟩, r58⟩ := H.callI (w := 0) (argsL := [(.int (16 : Int32)), (.float (1061158912 : UInt32))]) (rest := []) rfl (hw _ (List.mem_of_getElem? (i := 43) rfl)) (hw _ (List.mem_of_getElem? (i := 44) rfl)) (hw _ (List.mem_of_getElem? (i := 47) rfl)) (hw _ (List.mem_of_getElem? (i := 48) rfl)) (by decide) pd_3 (by decide) (by decide) (by decide) (by decide) (hm_ct hw a h0 n0 Z0 N0 X0 F1 F2 F3 F4) rfl rfl (Nat.le_of_eq rfl) rfl d7_3 r57
  have Z59 : n0 ≤ hc1.size := Nat.le_trans Z0 K1.1
  replace r58 : W hc1 0 0 6 #[.val (.ref a), .val (.int (16 : Int32)), .val (.float (1061158912 : UInt32))] [] := r58
  have r60 : W hc1 0 0 8 #[.val (.ref a), .val (.int (16 : Int32)), .val (.float (1061158912 : UInt32))] [(.int (0 : Int32)), (.ref a)] := (H.iconst (z := (0 : Int32)) d7_7 (H.aloadN d7_6 r58 rfl rfl) rfl)
  obtain ⟨h61, w62, r63⟩ := H.putF (ty := .int) (host := "") (Or.inl (hw _ (List.mem_of_getElem? (i := 73) rfl))) Via.refl G3 X1 (Or.inl (hw _ (List.mem_of_getElem? (i := 74) rfl))) (hw _ (List.mem_of_getElem? (i := 37) rfl)) (by decide +kernel) rfl rfl N0 d7_8 r60
  have Z64 : n0 ≤ h61.size := by rw [w62.size]; exact Z59
  have G65 : Fld Z h61 a "java/util/LinkedHashMap" "putMode" "I" (.int (0 : Int32)) := G3.same w62
  replace r63 : W h61 0 0 11 #[.val (.ref a), .val (.int (16 : Int32)), .val (.float (1061158912 : UInt32))] [] := r63
  have r66 : W h61 0 0 13 #[.val (.ref a), .val (.int (16 : Int32)), .val (.float (1061158912 : UInt32))] [(.int (0 : Int32)), (.ref a)] := (H.iconst (z := (0 : Int32)) d7_12 (H.aloadN d7_11 r63 rfl rfl) rfl)
  have F67 := Fld.other w62 G4 (Or.inr (slot_ne (a0 := a0) (C := "java/util/LinkedHashMap") (Or.inr (hw _ (List.mem_of_getElem? (i := 76) rfl))) (Or.inl (hw _ (List.mem_of_getElem? (i := 74) rfl))) (by decide) (t := .boolean) (t' := .int) (by decide +kernel) (by decide +kernel)))
  have F68 := Exa.wr w62 X1
  obtain ⟨h69, w70, r71⟩ := H.putF (ty := .boolean) (host := "") (Or.inl (hw _ (List.mem_of_getElem? (i := 75) rfl))) Via.refl F67 F68 (Or.inr ⟨(hw _ (List.mem_of_getElem? (i := 76) rfl)), rfl, rfl⟩) (hw _ (List.mem_of_getElem? (i := 37) rfl)) (by decide +kernel) (by first | rfl | decide) (by first | rfl | decide) N0 d7_13 r66
  have Z72 : n0 ≤ h69.size := by rw [w70.size]; exact Z64
  have G73 : Fld Z h69 a "java/util/LinkedHashMap" "accessOrder" "Z" (.int (0 : Int32)) := F67.same w70
  replace r71 : W h69 0 0 16 #[.val (.ref a), .val (.int (16 : Int32)), .val (.float (1061158912 : UInt32))] [] := r71
  exact ⟨_, _, H.retN rfl (Nat.le_refl _) (Nat.le_refl _) d7_16 r71, rfl, ((((Keep.refl _ _).trans K1 (allS (Or.inl (List.mem_of_getElem? (i := 0) rfl)) all0)).wr w62 (Or.inl (List.mem_of_getElem? (i := 0) rfl))).wr w70 (Or.inl (List.mem_of_getElem? (i := 0) rfl)))⟩
set_option maxRecDepth 65536 in
set_option maxHeartbeats 40000000 in
theorem hs_ct {l : Launch} {Z : State} {a0 : Array Value} (hw : ∀ d ∈ tables_1, d.before a0 Z = true) (s : Addr) (h0 : Heap) (n0 : Nat) (Z0 : n0 ≤ h0.size) (N0 : n0 ≤ s) (X0 : Exa Z h0 s "java/util/LinkedHashSet") (F1 : Fld Z h0 s "java/util/HashSet" "map" "Ljava/util/HashMap;" .null) :
    Ct l Z (⟨"java/util/HashSet", "<init>", "(IFZ)V"⟩ : MethodName) jdk_93_method_5_code 4 none ({ frames := 4, cells := 1, slots := 12, locals := 58 } : Room) n0 #[(.ref s), (.int (16 : Int32)), (.float (1061158912 : UInt32)), (.int (1 : Int32))] h0 (fun v h' => v = none ∧ Keep h0 h' [s]) := by
  refine Ct.of (plainFor_of_name pn_6) (fun m => ef_hs s (16 : Int32) (1061158912 : UInt32) (1 : Int32) m) ?_
  intro W V H r0
  have r74 : W h0 0 0 1 #[.val (.ref s), .val (.int (16 : Int32)), .val (.float (1061158912 : UInt32)), .val (.int (1 : Int32))] [(.ref s)] := (H.aloadN d4_0 r0 rfl rfl)
  obtain ⟨_, hn1, ⟨rfl, eh1⟩, r75⟩ := H.callI (w := 0) (argsL := []) (rest := []) rfl (hw _ (List.mem_of_getElem? (i := 23) rfl)) (hw _ (List.mem_of_getElem? (i := 24) rfl)) (hw _ (List.mem_of_getElem? (i := 27) rfl)) (hw _ (List.mem_of_getElem? (i := 28) rfl)) (by decide) pd_0 (by decide) (by decide) (by decide) (by decide) (as_ct hw s h0 n0) rfl rfl (Nat.le_of_eq rfl) rfl d4_1 r74
  replace r75 : W hn1 0 0 4 #[.val (.ref s), .val (.int (16 : Int32)), .val (.float (1061158912 : UInt32)), .val (.int (1 : Int32))] [] := r75
  rw [eh1] at r75
  have r76 : W h0 0 0 5 #[.val (.ref s), .val (.int (16 : Int32)), .val (.float (1061158912 : UInt32)), .val (.int (1 : Int32))] [(.ref s)] := (H.aloadN d4_4 r75 rfl rfl)
  obtain ⟨h77, m, ea78, E79, X80, D81, U82, r83⟩ := H.newO (hw _ (List.mem_of_getElem? (i := 36) rfl)) (hw _ (List.mem_of_getElem? (i := 37) rfl)) (hw _ (List.mem_of_getElem? (i := 38) rfl)) (by decide) (by decide) d4_5 r76
  have ne84 : s ≠ m := Nat.ne_of_lt (by rw [ea78]; exact X0.lt)
  have N85 : n0 ≤ m := by rw [ea78]; exact Z0
  have Y86 : h0.size ≤ m := by rw [ea78]; exact (Nat.le_refl _)
  have Z87 : n0 ≤ h77.size := Nat.le_trans Z0 E79.1
  have Y88 : h0.size ≤ h77.size := Nat.le_trans (Nat.le_refl _) E79.1
  have G89 : Fld Z h77 m "java/util/HashMap" "loadFactor" "F" (.float 0) := D81 (ty := .float) (Or.inr (hw _ (List.mem_of_getElem? (i := 62) rfl))) (by decide +kernel)
  have G90 : Fld Z h77 m "java/util/HashMap" "threshold" "I" (.int 0) := D81 (ty := .int) (Or.inl (hw _ (List.mem_of_getElem? (i := 72) rfl))) (by decide +kernel)
  have G91 : Fld Z h77 m "java/util/LinkedHashMap" "putMode" "I" (.int 0) := D81 (ty := .int) (Or.inl (hw _ (List.mem_of_getElem? (i := 74) rfl))) (by decide +kernel)
  have G92 : Fld Z h77 m "java/util/LinkedHashMap" "accessOrder" "Z" (.int 0) := D81 (ty := .boolean) (Or.inr (hw _ (List.mem_of_getElem? (i := 76) rfl))) (by decide +kernel)
  replace r83 : W h77 1 12 8 #[.val (.ref s), .val (.int (16 : Int32)), .val (.float (1061158912 : UInt32)), .val (.int (1 : Int32))] [(.ref m), (.ref s)] := r83
  have r93 : W h77 1 12 11 #[.val (.ref s), .val (.int (16 : Int32)), .val (.float (1061158912 : UInt32)), .val (.int (1 : Int32))] [(.float (1061158912 : UInt32)), (.int (16 : Int32)), (.ref m), (.ref m), (.ref s)] := (H.floadN d4_10 (H.iloadN d4_9 (H.dup d4_8 r83 rfl) rfl) rfl)
  obtain ⟨_, hc1, ⟨rfl, K1⟩, r94⟩ := H.callI (w := 2) (argsL := [(.int (16 : Int32)), (.float (1061158912 : UInt32))]) (rest := [(.ref m), (.ref s)]) rfl (hw _ (List.mem_of_getElem? (i := 39) rfl)) (hw _ (List.mem_of_getElem? (i := 40) rfl)) (hw _ (List.mem_of_getElem? (i := 38) rfl)) (hw _ (List.mem_of_getElem? (i := 42) rfl)) (by decide) pd_3 (by decide) (by decide) (by decide) (by decide) (lm_ct hw m h77 n0 Z87 N85 X80 G89 G90 G91 G92) rfl rfl (Nat.le_of_eq rfl) rfl d4_11 r93
  have Z95 : n0 ≤ hc1.size := Nat.le_trans Z87 K1.1
  have Y96 : h0.size ≤ hc1.size := Nat.le_trans Y88 K1.1
  replace r94 : W hc1 1 12 14 #[.val (.ref s), .val (.int (16 : Int32)), .val (.float (1061158912 : UInt32)), .val (.int (1 : Int32))] [(.ref m), (.ref s)] := r94
  have F97 := Fld.ext E79 F1
  have F98 := F97.keep K1 (ninS ne84 nin0)
  have F99 := Exa.ext E79 X0
  have F100 := F99.keep K1
  obtain ⟨h101, w102, r103⟩ := H.putF (ty := (.object "java/util/HashMap")) (host := "") (Or.inl (hw _ (List.mem_of_getElem? (i := 77) rfl))) Via.refl F98 F100 (Or.inl (hw _ (List.mem_of_getElem? (i := 78) rfl))) (hw _ (List.mem_of_getElem? (i := 11) rfl)) (by decide +kernel) rfl rfl N0 d4_14 r94
  have Z104 : n0 ≤ h101.size := by rw [w102.size]; exact Z95
  have Y105 : h0.size ≤ h101.size := by rw [w102.size]; exact Y96
  have G106 : Fld Z h101 s "java/util/HashSet" "map" "Ljava/util/HashMap;" (.ref m) := F98.same w102
  replace r103 : W h101 1 12 17 #[.val (.ref s), .val (.int (16 : Int32)), .val (.float (1061158912 : UInt32)), .val (.int (1 : Int32))] [] := r103
  have F107 := Exa.wr w102 F100
  exact ⟨_, _, H.retN rfl (by decide) (by decide) d4_17 r103, rfl, ((((Keep.refl _ _).ext E79).trans K1 (allS (Or.inr Y86) all0)).wr w102 (Or.inl (List.mem_of_getElem? (i := 0) rfl)))⟩
set_option maxRecDepth 65536 in
set_option maxHeartbeats 40000000 in
theorem ls_ct {l : Launch} {Z : State} {a0 : Array Value} (hw : ∀ d ∈ tables_1, d.before a0 Z = true) (s : Addr) (h0 : Heap) (n0 : Nat) (Z0 : n0 ≤ h0.size) (N0 : n0 ≤ s) (X0 : Exa Z h0 s "java/util/LinkedHashSet") (F1 : Fld Z h0 s "java/util/HashSet" "map" "Ljava/util/HashMap;" .null) :
    Ct l Z (⟨"java/util/LinkedHashSet", "<init>", "()V"⟩ : MethodName) jdk_2620_method_3_code 1 none ({ frames := 5, cells := 1, slots := 12, locals := 73 } : Room) n0 #[(.ref s)] h0 (fun v h' => v = none ∧ Keep h0 h' [s]) := by
  refine Ct.of (plainFor_of_name pn_7) (fun m => ef_ls s m) ?_
  intro W V H r0
  have r108 : W h0 0 0 6 #[.val (.ref s)] [(.int (1 : Int32)), (.float (1061158912 : UInt32)), (.int (16 : Int32)), (.ref s)] := (H.iconst (z := (1 : Int32)) d3_5 (H.ldcFloat (hw _ (List.mem_of_getElem? (i := 16) rfl)) d3_3 (H.bipush (z := (16 : Int32)) d3_1 (H.aloadN d3_0 r0 rfl rfl) rfl)) rfl)
  obtain ⟨_, hc1, ⟨rfl, K1⟩, r109⟩ := H.callI (w := 0) (argsL := [(.int (16 : Int32)), (.float (1061158912 : UInt32)), (.int (1 : Int32))]) (rest := []) rfl (hw _ (List.mem_of_getElem? (i := 17) rfl)) (hw _ (List.mem_of_getElem? (i := 18) rfl)) (hw _ (List.mem_of_getElem? (i := 21) rfl)) (hw _ (List.mem_of_getElem? (i := 22) rfl)) (by decide) pd_4 (by decide) (by decide) (by decide) (by decide) (hs_ct hw s h0 n0 Z0 N0 X0 F1) rfl rfl (Nat.le_of_eq rfl) rfl d3_6 r108
  have Z110 : n0 ≤ hc1.size := Nat.le_trans Z0 K1.1
  replace r109 : W hc1 1 12 9 #[.val (.ref s)] [] := r109
  exact ⟨_, _, H.retN rfl (by decide) (by decide) d3_9 r109, rfl, K1⟩
set_option maxRecDepth 65536 in
set_option maxHeartbeats 40000000 in
theorem job_ct {l : Launch} {Z : State} {a0 : Array Value} (hw : ∀ d ∈ tables_1, d.before a0 Z = true) (a ia : Addr) (pl : Value) (hpl : pl.isRef = true) (ac nu : Int64) (h0 : Heap) (n0 : Nat) (Z0 : n0 ≤ h0.size) (N0 : n0 ≤ a) (X0 : Exa Z h0 a "com/example/lively_broker/livelybroker/broker/Job") (G_clients : Fld Z h0 a "com/example/lively_broker/livelybroker/broker/Job" "clients" "Ljava/util/Set;" .null) (G_id : Fld Z h0 a "com/example/lively_broker/livelybroker/broker/Job" "id" "[B" .null) (G_payload : Fld Z h0 a "com/example/lively_broker/livelybroker/broker/Job" "payload" "[B" .null) (G_acceptedAt : Fld Z h0 a "com/example/lively_broker/livelybroker/broker/Job" "acceptedAt" "J" (.long 0)) (G_number : Fld Z h0 a "com/example/lively_broker/livelybroker/broker/Job" "number" "J" (.long 0)) (G_placed : Fld Z h0 a "com/example/lively_broker/livelybroker/broker/Job" "placed" "Z" (.int 0)) (G_lostWorkers : Fld Z h0 a "com/example/lively_broker/livelybroker/broker/Job" "lostWorkers" "I" (.int 0)) :
    Ct l Z (⟨"com/example/lively_broker/livelybroker/broker/Job", "<init>", "([B[BJJ)V"⟩ : MethodName) prog_1_method_1_code 7 none ({ frames := 6, cells := 2, slots := 13, locals := 87 } : Room) n0 #[(.ref a), (.ref ia), pl, (.long ac), (.long nu)] h0 (fun v h' => v = none ∧ Keep h0 h' [a] ∧ own_job Z h' a pl ac nu 0 0) := by
  refine Ct.of (plainFor_of_name pn_8) (fun m => ef_job a ia pl hpl ac nu m) ?_
  intro W V H r0
  have r111 : W h0 0 0 1 #[.val (.ref a), .val (.ref ia), .val pl, .val (.long ac), .second, .val (.long nu), .second] [(.ref a)] := (H.aloadN d1_0 r0 rfl rfl)
  have r112 : W h0 0 0 4 #[.val (.ref a), .val (.ref ia), .val pl, .val (.long ac), .second, .val (.long nu), .second] [] := H.initO (w := 0) (hw _ (List.mem_of_getElem? (i := 7) rfl)) (hw _ (List.mem_of_getElem? (i := 8) rfl)) (hw _ (List.mem_of_getElem? (i := 9) rfl)) rfl (by decide) (Nat.le_of_eq rfl) (by decide) d1_1 r111
  have r113 : W h0 0 0 5 #[.val (.ref a), .val (.ref ia), .val pl, .val (.long ac), .second, .val (.long nu), .second] [(.ref a)] := (H.aloadN d1_4 r112 rfl rfl)
  obtain ⟨h114, s, ea115, E116, X117, D118, U119, r120⟩ := H.newO (hw _ (List.mem_of_getElem? (i := 10) rfl)) (hw _ (List.mem_of_getElem? (i := 11) rfl)) (hw _ (List.mem_of_getElem? (i := 12) rfl)) (by decide) (by decide) d1_5 r113
  have ne121 : a ≠ s := Nat.ne_of_lt (by rw [ea115]; exact X0.lt)
  have N122 : n0 ≤ s := by rw [ea115]; exact Z0
  have Y123 : h0.size ≤ s := by rw [ea115]; exact (Nat.le_refl _)
  have Z124 : n0 ≤ h114.size := Nat.le_trans Z0 E116.1
  have Y125 : h0.size ≤ h114.size := Nat.le_trans (Nat.le_refl _) E116.1
  have G126 : Fld Z h114 s "java/util/HashSet" "map" "Ljava/util/HashMap;" (.null) := D118 (ty := (.object "java/util/HashMap")) (Or.inl (hw _ (List.mem_of_getElem? (i := 78) rfl))) (by decide +kernel)
  replace r120 : W h114 1 1 8 #[.val (.ref a), .val (.ref ia), .val pl, .val (.long ac), .second, .val (.long nu), .second] [(.ref s), (.ref a)] := r120
  have r127 : W h114 1 1 9 #[.val (.ref a), .val (.ref ia), .val pl, .val (.long ac), .second, .val (.long nu), .second] [(.ref s), (.ref s), (.ref a)] := (H.dup d1_8 r120 rfl)
  obtain ⟨_, hc1, ⟨rfl, K1⟩, r128⟩ := H.callI (w := 2) (argsL := []) (rest := [(.ref s), (.ref a)]) rfl (hw _ (List.mem_of_getElem? (i := 13) rfl)) (hw _ (List.mem_of_getElem? (i := 14) rfl)) (hw _ (List.mem_of_getElem? (i := 12) rfl)) (hw _ (List.mem_of_getElem? (i := 15) rfl)) (by decide) pd_0 (by decide) (by decide) (by decide) (by decide) (ls_ct hw s h114 n0 Z124 N122 X117 G126) rfl rfl (Nat.le_of_eq rfl) rfl d1_9 r127
  have Z129 : n0 ≤ hc1.size := Nat.le_trans Z124 K1.1
  have Y130 : h0.size ≤ hc1.size := Nat.le_trans Y125 K1.1
  replace r128 : W hc1 2 13 12 #[.val (.ref a), .val (.ref ia), .val pl, .val (.long ac), .second, .val (.long nu), .second] [(.ref s), (.ref a)] := r128
  have F131 := Fld.ext E116 G_clients
  have F132 := F131.keep K1 (ninS ne121 nin0)
  have F133 := Exa.ext E116 X0
  have F134 := F133.keep K1
  obtain ⟨h135, w136, r137⟩ := H.putF (ty := (.object "java/util/Set")) (host := "") (Or.inl (hw _ (List.mem_of_getElem? (i := 79) rfl))) Via.refl F132 F134 (Or.inr ⟨(hw _ (List.mem_of_getElem? (i := 80) rfl)), rfl, rfl⟩) (hw _ (List.mem_of_getElem? (i := 2) rfl)) (by decide +kernel) rfl rfl N0 d1_12 r128
  have Z138 : n0 ≤ h135.size := by rw [w136.size]; exact Z129
  have Y139 : h0.size ≤ h135.size := by rw [w136.size]; exact Y130
  have G140 : Fld Z h135 a "com/example/lively_broker/livelybroker/broker/Job" "clients" "Ljava/util/Set;" (.ref s) := F132.same w136
  replace r137 : W h135 2 13 15 #[.val (.ref a), .val (.ref ia), .val pl, .val (.long ac), .second, .val (.long nu), .second] [] := r137
  have r141 : W h135 2 13 17 #[.val (.ref a), .val (.ref ia), .val pl, .val (.long ac), .second, .val (.long nu), .second] [(.ref ia), (.ref a)] := (H.aloadN d1_16 (H.aloadN d1_15 r137 rfl rfl) rfl rfl)
  have F142 := Fld.ext E116 G_id
  have F143 := F142.keep K1 (ninS ne121 nin0)
  have F144 := Fld.other w136 F143 (Or.inr (slot_ne (a0 := a0) (C := "com/example/lively_broker/livelybroker/broker/Job") (Or.inr (hw _ (List.mem_of_getElem? (i := 82) rfl))) (Or.inr (hw _ (List.mem_of_getElem? (i := 80) rfl))) (by decide) (t := (.array .byte)) (t' := (.object "java/util/Set")) (by decide +kernel) (by decide +kernel)))
  have F145 := Exa.wr w136 F134
  obtain ⟨h146, w147, r148⟩ := H.putF (ty := (.array .byte)) (host := "") (Or.inl (hw _ (List.mem_of_getElem? (i := 81) rfl))) Via.refl F144 F145 (Or.inr ⟨(hw _ (List.mem_of_getElem? (i := 82) rfl)), rfl, rfl⟩) (hw _ (List.mem_of_getElem? (i := 2) rfl)) (by decide +kernel) rfl rfl N0 d1_17 r141
  have Z149 : n0 ≤ h146.size := by rw [w147.size]; exact Z138
  have Y150 : h0.size ≤ h146.size := by rw [w147.size]; exact Y139
  have G151 : Fld Z h146 a "com/example/lively_broker/livelybroker/broker/Job" "id" "[B" (.ref ia) := F144.same w147
  replace r148 : W h146 2 13 20 #[.val (.ref a), .val (.ref ia), .val pl, .val (.long ac), .second, .val (.long nu), .second] [] := r148
  have r152 : W h146 2 13 22 #[.val (.ref a), .val (.ref ia), .val pl, .val (.long ac), .second, .val (.long nu), .second] [pl, (.ref a)] := (H.aloadN d1_21 (H.aloadN d1_20 r148 rfl rfl) rfl hpl)
  have F153 := Fld.ext E116 G_payload
  have F154 := F153.keep K1 (ninS ne121 nin0)
  have F155 := Fld.other w136 F154 (Or.inr (slot_ne (a0 := a0) (C := "com/example/lively_broker/livelybroker/broker/Job") (Or.inl (hw _ (List.mem_of_getElem? (i := 84) rfl))) (Or.inr (hw _ (List.mem_of_getElem? (i := 80) rfl))) (by decide) (t := (.array .byte)) (t' := (.object "java/util/Set")) (by decide +kernel) (by decide +kernel)))
  have F156 := Fld.other w147 F155 (Or.inr (slot_ne (a0 := a0) (C := "com/example/lively_broker/livelybroker/broker/Job") (Or.inl (hw _ (List.mem_of_getElem? (i := 84) rfl))) (Or.inr (hw _ (List.mem_of_getElem? (i := 82) rfl))) (by decide) (t := (.array .byte)) (t' := (.array .byte)) (by decide +kernel) (by decide +kernel)))
  have F157 := Exa.wr w147 F145
  obtain ⟨h158, w159, r160⟩ := H.putF (ty := (.array .byte)) (host := "") (Or.inl (hw _ (List.mem_of_getElem? (i := 83) rfl))) Via.refl F156 F157 (Or.inl (hw _ (List.mem_of_getElem? (i := 84) rfl))) (hw _ (List.mem_of_getElem? (i := 2) rfl)) (by decide +kernel) (own_narR pl) (own_fitR hpl) N0 d1_22 r152
  have Z161 : n0 ≤ h158.size := by rw [w159.size]; exact Z149
  have Y162 : h0.size ≤ h158.size := by rw [w159.size]; exact Y150
  have G163 : Fld Z h158 a "com/example/lively_broker/livelybroker/broker/Job" "payload" "[B" pl := F156.same w159
  replace r160 : W h158 2 13 25 #[.val (.ref a), .val (.ref ia), .val pl, .val (.long ac), .second, .val (.long nu), .second] [] := r160
  have r164 : W h158 2 13 27 #[.val (.ref a), .val (.ref ia), .val pl, .val (.long ac), .second, .val (.long nu), .second] [(.long ac), (.ref a)] := (H.lloadN d1_26 (H.aloadN d1_25 r160 rfl rfl) rfl)
  have F165 := Fld.ext E116 G_acceptedAt
  have F166 := F165.keep K1 (ninS ne121 nin0)
  have F167 := Fld.other w136 F166 (Or.inr (slot_ne (a0 := a0) (C := "com/example/lively_broker/livelybroker/broker/Job") (Or.inr (hw _ (List.mem_of_getElem? (i := 86) rfl))) (Or.inr (hw _ (List.mem_of_getElem? (i := 80) rfl))) (by decide) (t := .long) (t' := (.object "java/util/Set")) (by decide +kernel) (by decide +kernel)))
  have F168 := Fld.other w147 F167 (Or.inr (slot_ne (a0 := a0) (C := "com/example/lively_broker/livelybroker/broker/Job") (Or.inr (hw _ (List.mem_of_getElem? (i := 86) rfl))) (Or.inr (hw _ (List.mem_of_getElem? (i := 82) rfl))) (by decide) (t := .long) (t' := (.array .byte)) (by decide +kernel) (by decide +kernel)))
  have F169 := Fld.other w159 F168 (Or.inr (slot_ne (a0 := a0) (C := "com/example/lively_broker/livelybroker/broker/Job") (Or.inr (hw _ (List.mem_of_getElem? (i := 86) rfl))) (Or.inl (hw _ (List.mem_of_getElem? (i := 84) rfl))) (by decide) (t := .long) (t' := (.array .byte)) (by decide +kernel) (by decide +kernel)))
  have F170 := Exa.wr w159 F157
  obtain ⟨h171, w172, r173⟩ := H.putF (ty := .long) (host := "") (Or.inl (hw _ (List.mem_of_getElem? (i := 85) rfl))) Via.refl F169 F170 (Or.inr ⟨(hw _ (List.mem_of_getElem? (i := 86) rfl)), rfl, rfl⟩) (hw _ (List.mem_of_getElem? (i := 2) rfl)) (by decide +kernel) rfl rfl N0 d1_27 r164
  have Z174 : n0 ≤ h171.size := by rw [w172.size]; exact Z161
  have Y175 : h0.size ≤ h171.size := by rw [w172.size]; exact Y162
  have G176 : Fld Z h171 a "com/example/lively_broker/livelybroker/broker/Job" "acceptedAt" "J" (.long ac) := F169.same w172
  replace r173 : W h171 2 13 30 #[.val (.ref a), .val (.ref ia), .val pl, .val (.long ac), .second, .val (.long nu), .second] [] := r173
  have r177 : W h171 2 13 33 #[.val (.ref a), .val (.ref ia), .val pl, .val (.long ac), .second, .val (.long nu), .second] [(.long nu), (.ref a)] := (H.lload d1_31 (H.aloadN d1_30 r173 rfl rfl) rfl)
  have F178 := Fld.ext E116 G_number
  have F179 := F178.keep K1 (ninS ne121 nin0)
  have F180 := Fld.other w136 F179 (Or.inr (slot_ne (a0 := a0) (C := "com/example/lively_broker/livelybroker/broker/Job") (Or.inr (hw _ (List.mem_of_getElem? (i := 88) rfl))) (Or.inr (hw _ (List.mem_of_getElem? (i := 80) rfl))) (by decide) (t := .long) (t' := (.object "java/util/Set")) (by decide +kernel) (by decide +kernel)))
  have F181 := Fld.other w147 F180 (Or.inr (slot_ne (a0 := a0) (C := "com/example/lively_broker/livelybroker/broker/Job") (Or.inr (hw _ (List.mem_of_getElem? (i := 88) rfl))) (Or.inr (hw _ (List.mem_of_getElem? (i := 82) rfl))) (by decide) (t := .long) (t' := (.array .byte)) (by decide +kernel) (by decide +kernel)))
  have F182 := Fld.other w159 F181 (Or.inr (slot_ne (a0 := a0) (C := "com/example/lively_broker/livelybroker/broker/Job") (Or.inr (hw _ (List.mem_of_getElem? (i := 88) rfl))) (Or.inl (hw _ (List.mem_of_getElem? (i := 84) rfl))) (by decide) (t := .long) (t' := (.array .byte)) (by decide +kernel) (by decide +kernel)))
  have F183 := Fld.other w172 F182 (Or.inr (slot_ne (a0 := a0) (C := "com/example/lively_broker/livelybroker/broker/Job") (Or.inr (hw _ (List.mem_of_getElem? (i := 88) rfl))) (Or.inr (hw _ (List.mem_of_getElem? (i := 86) rfl))) (by decide) (t := .long) (t' := .long) (by decide +kernel) (by decide +kernel)))
  have F184 := Exa.wr w172 F170
  obtain ⟨h185, w186, r187⟩ := H.putF (ty := .long) (host := "") (Or.inl (hw _ (List.mem_of_getElem? (i := 87) rfl))) Via.refl F183 F184 (Or.inr ⟨(hw _ (List.mem_of_getElem? (i := 88) rfl)), rfl, rfl⟩) (hw _ (List.mem_of_getElem? (i := 2) rfl)) (by decide +kernel) rfl rfl N0 d1_33 r177
  have Z188 : n0 ≤ h185.size := by rw [w186.size]; exact Z174
  have Y189 : h0.size ≤ h185.size := by rw [w186.size]; exact Y175
  have G190 : Fld Z h185 a "com/example/lively_broker/livelybroker/broker/Job" "number" "J" (.long nu) := F183.same w186
  replace r187 : W h185 2 13 36 #[.val (.ref a), .val (.ref ia), .val pl, .val (.long ac), .second, .val (.long nu), .second] [] := r187
  have F191 := Exa.wr w186 F184
  have F192 := Fld.other w172 G163 (Or.inr (slot_ne (a0 := a0) (C := "com/example/lively_broker/livelybroker/broker/Job") (Or.inl (hw _ (List.mem_of_getElem? (i := 84) rfl))) (Or.inr (hw _ (List.mem_of_getElem? (i := 86) rfl))) (by decide) (t := (.array .byte)) (t' := .long) (by decide +kernel) (by decide +kernel)))
  have F193 := Fld.other w186 F192 (Or.inr (slot_ne (a0 := a0) (C := "com/example/lively_broker/livelybroker/broker/Job") (Or.inl (hw _ (List.mem_of_getElem? (i := 84) rfl))) (Or.inr (hw _ (List.mem_of_getElem? (i := 88) rfl))) (by decide) (t := (.array .byte)) (t' := .long) (by decide +kernel) (by decide +kernel)))
  have F194 := Fld.other w186 G176 (Or.inr (slot_ne (a0 := a0) (C := "com/example/lively_broker/livelybroker/broker/Job") (Or.inr (hw _ (List.mem_of_getElem? (i := 86) rfl))) (Or.inr (hw _ (List.mem_of_getElem? (i := 88) rfl))) (by decide) (t := .long) (t' := .long) (by decide +kernel) (by decide +kernel)))
  have F195 := Fld.ext E116 G_placed
  have F196 := F195.keep K1 (ninS ne121 nin0)
  have F197 := Fld.other w136 F196 (Or.inr (slot_ne (a0 := a0) (C := "com/example/lively_broker/livelybroker/broker/Job") (Or.inl (hw _ (List.mem_of_getElem? (i := 96) rfl))) (Or.inr (hw _ (List.mem_of_getElem? (i := 80) rfl))) (by decide) (t := .boolean) (t' := (.object "java/util/Set")) (by decide +kernel) (by decide +kernel)))
  have F198 := Fld.other w147 F197 (Or.inr (slot_ne (a0 := a0) (C := "com/example/lively_broker/livelybroker/broker/Job") (Or.inl (hw _ (List.mem_of_getElem? (i := 96) rfl))) (Or.inr (hw _ (List.mem_of_getElem? (i := 82) rfl))) (by decide) (t := .boolean) (t' := (.array .byte)) (by decide +kernel) (by decide +kernel)))
  have F199 := Fld.other w159 F198 (Or.inr (slot_ne (a0 := a0) (C := "com/example/lively_broker/livelybroker/broker/Job") (Or.inl (hw _ (List.mem_of_getElem? (i := 96) rfl))) (Or.inl (hw _ (List.mem_of_getElem? (i := 84) rfl))) (by decide) (t := .boolean) (t' := (.array .byte)) (by decide +kernel) (by decide +kernel)))
  have F200 := Fld.other w172 F199 (Or.inr (slot_ne (a0 := a0) (C := "com/example/lively_broker/livelybroker/broker/Job") (Or.inl (hw _ (List.mem_of_getElem? (i := 96) rfl))) (Or.inr (hw _ (List.mem_of_getElem? (i := 86) rfl))) (by decide) (t := .boolean) (t' := .long) (by decide +kernel) (by decide +kernel)))
  have F201 := Fld.other w186 F200 (Or.inr (slot_ne (a0 := a0) (C := "com/example/lively_broker/livelybroker/broker/Job") (Or.inl (hw _ (List.mem_of_getElem? (i := 96) rfl))) (Or.inr (hw _ (List.mem_of_getElem? (i := 88) rfl))) (by decide) (t := .boolean) (t' := .long) (by decide +kernel) (by decide +kernel)))
  have F202 := Fld.ext E116 G_lostWorkers
  have F203 := F202.keep K1 (ninS ne121 nin0)
  have F204 := Fld.other w136 F203 (Or.inr (slot_ne (a0 := a0) (C := "com/example/lively_broker/livelybroker/broker/Job") (Or.inl (hw _ (List.mem_of_getElem? (i := 98) rfl))) (Or.inr (hw _ (List.mem_of_getElem? (i := 80) rfl))) (by decide) (t := .int) (t' := (.object "java/util/Set")) (by decide +kernel) (by decide +kernel)))
  have F205 := Fld.other w147 F204 (Or.inr (slot_ne (a0 := a0) (C := "com/example/lively_broker/livelybroker/broker/Job") (Or.inl (hw _ (List.mem_of_getElem? (i := 98) rfl))) (Or.inr (hw _ (List.mem_of_getElem? (i := 82) rfl))) (by decide) (t := .int) (t' := (.array .byte)) (by decide +kernel) (by decide +kernel)))
  have F206 := Fld.other w159 F205 (Or.inr (slot_ne (a0 := a0) (C := "com/example/lively_broker/livelybroker/broker/Job") (Or.inl (hw _ (List.mem_of_getElem? (i := 98) rfl))) (Or.inl (hw _ (List.mem_of_getElem? (i := 84) rfl))) (by decide) (t := .int) (t' := (.array .byte)) (by decide +kernel) (by decide +kernel)))
  have F207 := Fld.other w172 F206 (Or.inr (slot_ne (a0 := a0) (C := "com/example/lively_broker/livelybroker/broker/Job") (Or.inl (hw _ (List.mem_of_getElem? (i := 98) rfl))) (Or.inr (hw _ (List.mem_of_getElem? (i := 86) rfl))) (by decide) (t := .int) (t' := .long) (by decide +kernel) (by decide +kernel)))
  have F208 := Fld.other w186 F207 (Or.inr (slot_ne (a0 := a0) (C := "com/example/lively_broker/livelybroker/broker/Job") (Or.inl (hw _ (List.mem_of_getElem? (i := 98) rfl))) (Or.inr (hw _ (List.mem_of_getElem? (i := 88) rfl))) (by decide) (t := .int) (t' := .long) (by decide +kernel) (by decide +kernel)))
  exact ⟨_, _, H.retN rfl (by decide) (by decide) d1_36 r187, rfl, ((((((((Keep.refl _ _).ext E116).trans K1 (allS (Or.inr Y123) all0)).wr w136 (Or.inl (List.mem_of_getElem? (i := 0) rfl))).wr w147 (Or.inl (List.mem_of_getElem? (i := 0) rfl))).wr w159 (Or.inl (List.mem_of_getElem? (i := 0) rfl))).wr w172 (Or.inl (List.mem_of_getElem? (i := 0) rfl))).wr w186 (Or.inl (List.mem_of_getElem? (i := 0) rfl))), ⟨F191, F193, F194, G190, F201, F208⟩⟩
set_option maxRecDepth 65536 in
set_option maxHeartbeats 40000000 in
theorem rp_ct {l : Launch} {Z : State} {a0 : Array Value} (hw : ∀ d ∈ tables_1, d.before a0 Z = true) (a : Addr) (pl : Value) (ac nu : Int64) (pd lw : Int32) (h0 : Heap) (n0 : Nat) (p2 l2 : Int32) (hp2 : p2 = 0 ∨ p2 = 1) (Z0 : n0 ≤ h0.size) (N0 : n0 ≤ a) (J0 : own_job Z h0 a pl ac nu pd lw) :
    Ct l Z (⟨"com/example/lively_broker/livelybroker/broker/Job", "restoreProgress", "(ZI)V"⟩ : MethodName) prog_1_method_17_code 3 none ({ frames := 0, cells := 0, slots := 0, locals := 0 } : Room) n0 #[(.ref a), (.int p2), (.int l2)] h0 (fun v h' => v = none ∧ Keep h0 h' [a] ∧ own_job Z h' a pl ac nu p2 l2) := by
  refine Ct.of (plainFor_of_name pn_8) (fun m => ef_rp a p2 l2 m) ?_
  intro W V H r0
  obtain ⟨X0, Fp, Fa, Fn, Fd, Fw⟩ := J0
  have r209 : W h0 0 0 2 #[.val (.ref a), .val (.int p2), .val (.int l2)] [(.int p2), (.ref a)] := (H.iloadN d13_1 (H.aloadN d13_0 r0 rfl rfl) rfl)
  obtain ⟨h210, w211, r212⟩ := H.putF (ty := .boolean) (host := "") (Or.inl (hw _ (List.mem_of_getElem? (i := 95) rfl))) Via.refl Fd X0 (Or.inl (hw _ (List.mem_of_getElem? (i := 96) rfl))) (hw _ (List.mem_of_getElem? (i := 2) rfl)) (by decide +kernel) (own_nz hp2) (own_fz hp2) N0 d13_2 r209
  have Z213 : n0 ≤ h210.size := by rw [w211.size]; exact Z0
  have G214 : Fld Z h210 a "com/example/lively_broker/livelybroker/broker/Job" "placed" "Z" (.int p2) := Fd.same w211
  replace r212 : W h210 0 0 5 #[.val (.ref a), .val (.int p2), .val (.int l2)] [] := r212
  have r215 : W h210 0 0 7 #[.val (.ref a), .val (.int p2), .val (.int l2)] [(.int l2), (.ref a)] := (H.iloadN d13_6 (H.aloadN d13_5 r212 rfl rfl) rfl)
  have F216 := Fld.other w211 Fw (Or.inr (slot_ne (a0 := a0) (C := "com/example/lively_broker/livelybroker/broker/Job") (Or.inl (hw _ (List.mem_of_getElem? (i := 98) rfl))) (Or.inl (hw _ (List.mem_of_getElem? (i := 96) rfl))) (by decide) (t := .int) (t' := .boolean) (by decide +kernel) (by decide +kernel)))
  have F217 := Exa.wr w211 X0
  obtain ⟨h218, w219, r220⟩ := H.putF (ty := .int) (host := "") (Or.inl (hw _ (List.mem_of_getElem? (i := 97) rfl))) Via.refl F216 F217 (Or.inl (hw _ (List.mem_of_getElem? (i := 98) rfl))) (hw _ (List.mem_of_getElem? (i := 2) rfl)) (by decide +kernel) rfl rfl N0 d13_7 r215
  have Z221 : n0 ≤ h218.size := by rw [w219.size]; exact Z213
  have G222 : Fld Z h218 a "com/example/lively_broker/livelybroker/broker/Job" "lostWorkers" "I" (.int l2) := F216.same w219
  replace r220 : W h218 0 0 10 #[.val (.ref a), .val (.int p2), .val (.int l2)] [] := r220
  have F223 := Exa.wr w219 F217
  have F224 := Fld.other w211 Fp (Or.inr (slot_ne (a0 := a0) (C := "com/example/lively_broker/livelybroker/broker/Job") (Or.inl (hw _ (List.mem_of_getElem? (i := 84) rfl))) (Or.inl (hw _ (List.mem_of_getElem? (i := 96) rfl))) (by decide) (t := (.array .byte)) (t' := .boolean) (by decide +kernel) (by decide +kernel)))
  have F225 := Fld.other w219 F224 (Or.inr (slot_ne (a0 := a0) (C := "com/example/lively_broker/livelybroker/broker/Job") (Or.inl (hw _ (List.mem_of_getElem? (i := 84) rfl))) (Or.inl (hw _ (List.mem_of_getElem? (i := 98) rfl))) (by decide) (t := (.array .byte)) (t' := .int) (by decide +kernel) (by decide +kernel)))
  have F226 := Fld.other w211 Fa (Or.inr (slot_ne (a0 := a0) (C := "com/example/lively_broker/livelybroker/broker/Job") (Or.inr (hw _ (List.mem_of_getElem? (i := 86) rfl))) (Or.inl (hw _ (List.mem_of_getElem? (i := 96) rfl))) (by decide) (t := .long) (t' := .boolean) (by decide +kernel) (by decide +kernel)))
  have F227 := Fld.other w219 F226 (Or.inr (slot_ne (a0 := a0) (C := "com/example/lively_broker/livelybroker/broker/Job") (Or.inr (hw _ (List.mem_of_getElem? (i := 86) rfl))) (Or.inl (hw _ (List.mem_of_getElem? (i := 98) rfl))) (by decide) (t := .long) (t' := .int) (by decide +kernel) (by decide +kernel)))
  have F228 := Fld.other w211 Fn (Or.inr (slot_ne (a0 := a0) (C := "com/example/lively_broker/livelybroker/broker/Job") (Or.inr (hw _ (List.mem_of_getElem? (i := 88) rfl))) (Or.inl (hw _ (List.mem_of_getElem? (i := 96) rfl))) (by decide) (t := .long) (t' := .boolean) (by decide +kernel) (by decide +kernel)))
  have F229 := Fld.other w219 F228 (Or.inr (slot_ne (a0 := a0) (C := "com/example/lively_broker/livelybroker/broker/Job") (Or.inr (hw _ (List.mem_of_getElem? (i := 88) rfl))) (Or.inl (hw _ (List.mem_of_getElem? (i := 98) rfl))) (by decide) (t := .long) (t' := .int) (by decide +kernel) (by decide +kernel)))
  have F230 := Fld.other w219 G214 (Or.inr (slot_ne (a0 := a0) (C := "com/example/lively_broker/livelybroker/broker/Job") (Or.inl (hw _ (List.mem_of_getElem? (i := 96) rfl))) (Or.inl (hw _ (List.mem_of_getElem? (i := 98) rfl))) (by decide) (t := .boolean) (t' := .int) (by decide +kernel) (by decide +kernel)))
  exact ⟨_, _, H.retN rfl (Nat.le_refl _) (Nat.le_refl _) d13_10 r220, rfl, (((Keep.refl _ _).wr w211 (Or.inl (List.mem_of_getElem? (i := 0) rfl))).wr w219 (Or.inl (List.mem_of_getElem? (i := 0) rfl))), ⟨F223, F225, F227, F229, F230, G222⟩⟩
set_option maxRecDepth 65536 in
set_option maxHeartbeats 40000000 in
theorem cl_ct {l : Launch} {Z : State} {a0 : Array Value} (hw : ∀ d ∈ tables_1, d.before a0 Z = true) (a : Addr) (pl : Value) (ac nu : Int64) (pd lw : Int32) (h0 : Heap) (n0 : Nat) (Z0 : n0 ≤ h0.size) (N0 : n0 ≤ a) (J0 : own_job Z h0 a pl ac nu pd lw) :
    Ct l Z (⟨"com/example/lively_broker/livelybroker/broker/Job", "countLostWorker", "()I"⟩ : MethodName) prog_1_method_15_code 1 (some .int) ({ frames := 0, cells := 0, slots := 0, locals := 0 } : Room) n0 #[(.ref a)] h0 (fun v h' => v = some (.int (lw + (1 : Int32))) ∧ Keep h0 h' [a] ∧ own_job Z h' a pl ac nu pd (lw + (1 : Int32))) := by
  refine Ct.of (plainFor_of_name pn_8) (fun m => ef_cl a m) ?_
  intro W V H r0
  obtain ⟨X0, Fp, Fa, Fn, Fd, Fw⟩ := J0
  have r231 : W h0 0 0 2 #[.val (.ref a)] [(.ref a), (.ref a)] := (H.dup d14_1 (H.aloadN d14_0 r0 rfl rfl) rfl)
  have r232 : W h0 0 0 5 #[.val (.ref a)] [(.int lw), (.ref a)] := H.getF' (hw _ (List.mem_of_getElem? (i := 97) rfl)) Fw d14_2 r231
  have r233 : W h0 0 0 7 #[.val (.ref a)] [(.int (lw + (1 : Int32))), (.ref a)] := (H.iadd d14_6 (H.iconst (z := (1 : Int32)) d14_5 r232 rfl))
  obtain ⟨h234, w235, r236⟩ := H.putF (ty := .int) (host := "") (Or.inl (hw _ (List.mem_of_getElem? (i := 97) rfl))) Via.refl Fw X0 (Or.inl (hw _ (List.mem_of_getElem? (i := 98) rfl))) (hw _ (List.mem_of_getElem? (i := 2) rfl)) (by decide +kernel) rfl rfl N0 d14_7 r233
  have Z237 : n0 ≤ h234.size := by rw [w235.size]; exact Z0
  have G238 : Fld Z h234 a "com/example/lively_broker/livelybroker/broker/Job" "lostWorkers" "I" (.int (lw + (1 : Int32))) := Fw.same w235
  replace r236 : W h234 0 0 10 #[.val (.ref a)] [] := r236
  have r239 : W h234 0 0 11 #[.val (.ref a)] [(.ref a)] := (H.aloadN d14_10 r236 rfl rfl)
  have r240 : W h234 0 0 14 #[.val (.ref a)] [(.int (lw + (1 : Int32)))] := H.getF' (hw _ (List.mem_of_getElem? (i := 97) rfl)) G238 d14_11 r239
  have F241 := Exa.wr w235 X0
  have F242 := Fld.other w235 Fp (Or.inr (slot_ne (a0 := a0) (C := "com/example/lively_broker/livelybroker/broker/Job") (Or.inl (hw _ (List.mem_of_getElem? (i := 84) rfl))) (Or.inl (hw _ (List.mem_of_getElem? (i := 98) rfl))) (by decide) (t := (.array .byte)) (t' := .int) (by decide +kernel) (by decide +kernel)))
  have F243 := Fld.other w235 Fa (Or.inr (slot_ne (a0 := a0) (C := "com/example/lively_broker/livelybroker/broker/Job") (Or.inr (hw _ (List.mem_of_getElem? (i := 86) rfl))) (Or.inl (hw _ (List.mem_of_getElem? (i := 98) rfl))) (by decide) (t := .long) (t' := .int) (by decide +kernel) (by decide +kernel)))
  have F244 := Fld.other w235 Fn (Or.inr (slot_ne (a0 := a0) (C := "com/example/lively_broker/livelybroker/broker/Job") (Or.inr (hw _ (List.mem_of_getElem? (i := 88) rfl))) (Or.inl (hw _ (List.mem_of_getElem? (i := 98) rfl))) (by decide) (t := .long) (t' := .int) (by decide +kernel) (by decide +kernel)))
  have F245 := Fld.other w235 Fd (Or.inr (slot_ne (a0 := a0) (C := "com/example/lively_broker/livelybroker/broker/Job") (Or.inl (hw _ (List.mem_of_getElem? (i := 96) rfl))) (Or.inl (hw _ (List.mem_of_getElem? (i := 98) rfl))) (by decide) (t := .boolean) (t' := .int) (by decide +kernel) (by decide +kernel)))
  exact ⟨_, _, H.retI rfl (Nat.le_refl _) (Nat.le_refl _) d14_14 r240, rfl, ((Keep.refl _ _).wr w235 (Or.inl (List.mem_of_getElem? (i := 0) rfl))), ⟨F241, F242, F243, F244, F245, G238⟩⟩
set_option maxRecDepth 65536 in
set_option maxHeartbeats 40000000 in
theorem lostWorkers_ct {l : Launch} {Z : State} {a0 : Array Value} (hw : ∀ d ∈ tables_1, d.before a0 Z = true) (a : Addr) (pl : Value) (ac nu : Int64) (pd lw : Int32) (h0 : Heap) (n0 : Nat) (hpl : pl.isRef = true) (hpd : pd = 0 ∨ pd = 1) (J0 : own_job Z h0 a pl ac nu pd lw) :
    Ct l Z (⟨"com/example/lively_broker/livelybroker/broker/Job", "lostWorkers", "()I"⟩ : MethodName) prog_1_method_16_code 1 (some .int) ({ frames := 0, cells := 0, slots := 0, locals := 0 } : Room) n0 #[(.ref a)] h0 (fun v h' => v = some (.int lw) ∧ h' = h0) := by
  refine Ct.of (plainFor_of_name pn_8) (fun m => ef_glostWorkers a m) ?_
  intro W V H r0
  obtain ⟨X0, Fp, Fa, Fn, Fd, Fw⟩ := J0
  have r246 : W h0 0 0 1 #[.val (.ref a)] [(.ref a)] := (H.aloadN d15_0 r0 rfl rfl)
  have r247 : W h0 0 0 4 #[.val (.ref a)] [(.int lw)] := H.getF' (hw _ (List.mem_of_getElem? (i := 97) rfl)) Fw d15_1 r246
  exact ⟨_, _, H.retI rfl (Nat.le_refl _) (Nat.le_refl _) d15_4 r247, rfl, rfl⟩
set_option maxRecDepth 65536 in
set_option maxHeartbeats 40000000 in
theorem placed_ct {l : Launch} {Z : State} {a0 : Array Value} (hw : ∀ d ∈ tables_1, d.before a0 Z = true) (a : Addr) (pl : Value) (ac nu : Int64) (pd lw : Int32) (h0 : Heap) (n0 : Nat) (hpl : pl.isRef = true) (hpd : pd = 0 ∨ pd = 1) (J0 : own_job Z h0 a pl ac nu pd lw) :
    Ct l Z (⟨"com/example/lively_broker/livelybroker/broker/Job", "placed", "()Z"⟩ : MethodName) prog_1_method_7_code 1 (some .boolean) ({ frames := 0, cells := 0, slots := 0, locals := 0 } : Room) n0 #[(.ref a)] h0 (fun v h' => v = some (.int pd) ∧ h' = h0) := by
  refine Ct.of (plainFor_of_name pn_8) (fun m => ef_gplaced a m) ?_
  intro W V H r0
  obtain ⟨X0, Fp, Fa, Fn, Fd, Fw⟩ := J0
  have r248 : W h0 0 0 1 #[.val (.ref a)] [(.ref a)] := (H.aloadN d16_0 r0 rfl rfl)
  have r249 : W h0 0 0 4 #[.val (.ref a)] [(.int pd)] := H.getF' (hw _ (List.mem_of_getElem? (i := 95) rfl)) Fd d16_1 r248
  exact ⟨_, _, H.retZ (z' := pd) (by rcases hpd with rfl | rfl <;> rfl) rfl (Nat.le_refl _) (Nat.le_refl _) d16_4 r249, rfl, rfl⟩
set_option maxRecDepth 65536 in
set_option maxHeartbeats 40000000 in
theorem payload_ct {l : Launch} {Z : State} {a0 : Array Value} (hw : ∀ d ∈ tables_1, d.before a0 Z = true) (a : Addr) (pl : Value) (ac nu : Int64) (pd lw : Int32) (h0 : Heap) (n0 : Nat) (hpl : pl.isRef = true) (hpd : pd = 0 ∨ pd = 1) (J0 : own_job Z h0 a pl ac nu pd lw) :
    Ct l Z (⟨"com/example/lively_broker/livelybroker/broker/Job", "payload", "()[B"⟩ : MethodName) prog_1_method_3_code 1 (some (.array .byte)) ({ frames := 0, cells := 0, slots := 0, locals := 0 } : Room) n0 #[(.ref a)] h0 (fun v h' => v = some pl ∧ h' = h0) := by
  refine Ct.of (plainFor_of_name pn_8) (fun m => ef_gpayload a m) ?_
  intro W V H r0
  obtain ⟨X0, Fp, Fa, Fn, Fd, Fw⟩ := J0
  have r250 : W h0 0 0 1 #[.val (.ref a)] [(.ref a)] := (H.aloadN d17_0 r0 rfl rfl)
  have r251 : W h0 0 0 4 #[.val (.ref a)] [pl] := H.getF' (hw _ (List.mem_of_getElem? (i := 83) rfl)) Fp d17_1 r250
  exact ⟨_, _, H.retR rfl rfl hpl (Nat.le_refl _) (Nat.le_refl _) d17_4 r251, rfl, rfl⟩
set_option maxRecDepth 65536 in
set_option maxHeartbeats 40000000 in
theorem acceptedAt_ct {l : Launch} {Z : State} {a0 : Array Value} (hw : ∀ d ∈ tables_1, d.before a0 Z = true) (a : Addr) (pl : Value) (ac nu : Int64) (pd lw : Int32) (h0 : Heap) (n0 : Nat) (hpl : pl.isRef = true) (hpd : pd = 0 ∨ pd = 1) (J0 : own_job Z h0 a pl ac nu pd lw) :
    Ct l Z (⟨"com/example/lively_broker/livelybroker/broker/Job", "acceptedAt", "()J"⟩ : MethodName) prog_1_method_5_code 1 (some .long) ({ frames := 0, cells := 0, slots := 0, locals := 0 } : Room) n0 #[(.ref a)] h0 (fun v h' => v = some (.long ac) ∧ h' = h0) := by
  refine Ct.of (plainFor_of_name pn_8) (fun m => ef_gacceptedAt a m) ?_
  intro W V H r0
  obtain ⟨X0, Fp, Fa, Fn, Fd, Fw⟩ := J0
  have r252 : W h0 0 0 1 #[.val (.ref a)] [(.ref a)] := (H.aloadN d18_0 r0 rfl rfl)
  have r253 : W h0 0 0 4 #[.val (.ref a)] [(.long ac)] := H.getF' (hw _ (List.mem_of_getElem? (i := 85) rfl)) Fa d18_1 r252
  exact ⟨_, _, H.retJ rfl (Nat.le_refl _) (Nat.le_refl _) d18_4 r253, rfl, rfl⟩
set_option maxRecDepth 65536 in
set_option maxHeartbeats 40000000 in
theorem number_ct {l : Launch} {Z : State} {a0 : Array Value} (hw : ∀ d ∈ tables_1, d.before a0 Z = true) (a : Addr) (pl : Value) (ac nu : Int64) (pd lw : Int32) (h0 : Heap) (n0 : Nat) (hpl : pl.isRef = true) (hpd : pd = 0 ∨ pd = 1) (J0 : own_job Z h0 a pl ac nu pd lw) :
    Ct l Z (⟨"com/example/lively_broker/livelybroker/broker/Job", "number", "()J"⟩ : MethodName) prog_1_method_6_code 1 (some .long) ({ frames := 0, cells := 0, slots := 0, locals := 0 } : Room) n0 #[(.ref a)] h0 (fun v h' => v = some (.long nu) ∧ h' = h0) := by
  refine Ct.of (plainFor_of_name pn_8) (fun m => ef_gnumber a m) ?_
  intro W V H r0
  obtain ⟨X0, Fp, Fa, Fn, Fd, Fw⟩ := J0
  have r254 : W h0 0 0 1 #[.val (.ref a)] [(.ref a)] := (H.aloadN d19_0 r0 rfl rfl)
  have r255 : W h0 0 0 4 #[.val (.ref a)] [(.long nu)] := H.getF' (hw _ (List.mem_of_getElem? (i := 87) rfl)) Fn d19_1 r254
  exact ⟨_, _, H.retJ rfl (Nat.le_refl _) (Nat.le_refl _) d19_4 r255, rfl, rfl⟩
theorem own_two (b : Int32) : (b + (1 : Int32)) + (1 : Int32) = b + (2 : Int32) := by rw [Int32.add_assoc]; rfl
set_option maxRecDepth 65536 in
set_option maxHeartbeats 40000000 in
theorem tail2 {l : Launch} {Z : State} {a0 : Array Value} (hw : ∀ d ∈ tables_1, d.before a0 Z = true) {n0 : Nat} {W : WT} {V : VT} {h0 : Heap} (n flags rs pf np base : Int32) (ac nu : Int64) (ia a : Addr) (pl : Value) (hpl : pl.isRef = true) (pd : Int32) (hpd : pd = 0 ∨ pd = 1) (hex : pd = (if rs = (0 : Int32) then (0 : Int32) else (if pf = (0 : Int32) then (0 : Int32) else (1 : Int32)))) (Z0 : n0 ≤ h0.size) (N0 : n0 ≤ a) (J0 : own_job Z h0 a pl ac nu pd base) (H : Wk l Z Jvm.Pilot.@@N@@.x code maxLocals ret room_1 n0 W V) (r0 : W h0 5 25 107 #[.val (.int n), .val (.int flags), .val (.long ac), .second, .val (.long nu), .second, .val (.int rs), .val (.int pf), .val (.int np), .val (.ref ia), .val pl, .val (.ref a), .val (.int base), .unset, .unset, .unset, .unset, .unset] []) : ∃ v h', V v h' ∧ v = some (.int 1) := by
  have r256 : W h0 5 25 109 #[.val (.int n), .val (.int flags), .val (.long ac), .second, .val (.long nu), .second, .val (.int rs), .val (.int pf), .val (.int np), .val (.ref ia), .val pl, .val (.ref a), .val (.int base), .unset, .unset, .unset, .unset, .unset] [(.ref a)] := (H.aload at_107 r0 rfl rfl)
  obtain ⟨_, hk1, ⟨rfl, K1, J1⟩, r257⟩ := H.callV (w := 0) (argsL := []) (rest := []) (hw _ (List.mem_of_getElem? (i := 99) rfl)) (hw _ (List.mem_of_getElem? (i := 100) rfl)) (Or.inl ⟨_, _, (hw _ (List.mem_of_getElem? (i := 102) rfl)), rfl⟩) (hw _ (List.mem_of_getElem? (i := 102) rfl)) (hw _ (List.mem_of_getElem? (i := 101) rfl)) (hw _ (List.mem_of_getElem? (i := 3) rfl)) (hw _ (List.mem_of_getElem? (i := 103) rfl)) (by decide) pd_5 (by decide) (by decide) (by decide) (by decide) J0.1 (cl_ct hw a pl ac nu pd base h0 n0 Z0 N0 J0) rfl rfl (Nat.le_of_eq rfl) rfl at_109 r256
  have Z258 : n0 ≤ hk1.size := Nat.le_trans Z0 K1.1
  replace r257 : W hk1 5 25 112 #[.val (.int n), .val (.int flags), .val (.long ac), .second, .val (.long nu), .second, .val (.int rs), .val (.int pf), .val (.int np), .val (.ref ia), .val pl, .val (.ref a), .val (.int base), .unset, .unset, .unset, .unset, .unset] [(.int (base + (1 : Int32)))] := r257
  have r259 : W hk1 5 25 114 #[.val (.int n), .val (.int flags), .val (.long ac), .second, .val (.long nu), .second, .val (.int rs), .val (.int pf), .val (.int np), .val (.ref ia), .val pl, .val (.ref a), .val (.int base), .val (.int (base + (1 : Int32))), .unset, .unset, .unset, .unset] [] := (H.istore at_112 r257 rfl)
  have r260 : W hk1 5 25 116 #[.val (.int n), .val (.int flags), .val (.long ac), .second, .val (.long nu), .second, .val (.int rs), .val (.int pf), .val (.int np), .val (.ref ia), .val pl, .val (.ref a), .val (.int base), .val (.int (base + (1 : Int32))), .unset, .unset, .unset, .unset] [(.ref a)] := (H.aload at_114 r259 rfl rfl)
  have r261 : W hk1 5 25 119 #[.val (.int n), .val (.int flags), .val (.long ac), .second, .val (.long nu), .second, .val (.int rs), .val (.int pf), .val (.int np), .val (.ref ia), .val pl, .val (.ref a), .val (.int base), .val (.int (base + (1 : Int32))), .unset, .unset, .unset, .unset] [(.int (base + (1 : Int32)))] := H.callVP (w := 0) (argsL := []) (rest := []) (hw _ (List.mem_of_getElem? (i := 104) rfl)) (hw _ (List.mem_of_getElem? (i := 105) rfl)) (Or.inl ⟨_, _, (hw _ (List.mem_of_getElem? (i := 107) rfl)), rfl⟩) (hw _ (List.mem_of_getElem? (i := 107) rfl)) (hw _ (List.mem_of_getElem? (i := 106) rfl)) (hw _ (List.mem_of_getElem? (i := 3) rfl)) (hw _ (List.mem_of_getElem? (i := 108) rfl)) (by decide) pd_5 (by decide) (by decide) (by decide) (by decide) J1.1 (lostWorkers_ct hw a pl ac nu pd (base + (1 : Int32)) hk1 n0 hpl hpd J1) rfl rfl (Nat.le_of_eq rfl) rfl at_116 r260
  have r262 : W hk1 5 25 121 #[.val (.int n), .val (.int flags), .val (.long ac), .second, .val (.long nu), .second, .val (.int rs), .val (.int pf), .val (.int np), .val (.ref ia), .val pl, .val (.ref a), .val (.int base), .val (.int (base + (1 : Int32))), .val (.int (base + (1 : Int32))), .unset, .unset, .unset] [] := (H.istore at_119 r261 rfl)
  have r263 : W hk1 5 25 123 #[.val (.int n), .val (.int flags), .val (.long ac), .second, .val (.long nu), .second, .val (.int rs), .val (.int pf), .val (.int np), .val (.ref ia), .val pl, .val (.ref a), .val (.int base), .val (.int (base + (1 : Int32))), .val (.int (base + (1 : Int32))), .unset, .unset, .unset] [(.ref a)] := (H.aload at_121 r262 rfl rfl)
  obtain ⟨_, hk2, ⟨rfl, K2, J2⟩, r264⟩ := H.callV (w := 0) (argsL := []) (rest := []) (hw _ (List.mem_of_getElem? (i := 99) rfl)) (hw _ (List.mem_of_getElem? (i := 100) rfl)) (Or.inl ⟨_, _, (hw _ (List.mem_of_getElem? (i := 102) rfl)), rfl⟩) (hw _ (List.mem_of_getElem? (i := 102) rfl)) (hw _ (List.mem_of_getElem? (i := 101) rfl)) (hw _ (List.mem_of_getElem? (i := 3) rfl)) (hw _ (List.mem_of_getElem? (i := 103) rfl)) (by decide) pd_5 (by decide) (by decide) (by decide) (by decide) J1.1 (cl_ct hw a pl ac nu pd (base + (1 : Int32)) hk1 n0 Z258 N0 J1) rfl rfl (Nat.le_of_eq rfl) rfl at_123 r263
  have Z265 : n0 ≤ hk2.size := Nat.le_trans Z258 K2.1
  replace r264 : W hk2 5 25 126 #[.val (.int n), .val (.int flags), .val (.long ac), .second, .val (.long nu), .second, .val (.int rs), .val (.int pf), .val (.int np), .val (.ref ia), .val pl, .val (.ref a), .val (.int base), .val (.int (base + (1 : Int32))), .val (.int (base + (1 : Int32))), .unset, .unset, .unset] [(.int ((base + (1 : Int32)) + (1 : Int32)))] := r264
  have r266 : W hk2 5 25 128 #[.val (.int n), .val (.int flags), .val (.long ac), .second, .val (.long nu), .second, .val (.int rs), .val (.int pf), .val (.int np), .val (.ref ia), .val pl, .val (.ref a), .val (.int base), .val (.int (base + (1 : Int32))), .val (.int (base + (1 : Int32))), .val (.int ((base + (1 : Int32)) + (1 : Int32))), .unset, .unset] [] := (H.istore at_126 r264 rfl)
  have r267 : W hk2 5 25 130 #[.val (.int n), .val (.int flags), .val (.long ac), .second, .val (.long nu), .second, .val (.int rs), .val (.int pf), .val (.int np), .val (.ref ia), .val pl, .val (.ref a), .val (.int base), .val (.int (base + (1 : Int32))), .val (.int (base + (1 : Int32))), .val (.int ((base + (1 : Int32)) + (1 : Int32))), .unset, .unset] [(.ref a)] := (H.aload at_128 r266 rfl rfl)
  have r268 : W hk2 5 25 133 #[.val (.int n), .val (.int flags), .val (.long ac), .second, .val (.long nu), .second, .val (.int rs), .val (.int pf), .val (.int np), .val (.ref ia), .val pl, .val (.ref a), .val (.int base), .val (.int (base + (1 : Int32))), .val (.int (base + (1 : Int32))), .val (.int ((base + (1 : Int32)) + (1 : Int32))), .unset, .unset] [(.int ((base + (1 : Int32)) + (1 : Int32)))] := H.callVP (w := 0) (argsL := []) (rest := []) (hw _ (List.mem_of_getElem? (i := 104) rfl)) (hw _ (List.mem_of_getElem? (i := 105) rfl)) (Or.inl ⟨_, _, (hw _ (List.mem_of_getElem? (i := 107) rfl)), rfl⟩) (hw _ (List.mem_of_getElem? (i := 107) rfl)) (hw _ (List.mem_of_getElem? (i := 106) rfl)) (hw _ (List.mem_of_getElem? (i := 3) rfl)) (hw _ (List.mem_of_getElem? (i := 108) rfl)) (by decide) pd_5 (by decide) (by decide) (by decide) (by decide) J2.1 (lostWorkers_ct hw a pl ac nu pd ((base + (1 : Int32)) + (1 : Int32)) hk2 n0 hpl hpd J2) rfl rfl (Nat.le_of_eq rfl) rfl at_130 r267
  have r269 : W hk2 5 25 135 #[.val (.int n), .val (.int flags), .val (.long ac), .second, .val (.long nu), .second, .val (.int rs), .val (.int pf), .val (.int np), .val (.ref ia), .val pl, .val (.ref a), .val (.int base), .val (.int (base + (1 : Int32))), .val (.int (base + (1 : Int32))), .val (.int ((base + (1 : Int32)) + (1 : Int32))), .val (.int ((base + (1 : Int32)) + (1 : Int32))), .unset] [] := (H.istore at_133 r268 rfl)
  have r270 : W hk2 5 25 137 #[.val (.int n), .val (.int flags), .val (.long ac), .second, .val (.long nu), .second, .val (.int rs), .val (.int pf), .val (.int np), .val (.ref ia), .val pl, .val (.ref a), .val (.int base), .val (.int (base + (1 : Int32))), .val (.int (base + (1 : Int32))), .val (.int ((base + (1 : Int32)) + (1 : Int32))), .val (.int ((base + (1 : Int32)) + (1 : Int32))), .unset] [(.int rs)] := (H.iload at_135 r269 rfl)
  have r280 : W hk2 5 25 150 #[.val (.int n), .val (.int flags), .val (.long ac), .second, .val (.long nu), .second, .val (.int rs), .val (.int pf), .val (.int np), .val (.ref ia), .val pl, .val (.ref a), .val (.int base), .val (.int (base + (1 : Int32))), .val (.int (base + (1 : Int32))), .val (.int ((base + (1 : Int32)) + (1 : Int32))), .val (.int ((base + (1 : Int32)) + (1 : Int32))), .unset] [(.int (if rs = (0 : Int32) then (0 : Int32) else (if pf = (0 : Int32) then (0 : Int32) else (1 : Int32))))] := by
    by_cases e1 : rs = (0 : Int32)
    · have r271 : W hk2 5 25 149 #[.val (.int n), .val (.int flags), .val (.long ac), .second, .val (.long nu), .second, .val (.int rs), .val (.int pf), .val (.int np), .val (.ref ia), .val pl, .val (.ref a), .val (.int base), .val (.int (base + (1 : Int32))), .val (.int (base + (1 : Int32))), .val (.int ((base + (1 : Int32)) + (1 : Int32))), .val (.int ((base + (1 : Int32)) + (1 : Int32))), .unset] [] := (H.ifYes (pc' := 149) at_137 r270 (by decide) (by decide) (teq e1).1)
      have r279 : W hk2 5 25 150 #[.val (.int n), .val (.int flags), .val (.long ac), .second, .val (.long nu), .second, .val (.int rs), .val (.int pf), .val (.int np), .val (.ref ia), .val pl, .val (.ref a), .val (.int base), .val (.int (base + (1 : Int32))), .val (.int (base + (1 : Int32))), .val (.int ((base + (1 : Int32)) + (1 : Int32))), .val (.int ((base + (1 : Int32)) + (1 : Int32))), .unset] [(.int (0 : Int32))] := (H.iconst (z := (0 : Int32)) at_149 r271 rfl)
      first | (simp only [if_pos e1]; exact r279) | exact r279 | (simp only [if_pos e1] at r279 ⊢; exact r279)
    · have r272 : W hk2 5 25 140 #[.val (.int n), .val (.int flags), .val (.long ac), .second, .val (.long nu), .second, .val (.int rs), .val (.int pf), .val (.int np), .val (.ref ia), .val pl, .val (.ref a), .val (.int base), .val (.int (base + (1 : Int32))), .val (.int (base + (1 : Int32))), .val (.int ((base + (1 : Int32)) + (1 : Int32))), .val (.int ((base + (1 : Int32)) + (1 : Int32))), .unset] [] := (H.ifNo at_137 r270 (feq e1).1)
      have r273 : W hk2 5 25 142 #[.val (.int n), .val (.int flags), .val (.long ac), .second, .val (.long nu), .second, .val (.int rs), .val (.int pf), .val (.int np), .val (.ref ia), .val pl, .val (.ref a), .val (.int base), .val (.int (base + (1 : Int32))), .val (.int (base + (1 : Int32))), .val (.int ((base + (1 : Int32)) + (1 : Int32))), .val (.int ((base + (1 : Int32)) + (1 : Int32))), .unset] [(.int pf)] := (H.iload at_140 r272 rfl)
      have r278 : W hk2 5 25 150 #[.val (.int n), .val (.int flags), .val (.long ac), .second, .val (.long nu), .second, .val (.int rs), .val (.int pf), .val (.int np), .val (.ref ia), .val pl, .val (.ref a), .val (.int base), .val (.int (base + (1 : Int32))), .val (.int (base + (1 : Int32))), .val (.int ((base + (1 : Int32)) + (1 : Int32))), .val (.int ((base + (1 : Int32)) + (1 : Int32))), .unset] [(.int (if pf = (0 : Int32) then (0 : Int32) else (1 : Int32)))] := by
        by_cases e2 : pf = (0 : Int32)
        · have r274 : W hk2 5 25 149 #[.val (.int n), .val (.int flags), .val (.long ac), .second, .val (.long nu), .second, .val (.int rs), .val (.int pf), .val (.int np), .val (.ref ia), .val pl, .val (.ref a), .val (.int base), .val (.int (base + (1 : Int32))), .val (.int (base + (1 : Int32))), .val (.int ((base + (1 : Int32)) + (1 : Int32))), .val (.int ((base + (1 : Int32)) + (1 : Int32))), .unset] [] := (H.ifYes (pc' := 149) at_142 r273 (by decide) (by decide) (teq e2).1)
          have r276 : W hk2 5 25 150 #[.val (.int n), .val (.int flags), .val (.long ac), .second, .val (.long nu), .second, .val (.int rs), .val (.int pf), .val (.int np), .val (.ref ia), .val pl, .val (.ref a), .val (.int base), .val (.int (base + (1 : Int32))), .val (.int (base + (1 : Int32))), .val (.int ((base + (1 : Int32)) + (1 : Int32))), .val (.int ((base + (1 : Int32)) + (1 : Int32))), .unset] [(.int (0 : Int32))] := (H.iconst (z := (0 : Int32)) at_149 r274 rfl)
          first | (simp only [if_pos e2]; exact r276) | exact r276 | (simp only [if_pos e2] at r276 ⊢; exact r276)
        · have r275 : W hk2 5 25 145 #[.val (.int n), .val (.int flags), .val (.long ac), .second, .val (.long nu), .second, .val (.int rs), .val (.int pf), .val (.int np), .val (.ref ia), .val pl, .val (.ref a), .val (.int base), .val (.int (base + (1 : Int32))), .val (.int (base + (1 : Int32))), .val (.int ((base + (1 : Int32)) + (1 : Int32))), .val (.int ((base + (1 : Int32)) + (1 : Int32))), .unset] [] := (H.ifNo at_142 r273 (feq e2).1)
          have r277 : W hk2 5 25 150 #[.val (.int n), .val (.int flags), .val (.long ac), .second, .val (.long nu), .second, .val (.int rs), .val (.int pf), .val (.int np), .val (.ref ia), .val pl, .val (.ref a), .val (.int base), .val (.int (base + (1 : Int32))), .val (.int (base + (1 : Int32))), .val (.int ((base + (1 : Int32)) + (1 : Int32))), .val (.int ((base + (1 : Int32)) + (1 : Int32))), .unset] [(.int (1 : Int32))] := (H.goto (pc' := 150) at_146 (H.iconst (z := (1 : Int32)) at_145 r275 rfl) (by decide) (by decide))
          first | (simp only [if_neg e2]; exact r277) | exact r277 | (simp only [if_neg e2] at r277 ⊢; exact r277)
      first | (simp only [if_neg e1]; exact r278) | exact r278 | (simp only [if_neg e1] at r278 ⊢; exact r278)
  have r281 : W hk2 5 25 152 #[.val (.int n), .val (.int flags), .val (.long ac), .second, .val (.long nu), .second, .val (.int rs), .val (.int pf), .val (.int np), .val (.ref ia), .val pl, .val (.ref a), .val (.int base), .val (.int (base + (1 : Int32))), .val (.int (base + (1 : Int32))), .val (.int ((base + (1 : Int32)) + (1 : Int32))), .val (.int ((base + (1 : Int32)) + (1 : Int32))), .val (.int (if rs = (0 : Int32) then (0 : Int32) else (if pf = (0 : Int32) then (0 : Int32) else (1 : Int32))))] [] := (H.istore at_150 r280 rfl)
  have r282 : W hk2 5 25 161 #[.val (.int n), .val (.int flags), .val (.long ac), .second, .val (.long nu), .second, .val (.int rs), .val (.int pf), .val (.int np), .val (.ref ia), .val pl, .val (.ref a), .val (.int base), .val (.int (base + (1 : Int32))), .val (.int (base + (1 : Int32))), .val (.int ((base + (1 : Int32)) + (1 : Int32))), .val (.int ((base + (1 : Int32)) + (1 : Int32))), .val (.int (if rs = (0 : Int32) then (0 : Int32) else (if pf = (0 : Int32) then (0 : Int32) else (1 : Int32))))] [] := (H.icmpNo at_158 (H.iadd at_157 (H.iconst (z := (1 : Int32)) at_156 (H.iload at_154 (H.iload at_152 r281 rfl) rfl) rfl)) (teq (rfl : base + (1 : Int32) = base + (1 : Int32))).2)
  have r283 : W hk2 5 25 170 #[.val (.int n), .val (.int flags), .val (.long ac), .second, .val (.long nu), .second, .val (.int rs), .val (.int pf), .val (.int np), .val (.ref ia), .val pl, .val (.ref a), .val (.int base), .val (.int (base + (1 : Int32))), .val (.int (base + (1 : Int32))), .val (.int ((base + (1 : Int32)) + (1 : Int32))), .val (.int ((base + (1 : Int32)) + (1 : Int32))), .val (.int (if rs = (0 : Int32) then (0 : Int32) else (if pf = (0 : Int32) then (0 : Int32) else (1 : Int32))))] [] := (H.icmpNo at_167 (H.iadd at_166 (H.iconst (z := (1 : Int32)) at_165 (H.iload at_163 (H.iload at_161 r282 rfl) rfl) rfl)) (teq (rfl : base + (1 : Int32) = base + (1 : Int32))).2)
  have r284 : W hk2 5 25 179 #[.val (.int n), .val (.int flags), .val (.long ac), .second, .val (.long nu), .second, .val (.int rs), .val (.int pf), .val (.int np), .val (.ref ia), .val pl, .val (.ref a), .val (.int base), .val (.int (base + (1 : Int32))), .val (.int (base + (1 : Int32))), .val (.int ((base + (1 : Int32)) + (1 : Int32))), .val (.int ((base + (1 : Int32)) + (1 : Int32))), .val (.int (if rs = (0 : Int32) then (0 : Int32) else (if pf = (0 : Int32) then (0 : Int32) else (1 : Int32))))] [] := (H.icmpNo at_176 (H.iadd at_175 (H.iconst (z := (2 : Int32)) at_174 (H.iload at_172 (H.iload at_170 r283 rfl) rfl) rfl)) (teq (own_two base)).2)
  have r285 : W hk2 5 25 188 #[.val (.int n), .val (.int flags), .val (.long ac), .second, .val (.long nu), .second, .val (.int rs), .val (.int pf), .val (.int np), .val (.ref ia), .val pl, .val (.ref a), .val (.int base), .val (.int (base + (1 : Int32))), .val (.int (base + (1 : Int32))), .val (.int ((base + (1 : Int32)) + (1 : Int32))), .val (.int ((base + (1 : Int32)) + (1 : Int32))), .val (.int (if rs = (0 : Int32) then (0 : Int32) else (if pf = (0 : Int32) then (0 : Int32) else (1 : Int32))))] [] := (H.icmpNo at_185 (H.iadd at_184 (H.iconst (z := (2 : Int32)) at_183 (H.iload at_181 (H.iload at_179 r284 rfl) rfl) rfl)) (teq (own_two base)).2)
  have r286 : W hk2 5 25 190 #[.val (.int n), .val (.int flags), .val (.long ac), .second, .val (.long nu), .second, .val (.int rs), .val (.int pf), .val (.int np), .val (.ref ia), .val pl, .val (.ref a), .val (.int base), .val (.int (base + (1 : Int32))), .val (.int (base + (1 : Int32))), .val (.int ((base + (1 : Int32)) + (1 : Int32))), .val (.int ((base + (1 : Int32)) + (1 : Int32))), .val (.int (if rs = (0 : Int32) then (0 : Int32) else (if pf = (0 : Int32) then (0 : Int32) else (1 : Int32))))] [(.ref a)] := (H.aload at_188 r285 rfl rfl)
  have r287 : W hk2 5 25 193 #[.val (.int n), .val (.int flags), .val (.long ac), .second, .val (.long nu), .second, .val (.int rs), .val (.int pf), .val (.int np), .val (.ref ia), .val pl, .val (.ref a), .val (.int base), .val (.int (base + (1 : Int32))), .val (.int (base + (1 : Int32))), .val (.int ((base + (1 : Int32)) + (1 : Int32))), .val (.int ((base + (1 : Int32)) + (1 : Int32))), .val (.int (if rs = (0 : Int32) then (0 : Int32) else (if pf = (0 : Int32) then (0 : Int32) else (1 : Int32))))] [(.int pd)] := H.callVP (w := 0) (argsL := []) (rest := []) (hw _ (List.mem_of_getElem? (i := 109) rfl)) (hw _ (List.mem_of_getElem? (i := 110) rfl)) (Or.inl ⟨_, _, (hw _ (List.mem_of_getElem? (i := 112) rfl)), rfl⟩) (hw _ (List.mem_of_getElem? (i := 112) rfl)) (hw _ (List.mem_of_getElem? (i := 111) rfl)) (hw _ (List.mem_of_getElem? (i := 3) rfl)) (hw _ (List.mem_of_getElem? (i := 113) rfl)) (by decide) pd_6 (by decide) (by decide) (by decide) (by decide) J2.1 (placed_ct hw a pl ac nu pd ((base + (1 : Int32)) + (1 : Int32)) hk2 n0 hpl hpd J2) rfl rfl (Nat.le_of_eq rfl) rfl at_190 r286
  have r288 : W hk2 5 25 198 #[.val (.int n), .val (.int flags), .val (.long ac), .second, .val (.long nu), .second, .val (.int rs), .val (.int pf), .val (.int np), .val (.ref ia), .val pl, .val (.ref a), .val (.int base), .val (.int (base + (1 : Int32))), .val (.int (base + (1 : Int32))), .val (.int ((base + (1 : Int32)) + (1 : Int32))), .val (.int ((base + (1 : Int32)) + (1 : Int32))), .val (.int (if rs = (0 : Int32) then (0 : Int32) else (if pf = (0 : Int32) then (0 : Int32) else (1 : Int32))))] [] := (H.icmpNo at_195 (H.iload at_193 r287 rfl) (teq hex).2)
  have r289 : W hk2 5 25 200 #[.val (.int n), .val (.int flags), .val (.long ac), .second, .val (.long nu), .second, .val (.int rs), .val (.int pf), .val (.int np), .val (.ref ia), .val pl, .val (.ref a), .val (.int base), .val (.int (base + (1 : Int32))), .val (.int (base + (1 : Int32))), .val (.int ((base + (1 : Int32)) + (1 : Int32))), .val (.int ((base + (1 : Int32)) + (1 : Int32))), .val (.int (if rs = (0 : Int32) then (0 : Int32) else (if pf = (0 : Int32) then (0 : Int32) else (1 : Int32))))] [(.ref a)] := (H.aload at_198 r288 rfl rfl)
  have r290 : W hk2 5 25 203 #[.val (.int n), .val (.int flags), .val (.long ac), .second, .val (.long nu), .second, .val (.int rs), .val (.int pf), .val (.int np), .val (.ref ia), .val pl, .val (.ref a), .val (.int base), .val (.int (base + (1 : Int32))), .val (.int (base + (1 : Int32))), .val (.int ((base + (1 : Int32)) + (1 : Int32))), .val (.int ((base + (1 : Int32)) + (1 : Int32))), .val (.int (if rs = (0 : Int32) then (0 : Int32) else (if pf = (0 : Int32) then (0 : Int32) else (1 : Int32))))] [pl] := H.callVP (w := 0) (argsL := []) (rest := []) (hw _ (List.mem_of_getElem? (i := 114) rfl)) (hw _ (List.mem_of_getElem? (i := 115) rfl)) (Or.inl ⟨_, _, (hw _ (List.mem_of_getElem? (i := 117) rfl)), rfl⟩) (hw _ (List.mem_of_getElem? (i := 117) rfl)) (hw _ (List.mem_of_getElem? (i := 116) rfl)) (hw _ (List.mem_of_getElem? (i := 3) rfl)) (hw _ (List.mem_of_getElem? (i := 118) rfl)) (by decide) pd_7 (by decide) (by decide) (by decide) (by decide) J2.1 (payload_ct hw a pl ac nu pd ((base + (1 : Int32)) + (1 : Int32)) hk2 n0 hpl hpd J2) rfl rfl (Nat.le_of_eq rfl) rfl at_200 r289
  have r291 : W hk2 5 25 205 #[.val (.int n), .val (.int flags), .val (.long ac), .second, .val (.long nu), .second, .val (.int rs), .val (.int pf), .val (.int np), .val (.ref ia), .val pl, .val (.ref a), .val (.int base), .val (.int (base + (1 : Int32))), .val (.int (base + (1 : Int32))), .val (.int ((base + (1 : Int32)) + (1 : Int32))), .val (.int ((base + (1 : Int32)) + (1 : Int32))), .val (.int (if rs = (0 : Int32) then (0 : Int32) else (if pf = (0 : Int32) then (0 : Int32) else (1 : Int32))))] [pl, pl] := (H.aload at_203 r290 rfl hpl)
  have r292 : W hk2 5 25 208 #[.val (.int n), .val (.int flags), .val (.long ac), .second, .val (.long nu), .second, .val (.int rs), .val (.int pf), .val (.int np), .val (.ref ia), .val pl, .val (.ref a), .val (.int base), .val (.int (base + (1 : Int32))), .val (.int (base + (1 : Int32))), .val (.int ((base + (1 : Int32)) + (1 : Int32))), .val (.int ((base + (1 : Int32)) + (1 : Int32))), .val (.int (if rs = (0 : Int32) then (0 : Int32) else (if pf = (0 : Int32) then (0 : Int32) else (1 : Int32))))] [] := (H.acmpNo at_205 r291 hpl hpl (by first | exact (decide_eq_false (fun q => q rfl) : decide (pl ≠ pl) = false) | (simp [XT.acmp]; done)))
  have r293 : W hk2 5 25 210 #[.val (.int n), .val (.int flags), .val (.long ac), .second, .val (.long nu), .second, .val (.int rs), .val (.int pf), .val (.int np), .val (.ref ia), .val pl, .val (.ref a), .val (.int base), .val (.int (base + (1 : Int32))), .val (.int (base + (1 : Int32))), .val (.int ((base + (1 : Int32)) + (1 : Int32))), .val (.int ((base + (1 : Int32)) + (1 : Int32))), .val (.int (if rs = (0 : Int32) then (0 : Int32) else (if pf = (0 : Int32) then (0 : Int32) else (1 : Int32))))] [(.ref a)] := (H.aload at_208 r292 rfl rfl)
  have r294 : W hk2 5 25 213 #[.val (.int n), .val (.int flags), .val (.long ac), .second, .val (.long nu), .second, .val (.int rs), .val (.int pf), .val (.int np), .val (.ref ia), .val pl, .val (.ref a), .val (.int base), .val (.int (base + (1 : Int32))), .val (.int (base + (1 : Int32))), .val (.int ((base + (1 : Int32)) + (1 : Int32))), .val (.int ((base + (1 : Int32)) + (1 : Int32))), .val (.int (if rs = (0 : Int32) then (0 : Int32) else (if pf = (0 : Int32) then (0 : Int32) else (1 : Int32))))] [(.long ac)] := H.callVP (w := 0) (argsL := []) (rest := []) (hw _ (List.mem_of_getElem? (i := 119) rfl)) (hw _ (List.mem_of_getElem? (i := 120) rfl)) (Or.inl ⟨_, _, (hw _ (List.mem_of_getElem? (i := 122) rfl)), rfl⟩) (hw _ (List.mem_of_getElem? (i := 122) rfl)) (hw _ (List.mem_of_getElem? (i := 121) rfl)) (hw _ (List.mem_of_getElem? (i := 3) rfl)) (hw _ (List.mem_of_getElem? (i := 123) rfl)) (by decide) pd_8 (by decide) (by decide) (by decide) (by decide) J2.1 (acceptedAt_ct hw a pl ac nu pd ((base + (1 : Int32)) + (1 : Int32)) hk2 n0 hpl hpd J2) rfl rfl (Nat.le_of_eq rfl) rfl at_210 r293
  have r295 : W hk2 5 25 218 #[.val (.int n), .val (.int flags), .val (.long ac), .second, .val (.long nu), .second, .val (.int rs), .val (.int pf), .val (.int np), .val (.ref ia), .val pl, .val (.ref a), .val (.int base), .val (.int (base + (1 : Int32))), .val (.int (base + (1 : Int32))), .val (.int ((base + (1 : Int32)) + (1 : Int32))), .val (.int ((base + (1 : Int32)) + (1 : Int32))), .val (.int (if rs = (0 : Int32) then (0 : Int32) else (if pf = (0 : Int32) then (0 : Int32) else (1 : Int32))))] [] := (H.ifNo at_215 (H.lcmp at_214 (H.lloadN at_213 r294 rfl)) (teq ((lw_eq ac ac).mpr rfl)).2)
  have r296 : W hk2 5 25 220 #[.val (.int n), .val (.int flags), .val (.long ac), .second, .val (.long nu), .second, .val (.int rs), .val (.int pf), .val (.int np), .val (.ref ia), .val pl, .val (.ref a), .val (.int base), .val (.int (base + (1 : Int32))), .val (.int (base + (1 : Int32))), .val (.int ((base + (1 : Int32)) + (1 : Int32))), .val (.int ((base + (1 : Int32)) + (1 : Int32))), .val (.int (if rs = (0 : Int32) then (0 : Int32) else (if pf = (0 : Int32) then (0 : Int32) else (1 : Int32))))] [(.ref a)] := (H.aload at_218 r295 rfl rfl)
  have r297 : W hk2 5 25 223 #[.val (.int n), .val (.int flags), .val (.long ac), .second, .val (.long nu), .second, .val (.int rs), .val (.int pf), .val (.int np), .val (.ref ia), .val pl, .val (.ref a), .val (.int base), .val (.int (base + (1 : Int32))), .val (.int (base + (1 : Int32))), .val (.int ((base + (1 : Int32)) + (1 : Int32))), .val (.int ((base + (1 : Int32)) + (1 : Int32))), .val (.int (if rs = (0 : Int32) then (0 : Int32) else (if pf = (0 : Int32) then (0 : Int32) else (1 : Int32))))] [(.long nu)] := H.callVP (w := 0) (argsL := []) (rest := []) (hw _ (List.mem_of_getElem? (i := 124) rfl)) (hw _ (List.mem_of_getElem? (i := 125) rfl)) (Or.inl ⟨_, _, (hw _ (List.mem_of_getElem? (i := 127) rfl)), rfl⟩) (hw _ (List.mem_of_getElem? (i := 127) rfl)) (hw _ (List.mem_of_getElem? (i := 126) rfl)) (hw _ (List.mem_of_getElem? (i := 3) rfl)) (hw _ (List.mem_of_getElem? (i := 128) rfl)) (by decide) pd_8 (by decide) (by decide) (by decide) (by decide) J2.1 (number_ct hw a pl ac nu pd ((base + (1 : Int32)) + (1 : Int32)) hk2 n0 hpl hpd J2) rfl rfl (Nat.le_of_eq rfl) rfl at_220 r296
  have r298 : W hk2 5 25 229 #[.val (.int n), .val (.int flags), .val (.long ac), .second, .val (.long nu), .second, .val (.int rs), .val (.int pf), .val (.int np), .val (.ref ia), .val pl, .val (.ref a), .val (.int base), .val (.int (base + (1 : Int32))), .val (.int (base + (1 : Int32))), .val (.int ((base + (1 : Int32)) + (1 : Int32))), .val (.int ((base + (1 : Int32)) + (1 : Int32))), .val (.int (if rs = (0 : Int32) then (0 : Int32) else (if pf = (0 : Int32) then (0 : Int32) else (1 : Int32))))] [] := (H.ifNo at_226 (H.lcmp at_225 (H.lload at_223 r297 rfl)) (teq ((lw_eq nu nu).mpr rfl)).2)
  have r299 : W hk2 5 25 234 #[.val (.int n), .val (.int flags), .val (.long ac), .second, .val (.long nu), .second, .val (.int rs), .val (.int pf), .val (.int np), .val (.ref ia), .val pl, .val (.ref a), .val (.int base), .val (.int (base + (1 : Int32))), .val (.int (base + (1 : Int32))), .val (.int ((base + (1 : Int32)) + (1 : Int32))), .val (.int ((base + (1 : Int32)) + (1 : Int32))), .val (.int (if rs = (0 : Int32) then (0 : Int32) else (if pf = (0 : Int32) then (0 : Int32) else (1 : Int32))))] [(.int (1 : Int32))] := (H.goto (pc' := 234) at_230 (H.iconst (z := (1 : Int32)) at_229 r298 rfl) (by decide) (by decide))
  exact ⟨_, _, H.retZ rfl rfl (by decide) (by decide) at_234 r299, rfl⟩
set_option maxRecDepth 65536 in
set_option maxHeartbeats 40000000 in
theorem tail1 {l : Launch} {Z : State} {a0 : Array Value} (hw : ∀ d ∈ tables_1, d.before a0 Z = true) {n0 : Nat} {W : WT} {V : VT} {h0 : Heap} (n flags rs pf np : Int32) (ac nu : Int64) (ia : Addr) (pl : Value) (hpl : pl.isRef = true) (hpf : pf = 0 ∨ pf = 1) (Z0 : n0 ≤ h0.size) (H : Wk l Z Jvm.Pilot.@@N@@.x code maxLocals ret room_1 n0 W V) (r0 : W h0 2 2 68 #[.val (.int n), .val (.int flags), .val (.long ac), .second, .val (.long nu), .second, .val (.int rs), .val (.int pf), .val (.int np), .val (.ref ia), .val pl, .unset, .unset, .unset, .unset, .unset, .unset, .unset] []) : ∃ v h', V v h' ∧ v = some (.int 1) := by
  obtain ⟨h300, a, ea301, E302, X303, D304, U305, r306⟩ := H.newO (hw _ (List.mem_of_getElem? (i := 1) rfl)) (hw _ (List.mem_of_getElem? (i := 2) rfl)) (hw _ (List.mem_of_getElem? (i := 3) rfl)) (by decide) (by decide) at_68 r0
  have N307 : n0 ≤ a := by rw [ea301]; exact Z0
  have Z308 : n0 ≤ h300.size := Nat.le_trans Z0 E302.1
  have G309 : Fld Z h300 a "com/example/lively_broker/livelybroker/broker/Job" "clients" "Ljava/util/Set;" (.null) := D304 (ty := (.object "java/util/Set")) (Or.inr (hw _ (List.mem_of_getElem? (i := 80) rfl))) (by decide +kernel)
  have G310 : Fld Z h300 a "com/example/lively_broker/livelybroker/broker/Job" "id" "[B" (.null) := D304 (ty := (.array .byte)) (Or.inr (hw _ (List.mem_of_getElem? (i := 82) rfl))) (by decide +kernel)
  have G311 : Fld Z h300 a "com/example/lively_broker/livelybroker/broker/Job" "payload" "[B" (.null) := D304 (ty := (.array .byte)) (Or.inl (hw _ (List.mem_of_getElem? (i := 84) rfl))) (by decide +kernel)
  have G312 : Fld Z h300 a "com/example/lively_broker/livelybroker/broker/Job" "acceptedAt" "J" (.long 0) := D304 (ty := .long) (Or.inr (hw _ (List.mem_of_getElem? (i := 86) rfl))) (by decide +kernel)
  have G313 : Fld Z h300 a "com/example/lively_broker/livelybroker/broker/Job" "number" "J" (.long 0) := D304 (ty := .long) (Or.inr (hw _ (List.mem_of_getElem? (i := 88) rfl))) (by decide +kernel)
  have G314 : Fld Z h300 a "com/example/lively_broker/livelybroker/broker/Job" "placed" "Z" (.int 0) := D304 (ty := .boolean) (Or.inl (hw _ (List.mem_of_getElem? (i := 96) rfl))) (by decide +kernel)
  have G315 : Fld Z h300 a "com/example/lively_broker/livelybroker/broker/Job" "lostWorkers" "I" (.int 0) := D304 (ty := .int) (Or.inl (hw _ (List.mem_of_getElem? (i := 98) rfl))) (by decide +kernel)
  replace r306 : W h300 3 12 71 #[.val (.int n), .val (.int flags), .val (.long ac), .second, .val (.long nu), .second, .val (.int rs), .val (.int pf), .val (.int np), .val (.ref ia), .val pl, .unset, .unset, .unset, .unset, .unset, .unset, .unset] [(.ref a)] := r306
  have r316 : W h300 3 12 79 #[.val (.int n), .val (.int flags), .val (.long ac), .second, .val (.long nu), .second, .val (.int rs), .val (.int pf), .val (.int np), .val (.ref ia), .val pl, .unset, .unset, .unset, .unset, .unset, .unset, .unset] [(.long nu), (.long ac), pl, (.ref ia), (.ref a), (.ref a)] := (H.lload at_77 (H.lloadN at_76 (H.aload at_74 (H.aload at_72 (H.dup at_71 r306 rfl) rfl rfl) rfl hpl) rfl) rfl)
  obtain ⟨_, hj, ⟨rfl, Kj, Jj⟩, r317⟩ := H.callI (w := 1) (argsL := [(.ref ia), pl, (.long ac), (.long nu)]) (rest := [(.ref a)]) rfl (hw _ (List.mem_of_getElem? (i := 4) rfl)) (hw _ (List.mem_of_getElem? (i := 5) rfl)) (hw _ (List.mem_of_getElem? (i := 3) rfl)) (hw _ (List.mem_of_getElem? (i := 6) rfl)) (by decide) pd_9 (by decide) (by decide) (by decide) (by decide) (job_ct hw a ia pl hpl ac nu h300 n0 Z308 N307 X303 G309 G310 G311 G312 G313 G314 G315) rfl rfl (Nat.le_of_eq rfl) rfl at_79 r316
  have Z318 : n0 ≤ hj.size := Nat.le_trans Z308 Kj.1
  replace r317 : W hj 5 25 82 #[.val (.int n), .val (.int flags), .val (.long ac), .second, .val (.long nu), .second, .val (.int rs), .val (.int pf), .val (.int np), .val (.ref ia), .val pl, .unset, .unset, .unset, .unset, .unset, .unset, .unset] [(.ref a)] := r317
  have r319 : W hj 5 25 84 #[.val (.int n), .val (.int flags), .val (.long ac), .second, .val (.long nu), .second, .val (.int rs), .val (.int pf), .val (.int np), .val (.ref ia), .val pl, .val (.ref a), .unset, .unset, .unset, .unset, .unset, .unset] [] := (H.astore at_82 r317 rfl rfl)
  have r320 : W hj 5 25 87 #[.val (.int n), .val (.int flags), .val (.long ac), .second, .val (.long nu), .second, .val (.int rs), .val (.int pf), .val (.int np), .val (.ref ia), .val pl, .val (.ref a), .val (.int (0 : Int32)), .unset, .unset, .unset, .unset, .unset] [] := (H.istore at_85 (H.iconst (z := (0 : Int32)) at_84 r319 rfl) rfl)
  have r321 : W hj 5 25 89 #[.val (.int n), .val (.int flags), .val (.long ac), .second, .val (.long nu), .second, .val (.int rs), .val (.int pf), .val (.int np), .val (.ref ia), .val pl, .val (.ref a), .val (.int (0 : Int32)), .unset, .unset, .unset, .unset, .unset] [(.int rs)] := (H.iload at_87 r320 rfl)
  by_cases h1 : rs = (0 : Int32)
  · have r322 : W hj 5 25 107 #[.val (.int n), .val (.int flags), .val (.long ac), .second, .val (.long nu), .second, .val (.int rs), .val (.int pf), .val (.int np), .val (.ref ia), .val pl, .val (.ref a), .val (.int (0 : Int32)), .unset, .unset, .unset, .unset, .unset] [] := (H.ifYes (pc' := 107) at_89 r321 (by decide) (by decide) (teq h1).1)
    exact tail2 hw n flags rs pf np (0 : Int32) ac nu ia a pl hpl (0 : Int32) (Or.inl rfl) (by rw [if_pos h1]) Z318 N307 Jj H r322
  · have r323 : W hj 5 25 92 #[.val (.int n), .val (.int flags), .val (.long ac), .second, .val (.long nu), .second, .val (.int rs), .val (.int pf), .val (.int np), .val (.ref ia), .val pl, .val (.ref a), .val (.int (0 : Int32)), .unset, .unset, .unset, .unset, .unset] [] := (H.ifNo at_89 r321 (feq h1).1)
    have r324 : W hj 5 25 98 #[.val (.int n), .val (.int flags), .val (.long ac), .second, .val (.long nu), .second, .val (.int rs), .val (.int pf), .val (.int np), .val (.ref ia), .val pl, .val (.ref a), .val (.int (n &&& (1073741823 : Int32))), .unset, .unset, .unset, .unset, .unset] [] := (H.istore at_96 (H.iand at_95 (H.ldcInt at_93 (H.iloadN at_92 r323 rfl) (hw _ (List.mem_of_getElem? (i := 89) rfl)))) rfl)
    have r325 : W hj 5 25 104 #[.val (.int n), .val (.int flags), .val (.long ac), .second, .val (.long nu), .second, .val (.int rs), .val (.int pf), .val (.int np), .val (.ref ia), .val pl, .val (.ref a), .val (.int (n &&& (1073741823 : Int32))), .unset, .unset, .unset, .unset, .unset] [(.int (n &&& (1073741823 : Int32))), (.int pf), (.ref a)] := (H.iload at_102 (H.iload at_100 (H.aload at_98 r324 rfl rfl) rfl) rfl)
    obtain ⟨_, hr, ⟨rfl, Kr, Jr⟩, r326⟩ := H.callV (w := 0) (argsL := [(.int pf), (.int (n &&& (1073741823 : Int32)))]) (rest := []) (hw _ (List.mem_of_getElem? (i := 90) rfl)) (hw _ (List.mem_of_getElem? (i := 91) rfl)) (Or.inl ⟨_, _, (hw _ (List.mem_of_getElem? (i := 93) rfl)), rfl⟩) (hw _ (List.mem_of_getElem? (i := 93) rfl)) (hw _ (List.mem_of_getElem? (i := 92) rfl)) (hw _ (List.mem_of_getElem? (i := 3) rfl)) (hw _ (List.mem_of_getElem? (i := 94) rfl)) (by decide) pd_10 (by decide) (by decide) (by decide) (by decide) Jj.1 (rp_ct hw a pl ac nu 0 0 hj n0 pf (n &&& (1073741823 : Int32)) hpf Z318 N307 Jj) rfl rfl (Nat.le_of_eq rfl) rfl at_104 r325
    have Z327 : n0 ≤ hr.size := Nat.le_trans Z318 Kr.1
    replace r326 : W hr 5 25 107 #[.val (.int n), .val (.int flags), .val (.long ac), .second, .val (.long nu), .second, .val (.int rs), .val (.int pf), .val (.int np), .val (.ref ia), .val pl, .val (.ref a), .val (.int (n &&& (1073741823 : Int32))), .unset, .unset, .unset, .unset, .unset] [] := r326
    exact tail2 hw n flags rs pf np (n &&& (1073741823 : Int32)) ac nu ia a pl hpl pf hpf (by rw [if_neg h1]; rcases hpf with rfl | rfl <;> rfl) Z327 N307 Jr H r326
set_option maxRecDepth 65536 in
set_option maxHeartbeats 40000000 in
theorem law_ct {l : Launch} {Z : State} {a0 : Array Value} (hw : ∀ d ∈ tables_1, d.before a0 Z = true) (n flags : Int32) (ac nu : Int64) (h0 : Heap) (n0 : Nat) (Z0 : n0 ≤ h0.size) :
    Ct l Z x code maxLocals ret room_1 n0 #[(.int n), (.int flags), (.long ac), (.long nu)] h0 (fun v h' => v = some (.int 1)) := by
  refine Ct.of (plainFor_of_name pn_9) (fun m => ef_0 n flags ac nu m) ?_
  intro W V H r0
  have r328 : W h0 0 0 3 #[.val (.int n), .val (.int flags), .val (.long ac), .second, .val (.long nu), .second, .unset, .unset, .unset, .unset, .unset, .unset, .unset, .unset, .unset, .unset, .unset, .unset] [(.int (flags &&& (1 : Int32)))] := (H.iand at_2 (H.iconst (z := (1 : Int32)) at_1 (H.iloadN at_0 r0 rfl) rfl))
  have r333 : W h0 0 0 11 #[.val (.int n), .val (.int flags), .val (.long ac), .second, .val (.long nu), .second, .unset, .unset, .unset, .unset, .unset, .unset, .unset, .unset, .unset, .unset, .unset, .unset] [(.int (if (flags &&& (1 : Int32)) = (0 : Int32) then (0 : Int32) else (1 : Int32)))] := by
    by_cases h1 : (flags &&& (1 : Int32)) = (0 : Int32)
    · have r329 : W h0 0 0 10 #[.val (.int n), .val (.int flags), .val (.long ac), .second, .val (.long nu), .second, .unset, .unset, .unset, .unset, .unset, .unset, .unset, .unset, .unset, .unset, .unset, .unset] [] := (H.ifYes (pc' := 10) at_3 r328 (by decide) (by decide) (teq h1).1)
      have r331 : W h0 0 0 11 #[.val (.int n), .val (.int flags), .val (.long ac), .second, .val (.long nu), .second, .unset, .unset, .unset, .unset, .unset, .unset, .unset, .unset, .unset, .unset, .unset, .unset] [(.int (0 : Int32))] := (H.iconst (z := (0 : Int32)) at_10 r329 rfl)
      first | (simp only [if_pos h1]; exact r331) | exact r331 | (simp only [if_pos h1] at r331 ⊢; exact r331)
    · have r330 : W h0 0 0 6 #[.val (.int n), .val (.int flags), .val (.long ac), .second, .val (.long nu), .second, .unset, .unset, .unset, .unset, .unset, .unset, .unset, .unset, .unset, .unset, .unset, .unset] [] := (H.ifNo at_3 r328 (feq h1).1)
      have r332 : W h0 0 0 11 #[.val (.int n), .val (.int flags), .val (.long ac), .second, .val (.long nu), .second, .unset, .unset, .unset, .unset, .unset, .unset, .unset, .unset, .unset, .unset, .unset, .unset] [(.int (1 : Int32))] := (H.goto (pc' := 11) at_7 (H.iconst (z := (1 : Int32)) at_6 r330 rfl) (by decide) (by decide))
      first | (simp only [if_neg h1]; exact r332) | exact r332 | (simp only [if_neg h1] at r332 ⊢; exact r332)
  have r334 : W h0 0 0 13 #[.val (.int n), .val (.int flags), .val (.long ac), .second, .val (.long nu), .second, .val (.int (if (flags &&& (1 : Int32)) = (0 : Int32) then (0 : Int32) else (1 : Int32))), .unset, .unset, .unset, .unset, .unset, .unset, .unset, .unset, .unset, .unset, .unset] [] := (H.istore at_11 r333 rfl)
  generalize (if (flags &&& (1 : Int32)) = (0 : Int32) then (0 : Int32) else (1 : Int32)) = rs at r334
  have r335 : W h0 0 0 16 #[.val (.int n), .val (.int flags), .val (.long ac), .second, .val (.long nu), .second, .val (.int rs), .unset, .unset, .unset, .unset, .unset, .unset, .unset, .unset, .unset, .unset, .unset] [(.int (flags &&& (2 : Int32)))] := (H.iand at_15 (H.iconst (z := (2 : Int32)) at_14 (H.iloadN at_13 r334 rfl) rfl))
  have r340 : W h0 0 0 24 #[.val (.int n), .val (.int flags), .val (.long ac), .second, .val (.long nu), .second, .val (.int rs), .unset, .unset, .unset, .unset, .unset, .unset, .unset, .unset, .unset, .unset, .unset] [(.int (if (flags &&& (2 : Int32)) = (0 : Int32) then (0 : Int32) else (1 : Int32)))] := by
    by_cases h2 : (flags &&& (2 : Int32)) = (0 : Int32)
    · have r336 : W h0 0 0 23 #[.val (.int n), .val (.int flags), .val (.long ac), .second, .val (.long nu), .second, .val (.int rs), .unset, .unset, .unset, .unset, .unset, .unset, .unset, .unset, .unset, .unset, .unset] [] := (H.ifYes (pc' := 23) at_16 r335 (by decide) (by decide) (teq h2).1)
      have r338 : W h0 0 0 24 #[.val (.int n), .val (.int flags), .val (.long ac), .second, .val (.long nu), .second, .val (.int rs), .unset, .unset, .unset, .unset, .unset, .unset, .unset, .unset, .unset, .unset, .unset] [(.int (0 : Int32))] := (H.iconst (z := (0 : Int32)) at_23 r336 rfl)
      first | (simp only [if_pos h2]; exact r338) | exact r338 | (simp only [if_pos h2] at r338 ⊢; exact r338)
    · have r337 : W h0 0 0 19 #[.val (.int n), .val (.int flags), .val (.long ac), .second, .val (.long nu), .second, .val (.int rs), .unset, .unset, .unset, .unset, .unset, .unset, .unset, .unset, .unset, .unset, .unset] [] := (H.ifNo at_16 r335 (feq h2).1)
      have r339 : W h0 0 0 24 #[.val (.int n), .val (.int flags), .val (.long ac), .second, .val (.long nu), .second, .val (.int rs), .unset, .unset, .unset, .unset, .unset, .unset, .unset, .unset, .unset, .unset, .unset] [(.int (1 : Int32))] := (H.goto (pc' := 24) at_20 (H.iconst (z := (1 : Int32)) at_19 r337 rfl) (by decide) (by decide))
      first | (simp only [if_neg h2]; exact r339) | exact r339 | (simp only [if_neg h2] at r339 ⊢; exact r339)
  have r341 : W h0 0 0 26 #[.val (.int n), .val (.int flags), .val (.long ac), .second, .val (.long nu), .second, .val (.int rs), .val (.int (if (flags &&& (2 : Int32)) = (0 : Int32) then (0 : Int32) else (1 : Int32))), .unset, .unset, .unset, .unset, .unset, .unset, .unset, .unset, .unset, .unset] [] := (H.istore at_24 r340 rfl)
  have hpf : (if (flags &&& (2 : Int32)) = (0 : Int32) then (0 : Int32) else (1 : Int32)) = 0 ∨ (if (flags &&& (2 : Int32)) = (0 : Int32) then (0 : Int32) else (1 : Int32)) = 1 := by split <;> simp
  generalize (if (flags &&& (2 : Int32)) = (0 : Int32) then (0 : Int32) else (1 : Int32)) = pf at r341 hpf
  have r342 : W h0 0 0 29 #[.val (.int n), .val (.int flags), .val (.long ac), .second, .val (.long nu), .second, .val (.int rs), .val (.int pf), .unset, .unset, .unset, .unset, .unset, .unset, .unset, .unset, .unset, .unset] [(.int (flags &&& (4 : Int32)))] := (H.iand at_28 (H.iconst (z := (4 : Int32)) at_27 (H.iloadN at_26 r341 rfl) rfl))
  have r347 : W h0 0 0 37 #[.val (.int n), .val (.int flags), .val (.long ac), .second, .val (.long nu), .second, .val (.int rs), .val (.int pf), .unset, .unset, .unset, .unset, .unset, .unset, .unset, .unset, .unset, .unset] [(.int (if (flags &&& (4 : Int32)) = (0 : Int32) then (0 : Int32) else (1 : Int32)))] := by
    by_cases h3 : (flags &&& (4 : Int32)) = (0 : Int32)
    · have r343 : W h0 0 0 36 #[.val (.int n), .val (.int flags), .val (.long ac), .second, .val (.long nu), .second, .val (.int rs), .val (.int pf), .unset, .unset, .unset, .unset, .unset, .unset, .unset, .unset, .unset, .unset] [] := (H.ifYes (pc' := 36) at_29 r342 (by decide) (by decide) (teq h3).1)
      have r345 : W h0 0 0 37 #[.val (.int n), .val (.int flags), .val (.long ac), .second, .val (.long nu), .second, .val (.int rs), .val (.int pf), .unset, .unset, .unset, .unset, .unset, .unset, .unset, .unset, .unset, .unset] [(.int (0 : Int32))] := (H.iconst (z := (0 : Int32)) at_36 r343 rfl)
      first | (simp only [if_pos h3]; exact r345) | exact r345 | (simp only [if_pos h3] at r345 ⊢; exact r345)
    · have r344 : W h0 0 0 32 #[.val (.int n), .val (.int flags), .val (.long ac), .second, .val (.long nu), .second, .val (.int rs), .val (.int pf), .unset, .unset, .unset, .unset, .unset, .unset, .unset, .unset, .unset, .unset] [] := (H.ifNo at_29 r342 (feq h3).1)
      have r346 : W h0 0 0 37 #[.val (.int n), .val (.int flags), .val (.long ac), .second, .val (.long nu), .second, .val (.int rs), .val (.int pf), .unset, .unset, .unset, .unset, .unset, .unset, .unset, .unset, .unset, .unset] [(.int (1 : Int32))] := (H.goto (pc' := 37) at_33 (H.iconst (z := (1 : Int32)) at_32 r344 rfl) (by decide) (by decide))
      first | (simp only [if_neg h3]; exact r346) | exact r346 | (simp only [if_neg h3] at r346 ⊢; exact r346)
  have r348 : W h0 0 0 39 #[.val (.int n), .val (.int flags), .val (.long ac), .second, .val (.long nu), .second, .val (.int rs), .val (.int pf), .val (.int (if (flags &&& (4 : Int32)) = (0 : Int32) then (0 : Int32) else (1 : Int32))), .unset, .unset, .unset, .unset, .unset, .unset, .unset, .unset, .unset] [] := (H.istore at_37 r347 rfl)
  generalize (if (flags &&& (4 : Int32)) = (0 : Int32) then (0 : Int32) else (1 : Int32)) = np at r348
  have r349 : W h0 0 0 40 #[.val (.int n), .val (.int flags), .val (.long ac), .second, .val (.long nu), .second, .val (.int rs), .val (.int pf), .val (.int np), .unset, .unset, .unset, .unset, .unset, .unset, .unset, .unset, .unset] [(.int (1 : Int32))] := (H.iconst (z := (1 : Int32)) at_39 r348 rfl)
  obtain ⟨h350, ia, ea351, E352, A353, r354⟩ := H.newA (i := 1) (cap := 1) (d := (.int 0)) rfl rfl (hw _ (List.mem_of_getElem? (i := 0) rfl)) (by decide) (by decide) (by decide) (by decide) (by decide) at_40 r349
  have N355 : n0 ≤ ia := by rw [ea351]; exact Z0
  have Z356 : n0 ≤ h350.size := Nat.le_trans Z0 E352.1
  have A353l : Ary Z h350 ia .byte [.int 0] := A353
  replace r354 : W h350 1 1 42 #[.val (.int n), .val (.int flags), .val (.long ac), .second, .val (.long nu), .second, .val (.int rs), .val (.int pf), .val (.int np), .unset, .unset, .unset, .unset, .unset, .unset, .unset, .unset, .unset] [(.ref ia)] := r354
  have r357 : W h350 1 1 46 #[.val (.int n), .val (.int flags), .val (.long ac), .second, .val (.long nu), .second, .val (.int rs), .val (.int pf), .val (.int np), .unset, .unset, .unset, .unset, .unset, .unset, .unset, .unset, .unset] [(.int (flags.toInt8.toInt32)), (.int (0 : Int32)), (.ref ia), (.ref ia)] := (H.i2b at_45 (H.iloadN at_44 (H.iconst (z := (0 : Int32)) at_43 (H.dup at_42 r354 rfl) rfl) rfl))
  obtain ⟨h358, w359, A360, r361⟩ := H.putB (i := 0) (z := ((flags.toInt8.toInt32).toInt8.toInt32)) rfl A353l (by decide) (by decide : 0 < 1) N355 at_46 r357
  have Z362 : n0 ≤ h358.size := by rw [w359.size]; exact Z356
  replace A360 : Ary Z h358 ia .byte [.int ((flags.toInt8.toInt32).toInt8.toInt32)] := A360
  replace r361 : W h358 1 1 47 #[.val (.int n), .val (.int flags), .val (.long ac), .second, .val (.long nu), .second, .val (.int rs), .val (.int pf), .val (.int np), .unset, .unset, .unset, .unset, .unset, .unset, .unset, .unset, .unset] [(.ref ia)] := r361
  have r363 : W h358 1 1 49 #[.val (.int n), .val (.int flags), .val (.long ac), .second, .val (.long nu), .second, .val (.int rs), .val (.int pf), .val (.int np), .val (.ref ia), .unset, .unset, .unset, .unset, .unset, .unset, .unset, .unset] [] := (H.astore at_47 r361 rfl rfl)
  have r364 : W h358 1 1 51 #[.val (.int n), .val (.int flags), .val (.long ac), .second, .val (.long nu), .second, .val (.int rs), .val (.int pf), .val (.int np), .val (.ref ia), .unset, .unset, .unset, .unset, .unset, .unset, .unset, .unset] [(.int np)] := (H.iload at_49 r363 rfl)
  by_cases h4 : np = (0 : Int32)
  · have r365 : W h358 1 1 58 #[.val (.int n), .val (.int flags), .val (.long ac), .second, .val (.long nu), .second, .val (.int rs), .val (.int pf), .val (.int np), .val (.ref ia), .unset, .unset, .unset, .unset, .unset, .unset, .unset, .unset] [] := (H.ifYes (pc' := 58) at_51 r364 (by decide) (by decide) (teq h4).1)
    have r367 : W h358 1 1 59 #[.val (.int n), .val (.int flags), .val (.long ac), .second, .val (.long nu), .second, .val (.int rs), .val (.int pf), .val (.int np), .val (.ref ia), .unset, .unset, .unset, .unset, .unset, .unset, .unset, .unset] [(.int (1 : Int32))] := (H.iconst (z := (1 : Int32)) at_58 r365 rfl)
    obtain ⟨h368, pa, ea369, E370, A371, r372⟩ := H.newA (i := 1) (cap := 1) (d := (.int 0)) rfl rfl (hw _ (List.mem_of_getElem? (i := 0) rfl)) (by decide) (by decide) (by decide) (by decide) (by decide) at_59 r367
    have ne373 : ia ≠ pa := Nat.ne_of_lt (by rw [ea369]; exact A360.lt)
    have N374 : n0 ≤ pa := by rw [ea369]; exact Z362
    have Z375 : n0 ≤ h368.size := Nat.le_trans Z362 E370.1
    have A371l : Ary Z h368 pa .byte [.int 0] := A371
    replace r372 : W h368 2 2 61 #[.val (.int n), .val (.int flags), .val (.long ac), .second, .val (.long nu), .second, .val (.int rs), .val (.int pf), .val (.int np), .val (.ref ia), .unset, .unset, .unset, .unset, .unset, .unset, .unset, .unset] [(.ref pa)] := r372
    have r376 : W h368 2 2 65 #[.val (.int n), .val (.int flags), .val (.long ac), .second, .val (.long nu), .second, .val (.int rs), .val (.int pf), .val (.int np), .val (.ref ia), .unset, .unset, .unset, .unset, .unset, .unset, .unset, .unset] [(.int (n.toInt8.toInt32)), (.int (0 : Int32)), (.ref pa), (.ref pa)] := (H.i2b at_64 (H.iloadN at_63 (H.iconst (z := (0 : Int32)) at_62 (H.dup at_61 r372 rfl) rfl) rfl))
    obtain ⟨h377, w378, A379, r380⟩ := H.putB (i := 0) (z := ((n.toInt8.toInt32).toInt8.toInt32)) rfl A371l (by decide) (by decide : 0 < 1) N374 at_65 r376
    have Z381 : n0 ≤ h377.size := by rw [w378.size]; exact Z375
    replace A379 : Ary Z h377 pa .byte [.int ((n.toInt8.toInt32).toInt8.toInt32)] := A379
    replace r380 : W h377 2 2 66 #[.val (.int n), .val (.int flags), .val (.long ac), .second, .val (.long nu), .second, .val (.int rs), .val (.int pf), .val (.int np), .val (.ref ia), .unset, .unset, .unset, .unset, .unset, .unset, .unset, .unset] [(.ref pa)] := r380
    have r382 : W h377 2 2 68 #[.val (.int n), .val (.int flags), .val (.long ac), .second, .val (.long nu), .second, .val (.int rs), .val (.int pf), .val (.int np), .val (.ref ia), .val (.ref pa), .unset, .unset, .unset, .unset, .unset, .unset, .unset] [] := (H.astore at_66 r380 rfl rfl)
    exact tail1 hw n flags rs pf np ac nu ia (.ref pa) rfl hpf Z381 H r382
  · have r366 : W h358 1 1 54 #[.val (.int n), .val (.int flags), .val (.long ac), .second, .val (.long nu), .second, .val (.int rs), .val (.int pf), .val (.int np), .val (.ref ia), .unset, .unset, .unset, .unset, .unset, .unset, .unset, .unset] [] := (H.ifNo at_51 r364 (feq h4).1)
    have r383 : W h358 1 1 68 #[.val (.int n), .val (.int flags), .val (.long ac), .second, .val (.long nu), .second, .val (.int rs), .val (.int pf), .val (.int np), .val (.ref ia), .val .null, .unset, .unset, .unset, .unset, .unset, .unset, .unset] [] := (H.astore at_66 (H.goto (pc' := 66) at_55 (H.aconstNull at_54 r366) (by decide) (by decide)) rfl rfl)
    exact tail1 hw n flags rs pf np ac nu ia .null rfl hpf Z362 H (H.more (by decide) (by decide) r383)
set_option maxRecDepth 65536 in
set_option maxHeartbeats 40000000 in
theorem comes_1 {Post : Tables → Env → Array Value → State → Outcome → State → Prop} (hpost : ∀ tb e args s v u, (limb_1_1.after args s (.returned v) u = true ∧ limb_1_2.after args s (.returned v) u = true ∧ True) → FrameEnd s (.returned v) u (Jvm.fieldLocs frame_1_writes args s ++ Jvm.arrayLocs frame_1_arrays args s ++ Jvm.staticLocs frame_1_statics s) 24 128 → Post tb e args s (.returned v) u) :
    ArmFor flags0 classFile x code maxLocals ret World_1 tables_1 room_1 Calls_1 rest_1 Pre_1 Post := by
  intro l hfl _ _ p e ha hc hk s m args below hf hA hF happ hP
  obtain ⟨hcalls, hrest, hpre⟩ := hP
  obtain ⟨-, -, -, hnamed, -, -, -, hat⟩ := (Spec.applies_iff hf).mp happ
  obtain ⟨hg, hn⟩ := and_e (Cond.before_iff.mp (show (Jvm.Cond.and given_1 narrow_1).before args s = true from hpre))
  obtain ⟨hcnt, hg0⟩ := and_e hg
  obtain ⟨ha0, hg1⟩ := and_e hg0
  obtain ⟨ha1, hg2⟩ := and_e hg1
  obtain ⟨ha2, hg3⟩ := and_e hg2
  obtain ⟨w0, w1, w2, w3, rfl⟩ : ∃ w0 w1 w2 w3 : Value, args = #[w0, w1, w2, w3] := by
    have hs : args.size = 4 := by simpa [Cond.value, given_1] using hcnt
    obtain ⟨L⟩ := args
    match L, hs with
    | [w0, w1, w2, w3], _ => exact ⟨w0, w1, w2, w3, rfl⟩
  have hw := fun d (hd : d ∈ tables_1) => atoms_spec (ws := Jvm.Cond.code x code maxLocals ret :: tables_1) hat d (List.mem_cons_of_mem _ hd)
  have hfit : Fit s := fun {y c} hc i hi => by
    obtain ⟨ha, rfl⟩ := Array.getElem?_eq_some_iff.mp hc
    have q := List.all_eq_true.mp ((Array.all_eq_true_iff_forall_mem.mp hF) _ (Array.getElem_mem ha)) i (List.mem_range.mpr hi)
    simpa [Array.getElem?_eq_getElem hi] using q
  obtain ⟨i0, ei0⟩ := is_v ha0
  obtain rfl : w0 = (.int i0) := Option.some.inj ei0
  obtain ⟨i1, ei1⟩ := is_v ha1
  obtain rfl : w1 = (.int i1) := Option.some.inj ei1
  obtain ⟨i2, ei2⟩ := isL_v ha2
  obtain rfl : w2 = (.long i2) := Option.some.inj ei2
  obtain ⟨i3, ei3⟩ := isL_v hg3
  obtain rfl : w3 = (.long i3) := Option.some.inj ei3
  obtain ⟨n, o, h1, h2, h3, _, L, rfl, ⟨rfl, N⟩, hq⟩ := law_ct (l := l) hw i0 i1 i2 i3  s.heap s.heap.size (Nat.le_refl _) tables_1 p e ha hc hk s m _ below hf ((Spec.applies_iff_loose hf).mp happ).1 ⟨rfl, State.Warmed39.refl s, rfl⟩ trivial
  refine ⟨n, _, h1, h2, h3, hpost _ _ _ _ _ _ ⟨Cond.after_iff.mpr rfl, Cond.after_iff.mpr (eq_i res_at (Term.int_eval (1)) rfl), trivial⟩ ⟨hq.1, hq.2.1, (hq.2.2.sift fun y hy => Or.inr (N y hy)).mono (by decide) (by decide)⟩⟩
theorem main_1_1 : Claimed_1_1 := comes_1 fun _ _ _ _ _ _ h hF => ⟨h.1, hF⟩
theorem main_1_2 : Claimed_1_2 := comes_1 fun _ _ _ _ _ _ h hF => ⟨h.2.1, hF⟩
end Jvm.Pilot.@@N@@
namespace Jvm.Pilot.@@N@@
open Jvm Jvm.ClassFile Sem Op Lib Jvm.Free Jvm.Stand Jvm.Pilot.@@N@@.Jvm.D
/-! MADE BY PROGRAM (witnessworld.py) out of the Statement's table words and the real class files: 29 classes; the members and pool entries that the words name. The judged class is class 1, her method 1. -/
namespace start1
open Jvm.ClassFile
def u (s : String) : CpInfo := .utf8 (stringToUtf16 s)
/-- a pool by its gaps: so many unusable entries, then the entry; so many at the end -/
def gap : Nat → List CpInfo → List CpInfo
  | 0, r => r
  | n + 1, r => .unusable :: gap n r
def poolList (es : List (Nat × CpInfo)) (last : Nat) : List CpInfo := es.foldr (fun e r => gap e.1 (e.2 :: r)) (gap last [])
def pool (es : List (Nat × CpInfo)) (last : Nat) : Array CpInfo := ⟨poolList es last⟩
def fileOf (pool : Array CpInfo) (this : Nat) (attrs : Array Attribute := #[]) (ms : Array MethodInfo := #[]) (fl : Nat := 33) (sup : Nat := 0) (ifs : Array Nat := #[]) (fds : Array FieldInfo := #[]) : ClassFile where
  minorVersion := 0
  majorVersion := 65
  constantPool := pool
  accessFlags := fl
  thisClass := this
  superClass := sup
  interfaces := ifs
  fields := fds
  methods := ms
  attributes := attrs
def plain (name : String) (sup : Option ClassId) : Class where
  name := name
  kind := .ordinary
  loader := none
  accessFlags := 33
  super := sup
  interfaces := #[]
  cf := none
  fields := #[]
  methods := #[]
  instanceTypes := #[]
  staticTypes := #[]
  resolved := #[]
  callSites := []
  init := .initialized
  statics := none
  mirror := none

def pool0 : Array CpInfo := pool [(5, u "<init>"), (0, u "()V"), (1, .class_ 10), (1, u "java/lang/Object")] 113

def k0c0 : Code := { maxStack := 0, maxLocals := 1, code := object_method_1_code, exceptionTable := #[], attributes := #[] }
def k0m0 : Method := { name := "<init>", desc := "()V", sig := { parameters := [], returnType := none }, accessFlags := 1, code := some k0c0 }
/-- java/lang/Object -/
def k0 : Class := { plain "java/lang/Object" none with
  accessFlags := 33
  interfaces := #[]
  cf := some (fileOf pool0 8 #[] #[{ accessFlags := 1, nameIndex := 5, descriptorIndex := 6, attributes := #[] }] 33 0 #[] #[])
  fields := #[]
  methods := #[k0m0]
  instanceTypes := #[]
  staticTypes := #[]
  resolved := Array.replicate 124 none
  statics := none }

def pool1 : Array CpInfo := pool [(2, .class_ 4), (1, u "java/lang/Object"), (0, u "<init>"), (0, u "()V"), (0, .class_ 8), (0, u "com/example/lively_broker/livelybroker/broker/Job"), (0, .methodref 7 10), (0, .nameAndType 5 11), (0, u "([B[BJJ)V"), (0, .integer 1073741823), (0, .methodref 7 14), (0, .nameAndType 15 16), (0, u "restoreProgress"), (0, u "(ZI)V"), (0, .methodref 7 18), (0, .nameAndType 19 20), (0, u "countLostWorker"), (0, u "()I"), (0, .methodref 7 22), (0, .nameAndType 23 20), (0, u "lostWorkers"), (0, .methodref 7 25), (0, .nameAndType 26 27), (0, u "placed"), (0, u "()Z"), (0, .methodref 7 29), (0, .nameAndType 30 31), (0, u "payload"), (0, u "()[B"), (0, .methodref 7 33), (0, .nameAndType 34 35), (0, u "acceptedAt"), (0, u "()J"), (0, .methodref 7 37), (0, .nameAndType 38 35), (0, u "number"), (0, .class_ 40), (0, u "com/example/lively_broker/livelybroker/broker/JobCountLostWorkerPinLaw"), (2, u "law"), (0, u "(IIJJ)Z")] 5

def k1m0 : Method := { name := "<init>", desc := "()V", sig := { parameters := [], returnType := none }, accessFlags := 1, code := none }
def k1c1 : Code := { maxStack := 8, maxLocals := 18, code := code, exceptionTable := #[], attributes := #[] }
def k1m1 : Method := { name := "law", desc := "(IIJJ)Z", sig := { parameters := [.int, .int, .long, .long], returnType := some .boolean }, accessFlags := 9, code := some k1c1 }
/-- com/example/lively_broker/livelybroker/broker/JobCountLostWorkerPinLaw -/
def k1 : Class := { plain "com/example/lively_broker/livelybroker/broker/JobCountLostWorkerPinLaw" (some 0) with
  accessFlags := 49
  interfaces := #[]
  cf := some (fileOf pool1 39 #[] #[{ accessFlags := 1, nameIndex := 5, descriptorIndex := 6, attributes := #[] }, { accessFlags := 9, nameIndex := 43, descriptorIndex := 44, attributes := #[] }] 49 2 #[] #[])
  fields := #[]
  methods := #[k1m0, k1m1]
  instanceTypes := #[]
  staticTypes := #[]
  resolved := Array.replicate 50 none
  statics := none }

def pool2 : Array CpInfo := pool [(1, .methodref 2 3), (0, .class_ 4), (0, .nameAndType 5 6), (0, u "java/lang/Object"), (0, u "<init>"), (0, u "()V"), (0, .class_ 8), (0, u "java/util/LinkedHashSet"), (0, .methodref 7 3), (0, .fieldref 11 12), (0, .class_ 13), (0, .nameAndType 14 15), (0, u "com/example/lively_broker/livelybroker/broker/Job"), (0, u "clients"), (0, u "Ljava/util/Set;"), (0, .fieldref 11 17), (0, .nameAndType 18 19), (0, u "id"), (0, u "[B"), (0, .fieldref 11 21), (0, .nameAndType 22 19), (0, u "payload"), (0, .fieldref 11 24), (0, .nameAndType 25 26), (0, u "acceptedAt"), (0, u "J"), (0, .fieldref 11 28), (0, .nameAndType 29 26), (0, u "number"), (6, .fieldref 11 37), (0, .nameAndType 38 39), (0, u "placed"), (0, u "Z"), (2, u "answer"), (0, u "Lcom/example/lively_broker/livelybroker/wire/Message;"), (2, u "answeredAt"), (10, u "takenBack"), (0, .fieldref 11 59), (0, .nameAndType 60 61), (0, u "lostWorkers"), (0, u "I"), (2, u "([B[BJJ)V"), (2, u "()[B"), (2, u "()J"), (0, u "()Z"), (8, u "countLostWorker"), (0, u "()I"), (0, u "restoreProgress"), (0, u "(ZI)V")] 2

def k2c0 : Code := { maxStack := 3, maxLocals := 7, code := prog_1_method_1_code, exceptionTable := #[], attributes := #[] }
def k2m0 : Method := { name := "<init>", desc := "([B[BJJ)V", sig := { parameters := [(.array .byte), (.array .byte), .long, .long], returnType := none }, accessFlags := 0, code := some k2c0 }
def k2c1 : Code := { maxStack := 1, maxLocals := 1, code := prog_1_method_3_code, exceptionTable := #[], attributes := #[] }
def k2m1 : Method := { name := "payload", desc := "()[B", sig := { parameters := [], returnType := some (.array .byte) }, accessFlags := 0, code := some k2c1 }
def k2c2 : Code := { maxStack := 2, maxLocals := 1, code := prog_1_method_5_code, exceptionTable := #[], attributes := #[] }
def k2m2 : Method := { name := "acceptedAt", desc := "()J", sig := { parameters := [], returnType := some .long }, accessFlags := 0, code := some k2c2 }
def k2c3 : Code := { maxStack := 2, maxLocals := 1, code := prog_1_method_6_code, exceptionTable := #[], attributes := #[] }
def k2m3 : Method := { name := "number", desc := "()J", sig := { parameters := [], returnType := some .long }, accessFlags := 0, code := some k2c3 }
def k2c4 : Code := { maxStack := 1, maxLocals := 1, code := prog_1_method_7_code, exceptionTable := #[], attributes := #[] }
def k2m4 : Method := { name := "placed", desc := "()Z", sig := { parameters := [], returnType := some .boolean }, accessFlags := 0, code := some k2c4 }
def k2c5 : Code := { maxStack := 3, maxLocals := 1, code := prog_1_method_15_code, exceptionTable := #[], attributes := #[] }
def k2m5 : Method := { name := "countLostWorker", desc := "()I", sig := { parameters := [], returnType := some .int }, accessFlags := 0, code := some k2c5 }
def k2c6 : Code := { maxStack := 1, maxLocals := 1, code := prog_1_method_16_code, exceptionTable := #[], attributes := #[] }
def k2m6 : Method := { name := "lostWorkers", desc := "()I", sig := { parameters := [], returnType := some .int }, accessFlags := 0, code := some k2c6 }
def k2c7 : Code := { maxStack := 2, maxLocals := 3, code := prog_1_method_17_code, exceptionTable := #[], attributes := #[] }
def k2m7 : Method := { name := "restoreProgress", desc := "(ZI)V", sig := { parameters := [.boolean, .int], returnType := none }, accessFlags := 0, code := some k2c7 }
/-- com/example/lively_broker/livelybroker/broker/Job -/
def k2 : Class := { plain "com/example/lively_broker/livelybroker/broker/Job" (some 0) with
  accessFlags := 32
  interfaces := #[]
  cf := some (fileOf pool2 11 #[] #[{ accessFlags := 0, nameIndex := 5, descriptorIndex := 64, attributes := #[] }, { accessFlags := 0, nameIndex := 22, descriptorIndex := 67, attributes := #[] }, { accessFlags := 0, nameIndex := 25, descriptorIndex := 70, attributes := #[] }, { accessFlags := 0, nameIndex := 29, descriptorIndex := 70, attributes := #[] }, { accessFlags := 0, nameIndex := 38, descriptorIndex := 71, attributes := #[] }, { accessFlags := 0, nameIndex := 80, descriptorIndex := 81, attributes := #[] }, { accessFlags := 0, nameIndex := 60, descriptorIndex := 81, attributes := #[] }, { accessFlags := 0, nameIndex := 82, descriptorIndex := 83, attributes := #[] }] 32 2 #[] #[{ accessFlags := 18, nameIndex := 18, descriptorIndex := 19, attributes := #[] }, { accessFlags := 2, nameIndex := 22, descriptorIndex := 19, attributes := #[] }, { accessFlags := 18, nameIndex := 14, descriptorIndex := 15, attributes := #[] }, { accessFlags := 18, nameIndex := 25, descriptorIndex := 26, attributes := #[] }, { accessFlags := 18, nameIndex := 29, descriptorIndex := 26, attributes := #[] }, { accessFlags := 2, nameIndex := 38, descriptorIndex := 39, attributes := #[] }, { accessFlags := 2, nameIndex := 42, descriptorIndex := 43, attributes := #[] }, { accessFlags := 2, nameIndex := 46, descriptorIndex := 26, attributes := #[] }, { accessFlags := 2, nameIndex := 57, descriptorIndex := 39, attributes := #[] }, { accessFlags := 2, nameIndex := 60, descriptorIndex := 61, attributes := #[] }])
  fields := #[{ name := "id", type := (.array .byte), accessFlags := 18, slot := 0, constantValue := 0 }, { name := "payload", type := (.array .byte), accessFlags := 2, slot := 1, constantValue := 0 }, { name := "clients", type := (.object "java/util/Set"), accessFlags := 18, slot := 2, constantValue := 0 }, { name := "acceptedAt", type := .long, accessFlags := 18, slot := 3, constantValue := 0 }, { name := "number", type := .long, accessFlags := 18, slot := 4, constantValue := 0 }, { name := "placed", type := .boolean, accessFlags := 2, slot := 5, constantValue := 0 }, { name := "answer", type := (.object "com/example/lively_broker/livelybroker/wire/Message"), accessFlags := 2, slot := 6, constantValue := 0 }, { name := "answeredAt", type := .long, accessFlags := 2, slot := 7, constantValue := 0 }, { name := "takenBack", type := .boolean, accessFlags := 2, slot := 8, constantValue := 0 }, { name := "lostWorkers", type := .int, accessFlags := 2, slot := 9, constantValue := 0 }]
  methods := #[k2m0, k2m1, k2m2, k2m3, k2m4, k2m5, k2m6, k2m7]
  instanceTypes := #[(.array .byte), (.array .byte), (.object "java/util/Set"), .long, .long, .boolean, (.object "com/example/lively_broker/livelybroker/wire/Message"), .long, .boolean, .int]
  staticTypes := #[]
  resolved := Array.replicate 86 none
  statics := none }

def pool3 : Array CpInfo := pool [(8, .class_ 10), (1, u "java/lang/Iterable"), (24, .class_ 36), (0, u "java/lang/Object")] 25

/-- java/lang/Iterable -/
def k3 : Class := { plain "java/lang/Iterable" (some 0) with
  accessFlags := 1537
  interfaces := #[]
  cf := some (fileOf pool3 8 #[] #[] 1537 35 #[] #[])
  fields := #[]
  methods := #[]
  instanceTypes := #[]
  staticTypes := #[]
  resolved := Array.replicate 62 none
  statics := none }

def pool4 : Array CpInfo := pool [(10, .class_ 12), (1, u "java/util/Collection"), (47, .class_ 61), (0, u "java/lang/Object"), (0, .class_ 63), (0, u "java/lang/Iterable")] 51

/-- java/util/Collection -/
def k4 : Class := { plain "java/util/Collection" (some 0) with
  accessFlags := 1537
  interfaces := #[3]
  cf := some (fileOf pool4 10 #[] #[] 1537 60 #[62] #[])
  fields := #[]
  methods := #[]
  instanceTypes := #[]
  staticTypes := #[]
  resolved := Array.replicate 115 none
  statics := none }

def pool5 : Array CpInfo := pool [(1, .methodref 2 3), (0, .class_ 4), (0, .nameAndType 5 6), (0, u "java/lang/Object"), (0, u "<init>"), (0, u "()V"), (1, .class_ 10), (1, u "java/util/AbstractCollection"), (66, .class_ 78), (0, u "java/util/Collection")] 81

def k5c0 : Code := { maxStack := 1, maxLocals := 1, code := jdk_22_method_1_code, exceptionTable := #[], attributes := #[] }
def k5m0 : Method := { name := "<init>", desc := "()V", sig := { parameters := [], returnType := none }, accessFlags := 4, code := some k5c0 }
/-- java/util/AbstractCollection -/
def k5 : Class := { plain "java/util/AbstractCollection" (some 0) with
  accessFlags := 1057
  interfaces := #[4]
  cf := some (fileOf pool5 8 #[] #[{ accessFlags := 4, nameIndex := 5, descriptorIndex := 6, attributes := #[] }] 1057 2 #[77] #[])
  fields := #[]
  methods := #[k5m0]
  instanceTypes := #[]
  staticTypes := #[]
  resolved := Array.replicate 160 none
  statics := none }

def pool6 : Array CpInfo := pool [(26, .class_ 27), (0, u "java/lang/Object"), (5, .class_ 34), (0, u "java/util/Set"), (1, .class_ 38), (1, u "java/util/Collection")] 105

/-- java/util/Set -/
def k6 : Class := { plain "java/util/Set" (some 0) with
  accessFlags := 1537
  interfaces := #[4]
  cf := some (fileOf pool6 33 #[] #[] 1537 26 #[36] #[])
  fields := #[]
  methods := #[]
  instanceTypes := #[]
  staticTypes := #[]
  resolved := Array.replicate 144 none
  statics := none }

def pool7 : Array CpInfo := pool [(1, .methodref 2 3), (0, .class_ 4), (0, .nameAndType 5 6), (0, u "java/util/AbstractCollection"), (0, u "<init>"), (0, u "()V"), (0, .class_ 8), (0, u "java/util/Set"), (7, .class_ 17), (0, u "java/util/AbstractSet")] 78

def k7c0 : Code := { maxStack := 1, maxLocals := 1, code := jdk_91_method_1_code, exceptionTable := #[], attributes := #[] }
def k7m0 : Method := { name := "<init>", desc := "()V", sig := { parameters := [], returnType := none }, accessFlags := 4, code := some k7c0 }
/-- java/util/AbstractSet -/
def k7 : Class := { plain "java/util/AbstractSet" (some 5) with
  accessFlags := 1057
  interfaces := #[6]
  cf := some (fileOf pool7 16 #[] #[{ accessFlags := 4, nameIndex := 5, descriptorIndex := 6, attributes := #[] }] 1057 2 #[7] #[])
  fields := #[]
  methods := #[k7m0]
  instanceTypes := #[]
  staticTypes := #[]
  resolved := Array.replicate 96 none
  statics := none }

def pool8 : Array CpInfo := pool [(1, .class_ 2), (0, u "java/lang/Cloneable"), (0, .class_ 4), (0, u "java/lang/Object")] 2

/-- java/lang/Cloneable -/
def k8 : Class := { plain "java/lang/Cloneable" (some 0) with
  accessFlags := 1537
  interfaces := #[]
  cf := some (fileOf pool8 1 #[] #[] 1537 3 #[] #[])
  fields := #[]
  methods := #[]
  instanceTypes := #[]
  staticTypes := #[]
  resolved := Array.replicate 7 none
  statics := none }

def pool9 : Array CpInfo := pool [(1, .class_ 2), (0, u "java/io/Serializable"), (0, .class_ 4), (0, u "java/lang/Object")] 2

/-- java/io/Serializable -/
def k9 : Class := { plain "java/io/Serializable" (some 0) with
  accessFlags := 1537
  interfaces := #[]
  cf := some (fileOf pool9 1 #[] #[] 1537 3 #[] #[])
  fields := #[]
  methods := #[]
  instanceTypes := #[]
  staticTypes := #[]
  resolved := Array.replicate 7 none
  statics := none }

def pool10 : Array CpInfo := pool [(1, .methodref 2 3), (0, .class_ 4), (0, .nameAndType 5 6), (0, u "java/util/AbstractSet"), (0, u "<init>"), (0, u "()V"), (3, .fieldref 11 12), (0, .class_ 13), (0, .nameAndType 14 15), (0, u "java/util/HashSet"), (0, u "map"), (0, u "Ljava/util/HashMap;"), (21, .nameAndType 5 38), (0, u "(IF)V"), (3, .class_ 43), (0, u "java/util/LinkedHashMap"), (0, .methodref 42 37), (5, .class_ 52), (1, u "java/util/Set"), (13, u "PRESENT"), (0, u "Ljava/lang/Object;"), (158, .class_ 227), (0, u "java/lang/Cloneable"), (0, .class_ 229), (0, u "java/io/Serializable"), (0, u "serialVersionUID"), (0, u "J"), (20, u "(IFZ)V")] 50

def k10m0 : Method := { name := "<init>", desc := "()V", sig := { parameters := [], returnType := none }, accessFlags := 1, code := none }
def k10c1 : Code := { maxStack := 5, maxLocals := 4, code := jdk_93_method_5_code, exceptionTable := #[], attributes := #[] }
def k10m1 : Method := { name := "<init>", desc := "(IFZ)V", sig := { parameters := [.int, .float, .boolean], returnType := none }, accessFlags := 0, code := some k10c1 }
/-- java/util/HashSet -/
def k10 : Class := { plain "java/util/HashSet" (some 7) with
  accessFlags := 33
  interfaces := #[6, 8, 9]
  cf := some (fileOf pool10 11 #[] #[{ accessFlags := 1, nameIndex := 5, descriptorIndex := 6, attributes := #[] }, { accessFlags := 0, nameIndex := 5, descriptorIndex := 252, attributes := #[] }] 33 2 #[50, 226, 228] #[{ accessFlags := 24, nameIndex := 230, descriptorIndex := 231, attributes := #[] }, { accessFlags := 128, nameIndex := 14, descriptorIndex := 15, attributes := #[] }, { accessFlags := 24, nameIndex := 66, descriptorIndex := 67, attributes := #[] }])
  fields := #[{ name := "serialVersionUID", type := .long, accessFlags := 24, slot := 0, constantValue := 0 }, { name := "map", type := (.object "java/util/HashMap"), accessFlags := 128, slot := 0, constantValue := 0 }, { name := "PRESENT", type := (.object "java/lang/Object"), accessFlags := 24, slot := 1, constantValue := 0 }]
  methods := #[k10m0, k10m1]
  instanceTypes := #[(.object "java/util/HashMap")]
  staticTypes := #[.long, (.object "java/lang/Object")]
  resolved := Array.replicate 303 none
  statics := none }

def pool11 : Array CpInfo := pool [(8, .class_ 10), (1, u "java/util/SequencedCollection"), (15, .class_ 27), (0, u "java/lang/Object"), (0, .class_ 29), (0, u "java/util/Collection")] 27

/-- java/util/SequencedCollection -/
def k11 : Class := { plain "java/util/SequencedCollection" (some 0) with
  accessFlags := 1537
  interfaces := #[4]
  cf := some (fileOf pool11 8 #[] #[] 1537 26 #[28] #[])
  fields := #[]
  methods := #[]
  instanceTypes := #[]
  staticTypes := #[]
  resolved := Array.replicate 57 none
  statics := none }

def pool12 : Array CpInfo := pool [(2, .class_ 4), (1, u "java/util/SequencedSet"), (2, .class_ 8), (0, u "java/lang/Object"), (0, .class_ 10), (0, u "java/util/SequencedCollection"), (0, .class_ 12), (0, u "java/util/Set")] 13

/-- java/util/SequencedSet -/
def k12 : Class := { plain "java/util/SequencedSet" (some 0) with
  accessFlags := 1537
  interfaces := #[11, 6]
  cf := some (fileOf pool12 2 #[] #[] 1537 7 #[9, 11] #[])
  fields := #[]
  methods := #[]
  instanceTypes := #[]
  staticTypes := #[]
  resolved := Array.replicate 26 none
  statics := none }

def pool13 : Array CpInfo := pool [(1, .methodref 2 3), (0, .class_ 4), (0, .nameAndType 5 6), (0, u "java/util/HashSet"), (0, u "<init>"), (0, u "(IFZ)V"), (0, .float 1061158912), (19, .class_ 29), (1, u "java/util/LinkedHashSet"), (16, u "()V"), (44, .class_ 93), (1, u "java/util/SequencedSet"), (11, .class_ 106), (0, u "java/util/LinkedHashSet$1ReverseLinkedHashSetView"), (6, .class_ 114), (0, u "java/lang/Cloneable"), (0, .class_ 116), (0, u "java/io/Serializable"), (0, u "serialVersionUID"), (0, u "J")] 44

def k13c0 : Code := { maxStack := 4, maxLocals := 1, code := jdk_2620_method_3_code, exceptionTable := #[], attributes := #[] }
def k13m0 : Method := { name := "<init>", desc := "()V", sig := { parameters := [], returnType := none }, accessFlags := 1, code := some k13c0 }
/-- java/util/LinkedHashSet -/
def k13 : Class := { plain "java/util/LinkedHashSet" (some 10) with
  accessFlags := 33
  interfaces := #[12, 8, 9]
  cf := some (fileOf pool13 27 #[.nestMembers #[105]] #[{ accessFlags := 1, nameIndex := 5, descriptorIndex := 46, attributes := #[] }] 33 2 #[91, 113, 115] #[{ accessFlags := 26, nameIndex := 117, descriptorIndex := 118, attributes := #[] }])
  fields := #[{ name := "serialVersionUID", type := .long, accessFlags := 26, slot := 0, constantValue := 0 }]
  methods := #[k13m0]
  instanceTypes := #[(.object "java/util/HashMap")]
  staticTypes := #[.long]
  resolved := Array.replicate 163 none
  statics := none }

def pool14 : Array CpInfo := pool [(2, .class_ 4), (1, u "java/util/Map"), (31, .class_ 37), (0, u "java/util/Map$Entry"), (55, .class_ 94), (0, u "java/lang/Object")] 168

/-- java/util/Map -/
def k14 : Class := { plain "java/util/Map" (some 0) with
  accessFlags := 1537
  interfaces := #[]
  cf := some (fileOf pool14 2 #[.nestMembers #[36]] #[] 1537 93 #[] #[])
  fields := #[]
  methods := #[]
  instanceTypes := #[]
  staticTypes := #[]
  resolved := Array.replicate 263 none
  statics := none }

def pool15 : Array CpInfo := pool [(1, .methodref 2 3), (0, .class_ 4), (0, .nameAndType 5 6), (0, u "java/lang/Object"), (0, u "<init>"), (0, u "()V"), (1, .class_ 10), (1, u "java/util/AbstractMap"), (42, .class_ 54), (0, u "java/util/Map"), (9, u "keySet"), (0, u "Ljava/util/Set;"), (0, .class_ 67), (0, u "java/util/AbstractMap$1"), (5, u "values"), (0, u "Ljava/util/Collection;"), (0, .class_ 76), (0, u "java/util/AbstractMap$2"), (104, .class_ 182), (0, u "java/util/AbstractMap$ViewCollection"), (0, .class_ 184), (0, u "java/util/AbstractMap$SimpleImmutableEntry"), (0, .class_ 186), (0, u "java/util/AbstractMap$SimpleEntry"), (0, .class_ 188), (0, u "java/util/AbstractMap$2$1"), (0, .class_ 190), (0, u "java/util/AbstractMap$1$1")] 5

def k15c0 : Code := { maxStack := 1, maxLocals := 1, code := jdk_71_method_1_code, exceptionTable := #[], attributes := #[] }
def k15m0 : Method := { name := "<init>", desc := "()V", sig := { parameters := [], returnType := none }, accessFlags := 4, code := some k15c0 }
/-- java/util/AbstractMap -/
def k15 : Class := { plain "java/util/AbstractMap" (some 0) with
  accessFlags := 1057
  interfaces := #[14]
  cf := some (fileOf pool15 8 #[.nestMembers #[181, 183, 185, 75, 187, 66, 189]] #[{ accessFlags := 4, nameIndex := 5, descriptorIndex := 6, attributes := #[] }] 1057 2 #[53] #[{ accessFlags := 128, nameIndex := 64, descriptorIndex := 65, attributes := #[] }, { accessFlags := 128, nameIndex := 73, descriptorIndex := 74, attributes := #[] }])
  fields := #[{ name := "keySet", type := (.object "java/util/Set"), accessFlags := 128, slot := 0, constantValue := 0 }, { name := "values", type := (.object "java/util/Collection"), accessFlags := 128, slot := 1, constantValue := 0 }]
  methods := #[k15m0]
  instanceTypes := #[(.object "java/util/Set"), (.object "java/util/Collection")]
  staticTypes := #[]
  resolved := Array.replicate 196 none
  statics := none }

def pool16 : Array CpInfo := pool [(34, .methodref 35 36), (0, .class_ 37), (0, .nameAndType 38 39), (0, u "java/lang/Integer"), (0, u "numberOfLeadingZeros"), (0, u "(I)I"), (0, .class_ 41), (0, u "java/util/HashMap"), (0, .integer 1073741824), (0, .methodref 44 45), (0, .class_ 46), (0, .nameAndType 47 48), (0, u "java/util/AbstractMap"), (0, u "<init>"), (0, u "()V"), (21, .methodref 71 72), (0, .class_ 73), (0, .nameAndType 74 75), (0, u "java/lang/Float"), (0, u "isNaN"), (0, u "(F)Z"), (5, .fieldref 40 82), (0, .nameAndType 83 84), (0, u "loadFactor"), (0, u "F"), (0, .methodref 40 86), (0, .nameAndType 87 39), (0, u "tableSizeFor"), (0, .fieldref 40 89), (0, .nameAndType 90 91), (0, u "threshold"), (0, u "I"), (3, u "(IF)V"), (5, .class_ 103), (1, u "java/util/Map"), (0, u "size"), (2, u "table"), (0, u "[Ljava/util/HashMap$Node;"), (14, u "entrySet"), (39, .class_ 165), (1, u "java/util/HashMap$Node"), (14, .class_ 181), (0, u "java/util/HashMap$TreeNode"), (22, u "modCount"), (37, u "Ljava/util/Set;"), (0, .class_ 244), (0, u "java/util/HashMap$KeySet"), (18, .class_ 264), (0, u "java/util/HashMap$Values"), (3, .class_ 269), (0, u "java/util/HashMap$EntrySet"), (76, .class_ 348), (1, u "java/util/HashMap$UnsafeHolder"), (43, .class_ 393), (0, u "java/lang/Cloneable"), (0, .class_ 395), (0, u "java/io/Serializable"), (0, u "serialVersionUID"), (0, u "J"), (3, u "DEFAULT_INITIAL_CAPACITY"), (1, u "MAXIMUM_CAPACITY"), (0, u "DEFAULT_LOAD_FACTOR"), (0, u "TREEIFY_THRESHOLD"), (1, u "UNTREEIFY_THRESHOLD"), (1, u "MIN_TREEIFY_CAPACITY"), (186, .class_ 597), (0, u "java/util/HashMap$EntrySpliterator"), (0, .class_ 599), (0, u "java/util/HashMap$ValueSpliterator"), (0, .class_ 601), (0, u "java/util/HashMap$KeySpliterator"), (0, .class_ 603), (0, u "java/util/HashMap$HashMapSpliterator"), (0, .class_ 605), (0, u "java/util/HashMap$EntryIterator"), (0, .class_ 607), (0, u "java/util/HashMap$ValueIterator"), (0, .class_ 609), (0, u "java/util/HashMap$KeyIterator"), (0, .class_ 611), (0, u "java/util/HashMap$HashIterator")] 17

def k16c0 : Code := { maxStack := 3, maxLocals := 2, code := jdk_69_method_4_code, exceptionTable := #[], attributes := #[] }
def k16m0 : Method := { name := "tableSizeFor", desc := "(I)I", sig := { parameters := [.int], returnType := some .int }, accessFlags := 24, code := some k16c0 }
def k16c1 : Code := { maxStack := 4, maxLocals := 3, code := jdk_69_method_5_code, exceptionTable := #[], attributes := #[] }
def k16m1 : Method := { name := "<init>", desc := "(IF)V", sig := { parameters := [.int, .float], returnType := none }, accessFlags := 1, code := some k16c1 }
def k16m2 : Method := { name := "<init>", desc := "()V", sig := { parameters := [], returnType := none }, accessFlags := 1, code := none }
/-- java/util/HashMap -/
def k16 : Class := { plain "java/util/HashMap" (some 15) with
  accessFlags := 33
  interfaces := #[14, 8, 9]
  cf := some (fileOf pool16 40 #[.nestMembers #[180, 596, 598, 600, 602, 604, 606, 608, 610, 346, 268, 263, 243, 163]] #[{ accessFlags := 24, nameIndex := 87, descriptorIndex := 39, attributes := #[] }, { accessFlags := 1, nameIndex := 47, descriptorIndex := 95, attributes := #[] }, { accessFlags := 1, nameIndex := 47, descriptorIndex := 48, attributes := #[] }] 33 44 #[101, 392, 394] #[{ accessFlags := 26, nameIndex := 396, descriptorIndex := 397, attributes := #[] }, { accessFlags := 24, nameIndex := 401, descriptorIndex := 91, attributes := #[] }, { accessFlags := 24, nameIndex := 403, descriptorIndex := 91, attributes := #[] }, { accessFlags := 24, nameIndex := 404, descriptorIndex := 84, attributes := #[] }, { accessFlags := 24, nameIndex := 405, descriptorIndex := 91, attributes := #[] }, { accessFlags := 24, nameIndex := 407, descriptorIndex := 91, attributes := #[] }, { accessFlags := 24, nameIndex := 409, descriptorIndex := 91, attributes := #[] }, { accessFlags := 128, nameIndex := 107, descriptorIndex := 108, attributes := #[] }, { accessFlags := 128, nameIndex := 123, descriptorIndex := 242, attributes := #[] }, { accessFlags := 128, nameIndex := 104, descriptorIndex := 91, attributes := #[] }, { accessFlags := 128, nameIndex := 204, descriptorIndex := 91, attributes := #[] }, { accessFlags := 0, nameIndex := 90, descriptorIndex := 91, attributes := #[] }, { accessFlags := 16, nameIndex := 83, descriptorIndex := 84, attributes := #[] }])
  fields := #[{ name := "serialVersionUID", type := .long, accessFlags := 26, slot := 0, constantValue := 0 }, { name := "DEFAULT_INITIAL_CAPACITY", type := .int, accessFlags := 24, slot := 1, constantValue := 0 }, { name := "MAXIMUM_CAPACITY", type := .int, accessFlags := 24, slot := 2, constantValue := 0 }, { name := "DEFAULT_LOAD_FACTOR", type := .float, accessFlags := 24, slot := 3, constantValue := 0 }, { name := "TREEIFY_THRESHOLD", type := .int, accessFlags := 24, slot := 4, constantValue := 0 }, { name := "UNTREEIFY_THRESHOLD", type := .int, accessFlags := 24, slot := 5, constantValue := 0 }, { name := "MIN_TREEIFY_CAPACITY", type := .int, accessFlags := 24, slot := 6, constantValue := 0 }, { name := "table", type := (.array (.object "java/util/HashMap$Node")), accessFlags := 128, slot := 2, constantValue := 0 }, { name := "entrySet", type := (.object "java/util/Set"), accessFlags := 128, slot := 3, constantValue := 0 }, { name := "size", type := .int, accessFlags := 128, slot := 4, constantValue := 0 }, { name := "modCount", type := .int, accessFlags := 128, slot := 5, constantValue := 0 }, { name := "threshold", type := .int, accessFlags := 0, slot := 6, constantValue := 0 }, { name := "loadFactor", type := .float, accessFlags := 16, slot := 7, constantValue := 0 }]
  methods := #[k16m0, k16m1, k16m2]
  instanceTypes := #[(.object "java/util/Set"), (.object "java/util/Collection"), (.array (.object "java/util/HashMap$Node")), (.object "java/util/Set"), .int, .int, .int, .float]
  staticTypes := #[.long, .int, .int, .float, .int, .int, .int]
  resolved := Array.replicate 629 none
  statics := none }

def pool17 : Array CpInfo := pool [(2, .class_ 4), (1, u "java/util/SequencedMap"), (38, .class_ 44), (0, u "java/util/SequencedMap$1SeqKeySet"), (3, .class_ 49), (0, u "java/util/SequencedMap$1SeqValues"), (1, .class_ 52), (0, u "java/util/SequencedMap$1SeqEntrySet"), (1, .class_ 55), (0, u "java/lang/Object"), (0, .class_ 57), (0, u "java/util/Map")] 48

/-- java/util/SequencedMap -/
def k17 : Class := { plain "java/util/SequencedMap" (some 0) with
  accessFlags := 1537
  interfaces := #[14]
  cf := some (fileOf pool17 2 #[.nestMembers #[51, 48, 43]] #[] 1537 54 #[56] #[])
  fields := #[]
  methods := #[]
  instanceTypes := #[]
  staticTypes := #[]
  resolved := Array.replicate 106 none
  statics := none }

def pool18 : Array CpInfo := pool [(1, .fieldref 2 3), (0, .class_ 4), (0, .nameAndType 5 6), (0, u "java/util/LinkedHashMap"), (0, u "putMode"), (0, u "I"), (2, u "head"), (0, u "Ljava/util/LinkedHashMap$Entry;"), (2, u "tail"), (1, .class_ 17), (1, u "java/util/LinkedHashMap$Entry"), (5, .class_ 25), (1, u "java/util/HashMap"), (1, u "()V"), (2, u "<init>"), (33, .fieldref 2 65), (0, .nameAndType 66 67), (0, u "accessOrder"), (0, u "Z"), (13, .methodref 23 82), (0, .nameAndType 30 83), (0, u "(IF)V"), (37, .class_ 122), (0, u "java/util/LinkedHashMap$LinkedKeySet"), (20, .class_ 144), (0, u "java/util/LinkedHashMap$LinkedValues"), (9, .class_ 155), (0, u "java/util/LinkedHashMap$LinkedEntrySet"), (44, .class_ 201), (0, u "java/util/LinkedHashMap$ReversedLinkedHashMapView"), (3, .class_ 206), (0, u "java/util/SequencedMap"), (0, u "serialVersionUID"), (0, u "J"), (5, u "PUT_NORM"), (1, u "PUT_FIRST"), (1, u "PUT_LAST"), (143, .class_ 363), (0, u "java/util/LinkedHashMap$LinkedEntryIterator"), (0, .class_ 365), (0, u "java/util/LinkedHashMap$LinkedValueIterator"), (0, .class_ 367), (0, u "java/util/LinkedHashMap$LinkedKeyIterator"), (0, .class_ 369), (0, u "java/util/LinkedHashMap$LinkedHashIterator")] 16

def k18c0 : Code := { maxStack := 3, maxLocals := 3, code := jdk_94_method_14_code, exceptionTable := #[], attributes := #[] }
def k18m0 : Method := { name := "<init>", desc := "(IF)V", sig := { parameters := [.int, .float], returnType := none }, accessFlags := 1, code := some k18c0 }
def k18m1 : Method := { name := "<init>", desc := "()V", sig := { parameters := [], returnType := none }, accessFlags := 1, code := none }
/-- java/util/LinkedHashMap -/
def k18 : Class := { plain "java/util/LinkedHashMap" (some 16) with
  accessFlags := 33
  interfaces := #[17]
  cf := some (fileOf pool18 2 #[.nestMembers #[200, 362, 364, 366, 368, 154, 143, 121, 15]] #[{ accessFlags := 1, nameIndex := 30, descriptorIndex := 83, attributes := #[] }, { accessFlags := 1, nameIndex := 30, descriptorIndex := 27, attributes := #[] }] 33 23 #[205] #[{ accessFlags := 26, nameIndex := 207, descriptorIndex := 208, attributes := #[] }, { accessFlags := 128, nameIndex := 9, descriptorIndex := 10, attributes := #[] }, { accessFlags := 128, nameIndex := 13, descriptorIndex := 10, attributes := #[] }, { accessFlags := 16, nameIndex := 66, descriptorIndex := 67, attributes := #[] }, { accessFlags := 24, nameIndex := 214, descriptorIndex := 6, attributes := #[] }, { accessFlags := 24, nameIndex := 216, descriptorIndex := 6, attributes := #[] }, { accessFlags := 24, nameIndex := 218, descriptorIndex := 6, attributes := #[] }, { accessFlags := 128, nameIndex := 5, descriptorIndex := 6, attributes := #[] }])
  fields := #[{ name := "serialVersionUID", type := .long, accessFlags := 26, slot := 0, constantValue := 0 }, { name := "head", type := (.object "java/util/LinkedHashMap$Entry"), accessFlags := 128, slot := 8, constantValue := 0 }, { name := "tail", type := (.object "java/util/LinkedHashMap$Entry"), accessFlags := 128, slot := 9, constantValue := 0 }, { name := "accessOrder", type := .boolean, accessFlags := 16, slot := 10, constantValue := 0 }, { name := "PUT_NORM", type := .int, accessFlags := 24, slot := 1, constantValue := 0 }, { name := "PUT_FIRST", type := .int, accessFlags := 24, slot := 2, constantValue := 0 }, { name := "PUT_LAST", type := .int, accessFlags := 24, slot := 3, constantValue := 0 }, { name := "putMode", type := .int, accessFlags := 128, slot := 11, constantValue := 0 }]
  methods := #[k18m0, k18m1]
  instanceTypes := #[(.object "java/util/Set"), (.object "java/util/Collection"), (.array (.object "java/util/HashMap$Node")), (.object "java/util/Set"), .int, .int, .int, .float, (.object "java/util/LinkedHashMap$Entry"), (.object "java/util/LinkedHashMap$Entry"), .boolean, .int]
  staticTypes := #[.long, .int, .int, .int]
  resolved := Array.replicate 386 none
  statics := none }

def pool19 : Array CpInfo := pool [(2, .class_ 4), (1, u "java/lang/Object"), (0, u "<init>"), (0, u "()V"), (1, .class_ 10), (1, u "java/lang/Number"), (2, .class_ 14), (0, u "java/io/Serializable"), (0, u "serialVersionUID"), (0, u "J")] 20

def k19m0 : Method := { name := "<init>", desc := "()V", sig := { parameters := [], returnType := none }, accessFlags := 1, code := none }
/-- java/lang/Number -/
def k19 : Class := { plain "java/lang/Number" (some 0) with
  accessFlags := 1057
  interfaces := #[9]
  cf := some (fileOf pool19 8 #[] #[{ accessFlags := 1, nameIndex := 5, descriptorIndex := 6, attributes := #[] }] 1057 2 #[13] #[{ accessFlags := 26, nameIndex := 15, descriptorIndex := 16, attributes := #[] }])
  fields := #[{ name := "serialVersionUID", type := .long, accessFlags := 26, slot := 0, constantValue := 0 }]
  methods := #[k19m0]
  instanceTypes := #[]
  staticTypes := #[.long]
  resolved := Array.replicate 37 none
  statics := none }

def pool20 : Array CpInfo := pool [(1, .class_ 2), (0, u "java/lang/Comparable"), (0, .class_ 4), (0, u "java/lang/Object")] 7

/-- java/lang/Comparable -/
def k20 : Class := { plain "java/lang/Comparable" (some 0) with
  accessFlags := 1537
  interfaces := #[]
  cf := some (fileOf pool20 1 #[] #[] 1537 3 #[] #[])
  fields := #[]
  methods := #[]
  instanceTypes := #[]
  staticTypes := #[]
  resolved := Array.replicate 12 none
  statics := none }

def pool21 : Array CpInfo := pool [(1, .class_ 2), (0, u "java/lang/constant/Constable"), (0, .class_ 4), (0, u "java/lang/Object")] 6

/-- java/lang/constant/Constable -/
def k21 : Class := { plain "java/lang/constant/Constable" (some 0) with
  accessFlags := 1537
  interfaces := #[]
  cf := some (fileOf pool21 1 #[] #[] 1537 3 #[] #[])
  fields := #[]
  methods := #[]
  instanceTypes := #[]
  staticTypes := #[]
  resolved := Array.replicate 11 none
  statics := none }

def pool22 : Array CpInfo := pool [(1, .class_ 2), (0, u "java/lang/constant/ConstantDesc"), (0, .class_ 4), (0, u "java/lang/Object")] 32

/-- java/lang/constant/ConstantDesc -/
def k22 : Class := { plain "java/lang/constant/ConstantDesc" (some 0) with
  accessFlags := 1537
  interfaces := #[]
  cf := some (fileOf pool22 1 #[] #[] 1537 3 #[] #[])
  fields := #[]
  methods := #[]
  instanceTypes := #[]
  staticTypes := #[]
  resolved := Array.replicate 37 none
  statics := none }

def pool23 : Array CpInfo := pool [(1, .class_ 2), (0, u "java/lang/Float"), (48, .class_ 53), (1, u "java/lang/Number"), (3, u "value"), (0, u "F"), (2, u "isNaN"), (0, u "(F)Z"), (28, u "$assertionsDisabled"), (0, u "Z"), (52, u "TYPE"), (0, u "Ljava/lang/Class;"), (0, .class_ 148), (0, u "java/lang/Comparable"), (0, .class_ 150), (0, u "java/lang/constant/Constable"), (0, .class_ 152), (0, u "java/lang/constant/ConstantDesc"), (0, u "POSITIVE_INFINITY"), (1, u "NEGATIVE_INFINITY"), (1, u "NaN"), (1, u "MAX_VALUE"), (0, u "MIN_NORMAL"), (0, u "MIN_VALUE"), (1, u "SIZE"), (0, u "I"), (1, u "PRECISION"), (1, u "MAX_EXPONENT"), (1, u "MIN_EXPONENT"), (1, u "BYTES"), (3, u "serialVersionUID"), (0, u "J")] 101

def k23c0 : Code := { maxStack := 2, maxLocals := 1, code := jdk_118_method_6_code, exceptionTable := #[], attributes := #[] }
def k23m0 : Method := { name := "isNaN", desc := "(F)Z", sig := { parameters := [.float], returnType := some .boolean }, accessFlags := 9, code := some k23c0 }
/-- java/lang/Float -/
def k23 : Class := { plain "java/lang/Float" (some 19) with
  accessFlags := 49
  interfaces := #[20, 21, 22]
  cf := some (fileOf pool23 1 #[] #[{ accessFlags := 9, nameIndex := 61, descriptorIndex := 62, attributes := #[] }] 49 51 #[147, 149, 151] #[{ accessFlags := 25, nameIndex := 153, descriptorIndex := 58, attributes := #[] }, { accessFlags := 25, nameIndex := 155, descriptorIndex := 58, attributes := #[] }, { accessFlags := 25, nameIndex := 157, descriptorIndex := 58, attributes := #[] }, { accessFlags := 25, nameIndex := 159, descriptorIndex := 58, attributes := #[] }, { accessFlags := 25, nameIndex := 160, descriptorIndex := 58, attributes := #[] }, { accessFlags := 25, nameIndex := 161, descriptorIndex := 58, attributes := #[] }, { accessFlags := 25, nameIndex := 163, descriptorIndex := 164, attributes := #[] }, { accessFlags := 25, nameIndex := 166, descriptorIndex := 164, attributes := #[] }, { accessFlags := 25, nameIndex := 168, descriptorIndex := 164, attributes := #[] }, { accessFlags := 25, nameIndex := 170, descriptorIndex := 164, attributes := #[] }, { accessFlags := 25, nameIndex := 172, descriptorIndex := 164, attributes := #[] }, { accessFlags := 25, nameIndex := 145, descriptorIndex := 146, attributes := #[] }, { accessFlags := 18, nameIndex := 57, descriptorIndex := 58, attributes := #[] }, { accessFlags := 26, nameIndex := 176, descriptorIndex := 177, attributes := #[] }, { accessFlags := 4120, nameIndex := 91, descriptorIndex := 92, attributes := #[] }])
  fields := #[{ name := "POSITIVE_INFINITY", type := .float, accessFlags := 25, slot := 0, constantValue := 0 }, { name := "NEGATIVE_INFINITY", type := .float, accessFlags := 25, slot := 1, constantValue := 0 }, { name := "NaN", type := .float, accessFlags := 25, slot := 2, constantValue := 0 }, { name := "MAX_VALUE", type := .float, accessFlags := 25, slot := 3, constantValue := 0 }, { name := "MIN_NORMAL", type := .float, accessFlags := 25, slot := 4, constantValue := 0 }, { name := "MIN_VALUE", type := .float, accessFlags := 25, slot := 5, constantValue := 0 }, { name := "SIZE", type := .int, accessFlags := 25, slot := 6, constantValue := 0 }, { name := "PRECISION", type := .int, accessFlags := 25, slot := 7, constantValue := 0 }, { name := "MAX_EXPONENT", type := .int, accessFlags := 25, slot := 8, constantValue := 0 }, { name := "MIN_EXPONENT", type := .int, accessFlags := 25, slot := 9, constantValue := 0 }, { name := "BYTES", type := .int, accessFlags := 25, slot := 10, constantValue := 0 }, { name := "TYPE", type := (.object "java/lang/Class"), accessFlags := 25, slot := 11, constantValue := 0 }, { name := "value", type := .float, accessFlags := 18, slot := 0, constantValue := 0 }, { name := "serialVersionUID", type := .long, accessFlags := 26, slot := 12, constantValue := 0 }, { name := "$assertionsDisabled", type := .boolean, accessFlags := 4120, slot := 13, constantValue := 0 }]
  methods := #[k23m0]
  instanceTypes := #[.float]
  staticTypes := #[.float, .float, .float, .float, .float, .float, .int, .int, .int, .int, .int, (.object "java/lang/Class"), .long, .boolean]
  resolved := Array.replicate 279 none
  statics := none }

def pool24 : Array CpInfo := pool [(1, .class_ 2), (0, u "java/lang/Integer"), (16, u "digits"), (0, u "[C"), (32, u "numberOfLeadingZeros"), (0, u "(I)I"), (30, u "DigitOnes"), (0, u "[B"), (2, u "DigitTens"), (99, .class_ 190), (0, u "java/lang/Integer$IntegerCache"), (3, u "I"), (8, .class_ 204), (0, u "java/lang/Number"), (2, u "value"), (56, .integer 65536), (37, u "TYPE"), (0, u "Ljava/lang/Class;"), (0, .class_ 305), (0, u "java/lang/Comparable"), (0, .class_ 307), (0, u "java/lang/constant/Constable"), (0, .class_ 309), (0, u "java/lang/constant/ConstantDesc"), (0, u "MIN_VALUE"), (1, u "MAX_VALUE"), (3, u "SIZE"), (1, u "BYTES"), (1, u "serialVersionUID"), (0, u "J")] 131

def k24c0 : Code := { maxStack := 3, maxLocals := 2, code := jdk_33_method_47_code, exceptionTable := #[], attributes := #[] }
def k24m0 : Method := { name := "numberOfLeadingZeros", desc := "(I)I", sig := { parameters := [.int], returnType := some .int }, accessFlags := 9, code := some k24c0 }
/-- java/lang/Integer -/
def k24 : Class := { plain "java/lang/Integer" (some 19) with
  accessFlags := 49
  interfaces := #[20, 21, 22]
  cf := some (fileOf pool24 1 #[.nestMembers #[189]] #[{ accessFlags := 9, nameIndex := 53, descriptorIndex := 54, attributes := #[] }] 49 203 #[304, 306, 308] #[{ accessFlags := 25, nameIndex := 310, descriptorIndex := 194, attributes := #[] }, { accessFlags := 25, nameIndex := 312, descriptorIndex := 194, attributes := #[] }, { accessFlags := 25, nameIndex := 302, descriptorIndex := 303, attributes := #[] }, { accessFlags := 24, nameIndex := 19, descriptorIndex := 20, attributes := #[] }, { accessFlags := 24, nameIndex := 89, descriptorIndex := 86, attributes := #[] }, { accessFlags := 24, nameIndex := 85, descriptorIndex := 86, attributes := #[] }, { accessFlags := 18, nameIndex := 207, descriptorIndex := 194, attributes := #[] }, { accessFlags := 25, nameIndex := 316, descriptorIndex := 194, attributes := #[] }, { accessFlags := 25, nameIndex := 318, descriptorIndex := 194, attributes := #[] }, { accessFlags := 26, nameIndex := 320, descriptorIndex := 321, attributes := #[] }])
  fields := #[{ name := "MIN_VALUE", type := .int, accessFlags := 25, slot := 0, constantValue := 0 }, { name := "MAX_VALUE", type := .int, accessFlags := 25, slot := 1, constantValue := 0 }, { name := "TYPE", type := (.object "java/lang/Class"), accessFlags := 25, slot := 2, constantValue := 0 }, { name := "digits", type := (.array .char), accessFlags := 24, slot := 3, constantValue := 0 }, { name := "DigitTens", type := (.array .byte), accessFlags := 24, slot := 4, constantValue := 0 }, { name := "DigitOnes", type := (.array .byte), accessFlags := 24, slot := 5, constantValue := 0 }, { name := "value", type := .int, accessFlags := 18, slot := 0, constantValue := 0 }, { name := "SIZE", type := .int, accessFlags := 25, slot := 6, constantValue := 0 }, { name := "BYTES", type := .int, accessFlags := 25, slot := 7, constantValue := 0 }, { name := "serialVersionUID", type := .long, accessFlags := 26, slot := 8, constantValue := 0 }]
  methods := #[k24m0]
  instanceTypes := #[.int]
  staticTypes := #[.int, .int, (.object "java/lang/Class"), (.array .char), (.array .byte), (.array .byte), .int, .int, .long]
  resolved := Array.replicate 453 none
  statics := none }

/-- the primitive byte -/
def k25 : Class := { plain "byte" none with kind := .primitive 'B', accessFlags := 0x411 }
/-- [B -/
def k26 : Class := { plain "[B" (some 0) with kind := .array 25 .byte, interfaces := #[8, 9], accessFlags := 1041 }

/-- the primitive int -/
def k27 : Class := { plain "int" none with kind := .primitive 'I', accessFlags := 0x411 }
/-- [I -/
def k28 : Class := { plain "[I" (some 0) with kind := .array 27 .int, interfaces := #[8, 9], accessFlags := 1041 }

def heap : Heap := #[]
def classes : Array Class := #[k0, k1, k2, k3, k4, k5, k6, k7, k8, k9, k10, k11, k12, k13, k14, k15, k16, k17, k18, k19, k20, k21, k22, k23, k24, k25, k26, k27, k28]
def interned : List (Array UInt16 × Addr) := []
def slotsUsed : Nat := 0
def theMethod : MethodId := ⟨1, 1⟩
def args0 : Array Value := #[.int 5, .int 2, .long 3, .long 4]
def aboutOver (below : List Frame) : State where
  vm := { classes := classes, interned := interned.toArray }
  heap := heap
  slotsUsed := slotsUsed
  threads := #[{ frames := .invoking theMethod args0 :: below }]
def below0 : List Frame := [.native { method := ⟨0, 0⟩, args := #[] }]
def about1 : State := aboutOver below0
def p0 : Program := .bare "" "" ""
def e0 : Env := launch0.env 0 0 0
theorem w_frames : about1.frames = Frame.invoking theMethod args0 :: below0 := rfl
set_option maxRecDepth 65536 in
theorem w_args : argsFit about1.vm theMethod args0 = true := by decide +kernel
set_option maxRecDepth 65536 in
theorem w_heap : heapFits about1 = true := by decide +kernel
set_option maxRecDepth 65536 in
theorem w_runnable : about1.curStatus? = some .runnable := by decide +kernel
set_option maxRecDepth 65536 in
theorem w_alone : about1.alone = true := by decide +kernel
set_option maxRecDepth 65536 in
theorem w_named : about1.methodNamed? x = some theMethod := by decide +kernel
set_option maxRecDepth 65536 in
theorem w_hears : about1.hears theMethod below0 = true := by decide +kernel
set_option maxRecDepth 65536 in
theorem w_ripe : about1.ripe theMethod args0 below0 = true := by decide +kernel
theorem w_running : about1.status = .running := rfl
set_option maxRecDepth 65536 in
theorem w_room : about1.hasRoom e0.platform room_1 = true :=
  launch0.hasRoom_least _ room_1 (by decide +kernel) (by decide +kernel) (by decide +kernel) (by decide +kernel) (by decide +kernel) (by decide +kernel)
theorem allAtoms_all (ts : List Jvm.Cond) (a : Array Jvm.Value) (st : Jvm.State) : (allAtoms ts).before a st = ts.all (fun c => c.before a st) := by
  induction ts with
  | nil => rfl
  | cons c t ih =>
    show (Jvm.Cond.and c (allAtoms t)).before a st = _
    rw [Jvm.Cond.before_and, ih, List.all_cons]
def words1 : List Jvm.Cond := Jvm.Cond.code x code maxLocals ret :: tables_1
/-- a 'code' word, met by the world's own term for the bytes: nothing is compared byte by byte -/
theorem code_word {y : MethodName} {bytes : ByteArray} {mx : Nat} {rt : Option FieldType} {a : Array Value} {s : State} {m : MethodId} {meth : Method} {c : Code} (h1 : s.methodNamed? y = some m) (h2 : s.vm.method? m = some meth) (h3 : meth.code = some c) (h4 : c.code = bytes)
    (h5 : (c.maxLocals == mx && c.exceptionTable.isEmpty && decide (c.maxStack ≤ mostOperands) && decide (meth.sig.returnType = rt) && !meth.locks && decide (parseMethodDescriptor y.desc = some meth.sig)) = true) : (Jvm.Cond.code y bytes mx rt).before a s = true := by
  simp only [Bool.and_eq_true, beq_iff_eq, Bool.not_eq_true', decide_eq_true_eq] at h5
  obtain ⟨⟨⟨⟨⟨g1, g2⟩, g3⟩, g4⟩, g5⟩, g6⟩ := h5
  simp [Cond.before, Cond.holds, Cond.value, h1, h2, h3, h4, g1, g2, g3, g4, g5, g6]
def isCode : Jvm.Cond → Bool
  | .code _ _ _ _ => true
  | _ => false
theorem all_split {L : List Jvm.Cond} {P : Jvm.Cond → Bool} (h1 : L.all (fun c => isCode c || P c) = true) (h2 : ∀ c ∈ L.filter isCode, P c = true) : L.all P = true := by
  refine List.all_eq_true.mpr fun c hc => ?_
  have h := List.all_eq_true.mp h1 c hc
  rcases Bool.eq_false_or_eq_true (isCode c) with hi | hi
  · exact h2 c (List.mem_filter.mpr ⟨hc, hi⟩)
  · simpa [hi] using h
set_option maxRecDepth 65536 in
theorem w_c0 : (Jvm.Cond.code x code maxLocals ret).before args0 about1 = true := code_word (m := ⟨1, 1⟩) (meth := k1m1) (c := k1c1) (by decide +kernel) rfl rfl rfl (by decide +kernel)
set_option maxRecDepth 65536 in
theorem w_c1 : (Jvm.Cond.code ({ cls := "com/example/lively_broker/livelybroker/broker/Job", name := "<init>", desc := "([B[BJJ)V" } : Jvm.MethodName) prog_1_method_1_code (7 : Nat) (Option.none : Option Jvm.ClassFile.FieldType)).before args0 about1 = true := code_word (m := ⟨2, 0⟩) (meth := k2m0) (c := k2c0) (by decide +kernel) rfl rfl rfl (by decide +kernel)
set_option maxRecDepth 65536 in
theorem w_c2 : (Jvm.Cond.code ({ cls := "java/lang/Object", name := "<init>", desc := "()V" } : Jvm.MethodName) object_method_1_code (1 : Nat) (Option.none : Option Jvm.ClassFile.FieldType)).before args0 about1 = true := code_word (m := ⟨0, 0⟩) (meth := k0m0) (c := k0c0) (by decide +kernel) rfl rfl rfl (by decide +kernel)
set_option maxRecDepth 65536 in
theorem w_c3 : (Jvm.Cond.code ({ cls := "java/util/LinkedHashSet", name := "<init>", desc := "()V" } : Jvm.MethodName) jdk_2620_method_3_code (1 : Nat) (Option.none : Option Jvm.ClassFile.FieldType)).before args0 about1 = true := code_word (m := ⟨13, 0⟩) (meth := k13m0) (c := k13c0) (by decide +kernel) rfl rfl rfl (by decide +kernel)
set_option maxRecDepth 65536 in
theorem w_c4 : (Jvm.Cond.code ({ cls := "java/util/HashSet", name := "<init>", desc := "(IFZ)V" } : Jvm.MethodName) jdk_93_method_5_code (4 : Nat) (Option.none : Option Jvm.ClassFile.FieldType)).before args0 about1 = true := code_word (m := ⟨10, 1⟩) (meth := k10m1) (c := k10c1) (by decide +kernel) rfl rfl rfl (by decide +kernel)
set_option maxRecDepth 65536 in
theorem w_c5 : (Jvm.Cond.code ({ cls := "java/util/AbstractSet", name := "<init>", desc := "()V" } : Jvm.MethodName) jdk_91_method_1_code (1 : Nat) (Option.none : Option Jvm.ClassFile.FieldType)).before args0 about1 = true := code_word (m := ⟨7, 0⟩) (meth := k7m0) (c := k7c0) (by decide +kernel) rfl rfl rfl (by decide +kernel)
set_option maxRecDepth 65536 in
theorem w_c6 : (Jvm.Cond.code ({ cls := "java/util/AbstractCollection", name := "<init>", desc := "()V" } : Jvm.MethodName) jdk_22_method_1_code (1 : Nat) (Option.none : Option Jvm.ClassFile.FieldType)).before args0 about1 = true := code_word (m := ⟨5, 0⟩) (meth := k5m0) (c := k5c0) (by decide +kernel) rfl rfl rfl (by decide +kernel)
set_option maxRecDepth 65536 in
theorem w_c7 : (Jvm.Cond.code ({ cls := "java/util/LinkedHashMap", name := "<init>", desc := "(IF)V" } : Jvm.MethodName) jdk_94_method_14_code (3 : Nat) (Option.none : Option Jvm.ClassFile.FieldType)).before args0 about1 = true := code_word (m := ⟨18, 0⟩) (meth := k18m0) (c := k18c0) (by decide +kernel) rfl rfl rfl (by decide +kernel)
set_option maxRecDepth 65536 in
theorem w_c8 : (Jvm.Cond.code ({ cls := "java/util/HashMap", name := "<init>", desc := "(IF)V" } : Jvm.MethodName) jdk_69_method_5_code (3 : Nat) (Option.none : Option Jvm.ClassFile.FieldType)).before args0 about1 = true := code_word (m := ⟨16, 1⟩) (meth := k16m1) (c := k16c1) (by decide +kernel) rfl rfl rfl (by decide +kernel)
set_option maxRecDepth 65536 in
theorem w_c9 : (Jvm.Cond.code ({ cls := "java/util/AbstractMap", name := "<init>", desc := "()V" } : Jvm.MethodName) jdk_71_method_1_code (1 : Nat) (Option.none : Option Jvm.ClassFile.FieldType)).before args0 about1 = true := code_word (m := ⟨15, 0⟩) (meth := k15m0) (c := k15c0) (by decide +kernel) rfl rfl rfl (by decide +kernel)
set_option maxRecDepth 65536 in
theorem w_c10 : (Jvm.Cond.code ({ cls := "java/lang/Float", name := "isNaN", desc := "(F)Z" } : Jvm.MethodName) jdk_118_method_6_code (1 : Nat) (Option.some Jvm.ClassFile.FieldType.boolean)).before args0 about1 = true := code_word (m := ⟨23, 0⟩) (meth := k23m0) (c := k23c0) (by decide +kernel) rfl rfl rfl (by decide +kernel)
set_option maxRecDepth 65536 in
theorem w_c11 : (Jvm.Cond.code ({ cls := "java/util/HashMap", name := "tableSizeFor", desc := "(I)I" } : Jvm.MethodName) jdk_69_method_4_code (2 : Nat) (Option.some Jvm.ClassFile.FieldType.int)).before args0 about1 = true := code_word (m := ⟨16, 0⟩) (meth := k16m0) (c := k16c0) (by decide +kernel) rfl rfl rfl (by decide +kernel)
set_option maxRecDepth 65536 in
theorem w_c12 : (Jvm.Cond.code ({ cls := "java/lang/Integer", name := "numberOfLeadingZeros", desc := "(I)I" } : Jvm.MethodName) jdk_33_method_47_code (2 : Nat) (Option.some Jvm.ClassFile.FieldType.int)).before args0 about1 = true := code_word (m := ⟨24, 0⟩) (meth := k24m0) (c := k24c0) (by decide +kernel) rfl rfl rfl (by decide +kernel)
set_option maxRecDepth 65536 in
theorem w_c13 : (Jvm.Cond.code ({ cls := "com/example/lively_broker/livelybroker/broker/Job", name := "restoreProgress", desc := "(ZI)V" } : Jvm.MethodName) prog_1_method_17_code (3 : Nat) (Option.none : Option Jvm.ClassFile.FieldType)).before args0 about1 = true := code_word (m := ⟨2, 7⟩) (meth := k2m7) (c := k2c7) (by decide +kernel) rfl rfl rfl (by decide +kernel)
set_option maxRecDepth 65536 in
theorem w_c14 : (Jvm.Cond.code ({ cls := "com/example/lively_broker/livelybroker/broker/Job", name := "countLostWorker", desc := "()I" } : Jvm.MethodName) prog_1_method_15_code (1 : Nat) (Option.some Jvm.ClassFile.FieldType.int)).before args0 about1 = true := code_word (m := ⟨2, 5⟩) (meth := k2m5) (c := k2c5) (by decide +kernel) rfl rfl rfl (by decide +kernel)
set_option maxRecDepth 65536 in
theorem w_c15 : (Jvm.Cond.code ({ cls := "com/example/lively_broker/livelybroker/broker/Job", name := "lostWorkers", desc := "()I" } : Jvm.MethodName) prog_1_method_16_code (1 : Nat) (Option.some Jvm.ClassFile.FieldType.int)).before args0 about1 = true := code_word (m := ⟨2, 6⟩) (meth := k2m6) (c := k2c6) (by decide +kernel) rfl rfl rfl (by decide +kernel)
set_option maxRecDepth 65536 in
theorem w_c16 : (Jvm.Cond.code ({ cls := "com/example/lively_broker/livelybroker/broker/Job", name := "placed", desc := "()Z" } : Jvm.MethodName) prog_1_method_7_code (1 : Nat) (Option.some Jvm.ClassFile.FieldType.boolean)).before args0 about1 = true := code_word (m := ⟨2, 4⟩) (meth := k2m4) (c := k2c4) (by decide +kernel) rfl rfl rfl (by decide +kernel)
set_option maxRecDepth 65536 in
theorem w_c17 : (Jvm.Cond.code ({ cls := "com/example/lively_broker/livelybroker/broker/Job", name := "payload", desc := "()[B" } : Jvm.MethodName) prog_1_method_3_code (1 : Nat) (Option.some (Jvm.ClassFile.FieldType.array Jvm.ClassFile.FieldType.byte))).before args0 about1 = true := code_word (m := ⟨2, 1⟩) (meth := k2m1) (c := k2c1) (by decide +kernel) rfl rfl rfl (by decide +kernel)
set_option maxRecDepth 65536 in
theorem w_c18 : (Jvm.Cond.code ({ cls := "com/example/lively_broker/livelybroker/broker/Job", name := "acceptedAt", desc := "()J" } : Jvm.MethodName) prog_1_method_5_code (1 : Nat) (Option.some Jvm.ClassFile.FieldType.long)).before args0 about1 = true := code_word (m := ⟨2, 2⟩) (meth := k2m2) (c := k2c2) (by decide +kernel) rfl rfl rfl (by decide +kernel)
set_option maxRecDepth 65536 in
theorem w_c19 : (Jvm.Cond.code ({ cls := "com/example/lively_broker/livelybroker/broker/Job", name := "number", desc := "()J" } : Jvm.MethodName) prog_1_method_6_code (1 : Nat) (Option.some Jvm.ClassFile.FieldType.long)).before args0 about1 = true := code_word (m := ⟨2, 3⟩) (meth := k2m3) (c := k2c3) (by decide +kernel) rfl rfl rfl (by decide +kernel)
def codes1 : List Jvm.Cond := [Jvm.Cond.code x code maxLocals ret, Jvm.Cond.code ({ cls := "com/example/lively_broker/livelybroker/broker/Job", name := "<init>", desc := "([B[BJJ)V" } : Jvm.MethodName) prog_1_method_1_code (7 : Nat) (Option.none : Option Jvm.ClassFile.FieldType), Jvm.Cond.code ({ cls := "java/lang/Object", name := "<init>", desc := "()V" } : Jvm.MethodName) object_method_1_code (1 : Nat) (Option.none : Option Jvm.ClassFile.FieldType), Jvm.Cond.code ({ cls := "java/util/LinkedHashSet", name := "<init>", desc := "()V" } : Jvm.MethodName) jdk_2620_method_3_code (1 : Nat) (Option.none : Option Jvm.ClassFile.FieldType), Jvm.Cond.code ({ cls := "java/util/HashSet", name := "<init>", desc := "(IFZ)V" } : Jvm.MethodName) jdk_93_method_5_code (4 : Nat) (Option.none : Option Jvm.ClassFile.FieldType), Jvm.Cond.code ({ cls := "java/util/AbstractSet", name := "<init>", desc := "()V" } : Jvm.MethodName) jdk_91_method_1_code (1 : Nat) (Option.none : Option Jvm.ClassFile.FieldType), Jvm.Cond.code ({ cls := "java/util/AbstractCollection", name := "<init>", desc := "()V" } : Jvm.MethodName) jdk_22_method_1_code (1 : Nat) (Option.none : Option Jvm.ClassFile.FieldType), Jvm.Cond.code ({ cls := "java/util/LinkedHashMap", name := "<init>", desc := "(IF)V" } : Jvm.MethodName) jdk_94_method_14_code (3 : Nat) (Option.none : Option Jvm.ClassFile.FieldType), Jvm.Cond.code ({ cls := "java/util/HashMap", name := "<init>", desc := "(IF)V" } : Jvm.MethodName) jdk_69_method_5_code (3 : Nat) (Option.none : Option Jvm.ClassFile.FieldType), Jvm.Cond.code ({ cls := "java/util/AbstractMap", name := "<init>", desc := "()V" } : Jvm.MethodName) jdk_71_method_1_code (1 : Nat) (Option.none : Option Jvm.ClassFile.FieldType), Jvm.Cond.code ({ cls := "java/lang/Float", name := "isNaN", desc := "(F)Z" } : Jvm.MethodName) jdk_118_method_6_code (1 : Nat) (Option.some Jvm.ClassFile.FieldType.boolean), Jvm.Cond.code ({ cls := "java/util/HashMap", name := "tableSizeFor", desc := "(I)I" } : Jvm.MethodName) jdk_69_method_4_code (2 : Nat) (Option.some Jvm.ClassFile.FieldType.int), Jvm.Cond.code ({ cls := "java/lang/Integer", name := "numberOfLeadingZeros", desc := "(I)I" } : Jvm.MethodName) jdk_33_method_47_code (2 : Nat) (Option.some Jvm.ClassFile.FieldType.int), Jvm.Cond.code ({ cls := "com/example/lively_broker/livelybroker/broker/Job", name := "restoreProgress", desc := "(ZI)V" } : Jvm.MethodName) prog_1_method_17_code (3 : Nat) (Option.none : Option Jvm.ClassFile.FieldType), Jvm.Cond.code ({ cls := "com/example/lively_broker/livelybroker/broker/Job", name := "countLostWorker", desc := "()I" } : Jvm.MethodName) prog_1_method_15_code (1 : Nat) (Option.some Jvm.ClassFile.FieldType.int), Jvm.Cond.code ({ cls := "com/example/lively_broker/livelybroker/broker/Job", name := "lostWorkers", desc := "()I" } : Jvm.MethodName) prog_1_method_16_code (1 : Nat) (Option.some Jvm.ClassFile.FieldType.int), Jvm.Cond.code ({ cls := "com/example/lively_broker/livelybroker/broker/Job", name := "placed", desc := "()Z" } : Jvm.MethodName) prog_1_method_7_code (1 : Nat) (Option.some Jvm.ClassFile.FieldType.boolean), Jvm.Cond.code ({ cls := "com/example/lively_broker/livelybroker/broker/Job", name := "payload", desc := "()[B" } : Jvm.MethodName) prog_1_method_3_code (1 : Nat) (Option.some (Jvm.ClassFile.FieldType.array Jvm.ClassFile.FieldType.byte)), Jvm.Cond.code ({ cls := "com/example/lively_broker/livelybroker/broker/Job", name := "acceptedAt", desc := "()J" } : Jvm.MethodName) prog_1_method_5_code (1 : Nat) (Option.some Jvm.ClassFile.FieldType.long), Jvm.Cond.code ({ cls := "com/example/lively_broker/livelybroker/broker/Job", name := "number", desc := "()J" } : Jvm.MethodName) prog_1_method_6_code (1 : Nat) (Option.some Jvm.ClassFile.FieldType.long)]
set_option maxRecDepth 65536 in
theorem codes_eq : words1.filter isCode = codes1 := rfl
theorem w_codes : ∀ c ∈ words1.filter isCode, c.before args0 about1 = true := by
  rw [codes_eq]
  intro c hc
  simp only [codes1, List.mem_cons, List.not_mem_nil, or_false] at hc
  rcases hc with rfl | rfl | rfl | rfl | rfl | rfl | rfl | rfl | rfl | rfl | rfl | rfl | rfl | rfl | rfl | rfl | rfl | rfl | rfl | rfl
  · exact w_c0
  · exact w_c1
  · exact w_c2
  · exact w_c3
  · exact w_c4
  · exact w_c5
  · exact w_c6
  · exact w_c7
  · exact w_c8
  · exact w_c9
  · exact w_c10
  · exact w_c11
  · exact w_c12
  · exact w_c13
  · exact w_c14
  · exact w_c15
  · exact w_c16
  · exact w_c17
  · exact w_c18
  · exact w_c19
set_option maxRecDepth 65536 in
theorem w_t1 : (words1.take 24).all (fun c => isCode c || c.before args0 about1) = true := by decide +kernel
set_option maxRecDepth 65536 in
theorem w_t2 : ((words1.drop 24).take 24).all (fun c => isCode c || c.before args0 about1) = true := by decide +kernel
set_option maxRecDepth 65536 in
theorem w_t3 : (((words1.drop 24).drop 24).take 24).all (fun c => isCode c || c.before args0 about1) = true := by decide +kernel
set_option maxRecDepth 65536 in
theorem w_t4 : ((((words1.drop 24).drop 24).drop 24).take 24).all (fun c => isCode c || c.before args0 about1) = true := by decide +kernel
set_option maxRecDepth 65536 in
theorem w_t5 : (((((words1.drop 24).drop 24).drop 24).drop 24).take 24).all (fun c => isCode c || c.before args0 about1) = true := by decide +kernel
set_option maxRecDepth 65536 in
theorem w_t6 : (((((words1.drop 24).drop 24).drop 24).drop 24).drop 24).all (fun c => isCode c || c.before args0 about1) = true := by decide +kernel
theorem w_tables : (allAtoms (Jvm.Cond.code x code maxLocals ret :: tables_1)).before args0 about1 = true := by
  rw [allAtoms_all]
  show words1.all (fun c => c.before args0 about1) = true
  refine all_split ?_ w_codes
  rw [← List.take_append_drop 24 words1, List.all_append, w_t1, ← List.take_append_drop 24 (words1.drop 24), List.all_append, w_t2, ← List.take_append_drop 24 ((words1.drop 24).drop 24), List.all_append, w_t3, ← List.take_append_drop 24 (((words1.drop 24).drop 24).drop 24), List.all_append, w_t4, ← List.take_append_drop 24 ((((words1.drop 24).drop 24).drop 24).drop 24), List.all_append, w_t5, w_t6]
  rfl
set_option maxRecDepth 65536 in
theorem w_case : (Jvm.Cond.and given_1 narrow_1).before args0 about1 = true := by decide +kernel
theorem w_applies : (headSpec (Jvm.Cond.code x code maxLocals ret :: tables_1) room_1).applies x e0.platform about1 = true :=
  (Spec.applies_iff w_frames).mpr ⟨w_running, w_runnable, w_alone, w_named, w_hears, w_ripe, w_room, w_tables⟩
theorem atStart : AtStart classFile x code maxLocals ret World_1 tables_1 room_1 Calls_1 rest_1 Pre_1 launch0 p0 e0 about1 theMethod args0 below0 :=
  ⟨lists_1, trivial, launch0.admits_env _ _ _, launch0.least_env, fairChoices_fair.cas, fairChoices_fair.clock, w_frames, w_args, w_heap, w_applies, trivial, trivial, w_case⟩
end start1
theorem witness_1 : WitnessClaimed_1 := ⟨start1.p0, start1.e0, start1.about1, start1.theMethod, start1.args0, start1.below0, start1.atStart⟩
end Jvm.Pilot.@@N@@
