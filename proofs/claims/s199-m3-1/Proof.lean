import JvmDerived
import JvmDerived.Pilot.@@N@@Statement
import JvmDerived.Pilot.@@N@@Code
set_option linter.unusedVariables false
set_option linter.unusedSimpArgs false
namespace Jvm.OwnW
open Jvm Jvm.ClassFile Sem Op Lib Jvm.Free Jvm.Stand Jvm.LawKit Jvm.RoadKit Bundle
/-- the walk stands at pc, over the heap h; k cells and n slots have come; nothing that stood at the start is written -/
def At0 (p : Program) (l : Launch) (e : Env) (R : Room) (s : State) (m : MethodId) (args : Array Value) (below : List Frame) (meth : Method) (c : Code) (n0 : Nat) (S0 : State) (h : Heap) (k n pc : Nat) (Ls : Array Slot) (st : List Value) : Prop :=
  ∃ (T : State) (locs : List Loc), Stand p l e R s m args below meth c T locs k n ∧ T.heap = h ∧ Fr n0 locs ∧ ∀ t, Steps p.tables e below (T.setTop (mkF m pc Ls st)) t → Steps p.tables e below S0 t
/-- the walk has returned v, over the heap h -/
def End0 (p : Program) (e : Env) (R : Room) (s : State) (below : List Frame) (n0 : Nat) (S0 : State) (v : Option Value) (h : Heap) : Prop :=
  ∃ (s₂ : State) (L : List Loc), Steps p.tables e below S0 s₂ ∧ s₂.status = .running ∧ Ended s₂ below (.returned v) ∧ s₂.heap = h ∧ Fr n0 L ∧ FrameEnd s (.returned v) s₂ L R.cells R.slots
abbrev WT := Heap → Nat → Nat → Nat → Array Slot → List Value → Prop
abbrev VT := Option Value → Heap → Prop
/-- W and V are of one walk of the body of y -/
def Wk (l : Launch) (Z : State) (y : MethodName) (code : ByteArray) (mx : Nat) (ret : Option FieldType) (R : Room) (n0 : Nat) (W : WT) (V : VT) : Prop :=
  ∃ (p : Program) (e : Env) (s : State) (m : MethodId) (args : Array Value) (below : List Frame) (meth : Method) (c : Code) (S0 : State),
    p.tables.exec = Jvm.exec ∧ c.code = code ∧ c.maxLocals = mx ∧ s.vm.findClass y.cls = some m.cls ∧ Z.Warmed39 s.vm ∧ meth.name = y.name ∧ meth.sig.returnType = ret ∧ meth.locks = false ∧
    W = At0 p l e R s m args below meth c n0 S0 ∧ V = End0 p e R s below n0 S0
/-- a contract: called with 'as' over the heap h the method returns v and leaves h' with Q v h' -/
def Ct (l : Launch) (Z : State) (y : MethodName) (bytes : ByteArray) (mx : Nat) (ret : Option FieldType) (rm : Room) (n0 : Nat) (as : Array Value) (h : Heap) (Q : Option Value → Heap → Prop) : Prop :=
  ∀ ws : List Jvm.Cond, MetFree l y (head1 (Jvm.Cond.code y bytes mx ret :: ws) rm) (fun a U => a = as ∧ Z.Warmed39 U.vm ∧ U.heap = h) (fun _ _ _ _ _ => True) (fun _ U o U' => ∃ v L, o = .returned v ∧ (Q v U'.heap ∧ Fr n0 L) ∧ FrameEnd U o U' L rm.cells rm.slots)
theorem Ct.of {l : Launch} {Z : State} {y : MethodName} {bytes : ByteArray} {mx : Nat} {ret : Option FieldType} {rm : Room} {n0 : Nat} {as : Array Value} {h : Heap} {Q : Option Value → Heap → Prop} {Ls : Array Slot} (hpn : plainFor y = true) (hef : ∀ m, entryFrame m as mx = mkF m 0 Ls [])
    (body : ∀ W V, Wk l Z y bytes mx ret rm n0 W V → W h 0 0 0 Ls [] → ∃ v h', V v h' ∧ Q v h') : Ct l Z y bytes mx ret rm n0 as h Q := by
  intro ws
  refine MetFree.of_bodySF hpn hisR ?_
  intro p e s m args below meth c s₁ Bd hml0 hP hK
  obtain ⟨rfl, hZ, hh⟩ := hP
  have X0 : Stand p l e rm s m args below meth c s₁ [] 0 0 := Stand.of_body Bd
  have e0 : s₁.heap = h := by rw [← hh, Bd.state]; rfl
  obtain ⟨v, h', ⟨s₂, L, g1, g2, g3, g4, g5, g6⟩, hQ⟩ := body _ _ ⟨p, e, s, m, args, below, meth, c, s₁.setTop (entryFrame m args mx), Bd.exec, Bd.bytes, hml0, findClass_of_methodNamed Bd.named, hZ, (name_of_methodNamed Bd.named Bd.method).1, Bd.returns, Bd.notSynchronized, rfl, rfl⟩
    ⟨s₁, [], X0, e0, Fr.nil n0, fun t k => castTop (hef m) k⟩
  exact ⟨s₂, _, g1, g2, g3, v, L, rfl, ⟨by rw [g4]; exact hQ, g5⟩, g6⟩
theorem Ct.imp {l : Launch} {Z : State} {y : MethodName} {bytes : ByteArray} {mx : Nat} {ret : Option FieldType} {rm : Room} {n0 : Nat} {as : Array Value} {h : Heap} {Q Q' : Option Value → Heap → Prop} (hM : Ct l Z y bytes mx ret rm n0 as h Q) (hi : ∀ v h', Q v h' → Q' v h') : Ct l Z y bytes mx ret rm n0 as h Q' := by
  intro ws p e ha hc hk s m args below hf happ hP hK
  obtain ⟨n, o, h1, h2, h3, v, L, g1, ⟨g2, g3⟩, g4⟩ := hM ws p e ha hc hk s m args below hf happ hP hK
  exact ⟨n, o, h1, h2, h3, v, L, g1, ⟨hi _ _ g2, g3⟩, g4⟩
/-- the class that declares z is no interface, by a word of the sheet -/
def NF (Z : State) (a0 : Array Value) (z : MethodName) : Prop := (∃ C z2, (Jvm.Cond.selects C z2 z2).before a0 Z = true ∧ z2.cls = z.cls) ∨ (∃ S, (Jvm.Cond.superclass z.cls S).before a0 Z = true) ∨ (Jvm.Cond.noSuperclass z.cls).before a0 Z = true
theorem NF.at {Z s : State} {a0 : Array Value} {z : MethodName} (hZ : Z.Warmed39 s.vm) (f : NF Z a0 z) : NotFace s z := by
  rcases f with ⟨C, z2, w, e⟩ | ⟨S, w⟩ | w
  · intro r0 h0
    obtain ⟨c2, r2, m2, q1, q2, q3, q4, kP, hkP, hkPi⟩ := Cond.selects_spec (mvT (args := #[]) hZ w)
    have a := findClass_of_methodNamed h0
    have b := findClass_of_methodNamed q3
    rw [e] at b
    have d : r0.cls = m2.cls := Option.some.inj (a.symm.trans b)
    exact ⟨kP, by rw [d]; exact hkP, hkPi⟩
  · exact nf_super (args := #[]) (mvT hZ w)
  · exact nf_top (args := #[]) (mvT hZ w)
section Steps
variable {l : Launch} {Z : State} {y : MethodName} {code : ByteArray} {mx : Nat} {ret : Option FieldType} {R : Room} {n0 : Nat} {W : WT} {V : VT} {h : Heap} {k n pc pc' : Nat} {Ls Ls' : Array Slot} {st st' : List Value} {a0 : Array Value}
/-- a plain step, by the library's law for it -/
theorem Wk.step (H : Wk l Z y code mx ret R n0 W V) (r : W h k n pc Ls st)
    (f : ∀ {tb : Tables} [Ours tb] {e : Env} {below : List Frame} {T t : State} {m : MethodId} {c : Code}, At T m c below → tb.exec = Jvm.exec → c.code = code → Steps tb e below (T.setTop (mkF m pc' Ls' st')) t → Steps tb e below (T.setTop (mkF m pc Ls st)) t) : W h k n pc' Ls' st' := by
  obtain ⟨p, e, s, m, args, below, meth, c, S0, hx, hby, hml, hown, hZ, hnm, hret, hlk, rfl, rfl⟩ := H
  obtain ⟨T, locs, X, eh, N, sp⟩ := r
  exact ⟨T, locs, X, eh, N, fun t q => sp t (f X.here hx hby q)⟩
/-- the account of cells and slots may be widened -/
theorem Wk.more (H : Wk l Z y code mx ret R n0 W V) {k' n' : Nat} (hk : k ≤ k') (hn : n ≤ n') (r : W h k n pc Ls st) : W h k' n' pc Ls st := by
  obtain ⟨p, e, s, m, args, below, meth, c, S0, hx, hby, hml, hown, hZ, hnm, hret, hlk, rfl, rfl⟩ := H
  obtain ⟨T, locs, X, eh, N, sp⟩ := r
  exact ⟨T, locs, X.mono hk hn, eh, N, sp⟩
/-- a step that reads the tables or the heap -/
theorem Wk.stepX (H : Wk l Z y code mx ret R n0 W V) (r : W h k n pc Ls st)
    (f : ∀ {p : Program} {e : Env} {s : State} {m : MethodId} {args : Array Value} {below : List Frame} {meth : Method} {c : Code} {T : State} {locs : List Loc}, Stand p l e R s m args below meth c T locs k n → p.tables.exec = Jvm.exec → c.code = code → c.maxLocals = mx → s.vm.findClass y.cls = some m.cls → Z.Warmed39 s.vm → T.heap = h → ∃ T', Stand p l e R s m args below meth c T' locs k n ∧ T'.heap = h ∧ ∀ t, Steps p.tables e below (T'.setTop (mkF m pc' Ls' st')) t → Steps p.tables e below (T.setTop (mkF m pc Ls st)) t) : W h k n pc' Ls' st' := by
  obtain ⟨p, e, s, m, args, below, meth, c, S0, hx, hby, hml, hown, hZ, hnm, hret, hlk, rfl, rfl⟩ := H
  obtain ⟨T, locs, X, eh, N, sp⟩ := r
  obtain ⟨T', X', e', q⟩ := f X hx hby hml hown hZ eh
  exact ⟨T', locs, X', e', N, fun t u => sp t (q t u)⟩
theorem Wk.aloadN (H : Wk l Z y code mx ret R n0 W V) {i : Fin 4} {v : Value} (hd : decode code pc = .ok (.aload_n i, 1)) (r : W h k n pc Ls (st)) (hl : Ls[i.val]? = some (.val v)) (hv : v.isRef = true) : W h k n (pc + 1) Ls (v :: st) :=
  H.step r fun A hx hby q => XS.aloadN A hx rfl (hb hby hd) hl hv q
theorem Wk.aload (H : Wk l Z y code mx ret R n0 W V) {i : Nat} {v : Value} (hd : decode code pc = .ok (.aload i, 2)) (r : W h k n pc Ls (st)) (hl : Ls[i]? = some (.val v)) (hv : v.isRef = true) : W h k n (pc + 2) Ls (v :: st) :=
  H.step r fun A hx hby q => XS.aload A hx rfl (hb hby hd) hl hv q
theorem Wk.iloadN (H : Wk l Z y code mx ret R n0 W V) {i : Fin 4} {v : Int32} (hd : decode code pc = .ok (.iload_n i, 1)) (r : W h k n pc Ls (st)) (hl : Ls[i.val]? = some (.val (.int v))) : W h k n (pc + 1) Ls (.int v :: st) :=
  H.step r fun A hx hby q => XS.iloadN A hx rfl (hb hby hd) hl q
theorem Wk.iload (H : Wk l Z y code mx ret R n0 W V) {i : Nat} {v : Int32} (hd : decode code pc = .ok (.iload i, 2)) (r : W h k n pc Ls (st)) (hl : Ls[i]? = some (.val (.int v))) : W h k n (pc + 2) Ls (.int v :: st) :=
  H.step r fun A hx hby q => XS.iload A hx rfl (hb hby hd) hl q
theorem Wk.lloadN (H : Wk l Z y code mx ret R n0 W V) {i : Fin 4} {v : Int64} (hd : decode code pc = .ok (.lload_n i, 1)) (r : W h k n pc Ls (st)) (hl : Ls[i.val]? = some (.val (.long v))) : W h k n (pc + 1) Ls (.long v :: st) :=
  H.step r fun A hx hby q => XS.lloadN A hx rfl (hb hby hd) hl q
theorem Wk.lload (H : Wk l Z y code mx ret R n0 W V) {i : Nat} {v : Int64} (hd : decode code pc = .ok (.lload i, 2)) (r : W h k n pc Ls (st)) (hl : Ls[i]? = some (.val (.long v))) : W h k n (pc + 2) Ls (.long v :: st) :=
  H.step r fun A hx hby q => XS.lload A hx rfl (hb hby hd) hl q
theorem Wk.floadN (H : Wk l Z y code mx ret R n0 W V) {i : Fin 4} {v : UInt32} (hd : decode code pc = .ok (.fload_n i, 1)) (r : W h k n pc Ls (st)) (hl : Ls[i.val]? = some (.val (.float v))) : W h k n (pc + 1) Ls (.float v :: st) :=
  H.step r fun A hx hby q => XS.floadN A hx rfl (hb hby hd) hl q
theorem Wk.iconst (H : Wk l Z y code mx ret R n0 W V) {i : Int} {z : Int32} (hd : decode code pc = .ok (.iconst i, 1)) (r : W h k n pc Ls st) (hz : Int32.ofInt i = z) : W h k n (pc + 1) Ls (.int z :: st) := by
  subst hz
  exact H.step r fun A hx hby q => XS.iconst A hx rfl (hb hby hd) q
theorem Wk.bipush (H : Wk l Z y code mx ret R n0 W V) {i : Int} {z : Int32} (hd : decode code pc = .ok (.bipush i, 2)) (r : W h k n pc Ls st) (hz : (Int8.ofInt i).toInt32 = z) : W h k n (pc + 2) Ls (.int z :: st) := by
  subst hz
  exact H.step r fun A hx hby q => XS.bipush A hx rfl (hb hby hd) q
theorem Wk.sipush (H : Wk l Z y code mx ret R n0 W V) {i : Int} {z : Int32} (hd : decode code pc = .ok (.sipush i, 3)) (r : W h k n pc Ls st) (hz : (Int16.ofInt i).toInt32 = z) : W h k n (pc + 3) Ls (.int z :: st) := by
  subst hz
  exact H.step r fun A hx hby q => XS.sipush A hx rfl (hb hby hd) q
theorem Wk.lconst (H : Wk l Z y code mx ret R n0 W V) {i : Fin 2} {z : Int64} (hd : decode code pc = .ok (.lconst i, 1)) (r : W h k n pc Ls st) (hz : Int64.ofNat i = z) : W h k n (pc + 1) Ls (.long z :: st) := by
  subst hz
  exact H.step r fun A hx hby q => XS.lconst A hx rfl (hb hby hd) q
theorem Wk.fconst0 (H : Wk l Z y code mx ret R n0 W V) {v : UInt32} (hd : decode code pc = .ok (.fconst 0, 1)) (r : W h k n pc Ls st) (hv : FP.fconst0 = v) : W h k n (pc + 1) Ls (.float v :: st) :=
  H.step r fun A hx hby q => XS.fconst0 A hx rfl (hb hby hd) hv q
theorem Wk.fcmp (H : Wk l Z y code mx ret R n0 W V) {o : CmpOp} {x z : UInt32} {v : Int32} (hd : decode code pc = .ok (.fcmp o, 1)) (r : W h k n pc Ls (.float z :: .float x :: st)) (hv : cmpValue (FP.fcmp x z) o = v) : W h k n (pc + 1) Ls (.int v :: st) :=
  H.step r fun A hx hby q => XS.fcmpS A hx rfl (hb hby hd) rfl hv q
theorem Wk.aconstNull (H : Wk l Z y code mx ret R n0 W V) (hd : decode code pc = .ok (.aconst_null, 1)) (r : W h k n pc Ls (st)) : W h k n (pc + 1) Ls (.null :: st) :=
  H.step r fun A hx hby q => XS.aconstNull A hx rfl (hb hby hd)  q
theorem Wk.iadd (H : Wk l Z y code mx ret R n0 W V) {a b : Int32} (hd : decode code pc = .ok (.iadd, 1)) (r : W h k n pc Ls (.int b :: .int a :: st)) : W h k n (pc + 1) Ls (.int (a + b) :: st) :=
  H.step r fun A hx hby q => XS.iadd A hx rfl (hb hby hd) rfl q
theorem Wk.isub (H : Wk l Z y code mx ret R n0 W V) {a b : Int32} (hd : decode code pc = .ok (.isub, 1)) (r : W h k n pc Ls (.int b :: .int a :: st)) : W h k n (pc + 1) Ls (.int (a - b) :: st) :=
  H.step r fun A hx hby q => XS.isub A hx rfl (hb hby hd) rfl q
theorem Wk.iand (H : Wk l Z y code mx ret R n0 W V) {a b : Int32} (hd : decode code pc = .ok (.iand, 1)) (r : W h k n pc Ls (.int b :: .int a :: st)) : W h k n (pc + 1) Ls (.int (a &&& b) :: st) :=
  H.step r fun A hx hby q => XS.iand A hx rfl (hb hby hd) rfl q
theorem Wk.imul (H : Wk l Z y code mx ret R n0 W V) {a b : Int32} (hd : decode code pc = .ok (.imul, 1)) (r : W h k n pc Ls (.int b :: .int a :: st)) : W h k n (pc + 1) Ls (.int (a * b) :: st) :=
  H.step r fun A hx hby q => XS.imul A hx rfl (hb hby hd) rfl q
theorem Wk.ior (H : Wk l Z y code mx ret R n0 W V) {a b : Int32} (hd : decode code pc = .ok (.ior, 1)) (r : W h k n pc Ls (.int b :: .int a :: st)) : W h k n (pc + 1) Ls (.int (a ||| b) :: st) :=
  H.step r fun A hx hby q => XS.ior A hx rfl (hb hby hd) rfl q
theorem Wk.ixor (H : Wk l Z y code mx ret R n0 W V) {a b : Int32} (hd : decode code pc = .ok (.ixor, 1)) (r : W h k n pc Ls (.int b :: .int a :: st)) : W h k n (pc + 1) Ls (.int (a ^^^ b) :: st) :=
  H.step r fun A hx hby q => XS.ixor A hx rfl (hb hby hd) rfl q
theorem Wk.ishl (H : Wk l Z y code mx ret R n0 W V) {a b : Int32} (hd : decode code pc = .ok (.ishl, 1)) (r : W h k n pc Ls (.int b :: .int a :: st)) : W h k n (pc + 1) Ls (.int (a <<< (b &&& 31)) :: st) :=
  H.step r fun A hx hby q => XS.ishl A hx rfl (hb hby hd) rfl q
theorem Wk.ishr (H : Wk l Z y code mx ret R n0 W V) {a b : Int32} (hd : decode code pc = .ok (.ishr, 1)) (r : W h k n pc Ls (.int b :: .int a :: st)) : W h k n (pc + 1) Ls (.int (a >>> (b &&& 31)) :: st) :=
  H.step r fun A hx hby q => XS.ishr A hx rfl (hb hby hd) rfl q
theorem Wk.iushr (H : Wk l Z y code mx ret R n0 W V) {a b : Int32} (hd : decode code pc = .ok (.iushr, 1)) (r : W h k n pc Ls (.int b :: .int a :: st)) : W h k n (pc + 1) Ls (.int ((a.toUInt32 >>> (b &&& 31).toUInt32).toInt32) :: st) :=
  H.step r fun A hx hby q => XS.iushr A hx rfl (hb hby hd) rfl q
theorem Wk.ladd (H : Wk l Z y code mx ret R n0 W V) {a b : Int64} (hd : decode code pc = .ok (.ladd, 1)) (r : W h k n pc Ls (.long b :: .long a :: st)) : W h k n (pc + 1) Ls (.long (a + b) :: st) :=
  H.step r fun A hx hby q => XS.ladd A hx rfl (hb hby hd) rfl q
theorem Wk.lsub (H : Wk l Z y code mx ret R n0 W V) {a b : Int64} (hd : decode code pc = .ok (.lsub, 1)) (r : W h k n pc Ls (.long b :: .long a :: st)) : W h k n (pc + 1) Ls (.long (a - b) :: st) :=
  H.step r fun A hx hby q => XS.lsub A hx rfl (hb hby hd) rfl q
theorem Wk.lmul (H : Wk l Z y code mx ret R n0 W V) {a b : Int64} (hd : decode code pc = .ok (.lmul, 1)) (r : W h k n pc Ls (.long b :: .long a :: st)) : W h k n (pc + 1) Ls (.long (a * b) :: st) :=
  H.step r fun A hx hby q => XS.lmul A hx rfl (hb hby hd) rfl q
theorem Wk.land (H : Wk l Z y code mx ret R n0 W V) {a b : Int64} (hd : decode code pc = .ok (.land, 1)) (r : W h k n pc Ls (.long b :: .long a :: st)) : W h k n (pc + 1) Ls (.long (a &&& b) :: st) :=
  H.step r fun A hx hby q => XS.land A hx rfl (hb hby hd) rfl q
theorem Wk.lor (H : Wk l Z y code mx ret R n0 W V) {a b : Int64} (hd : decode code pc = .ok (.lor, 1)) (r : W h k n pc Ls (.long b :: .long a :: st)) : W h k n (pc + 1) Ls (.long (a ||| b) :: st) :=
  H.step r fun A hx hby q => XS.lor A hx rfl (hb hby hd) rfl q
theorem Wk.lxor (H : Wk l Z y code mx ret R n0 W V) {a b : Int64} (hd : decode code pc = .ok (.lxor, 1)) (r : W h k n pc Ls (.long b :: .long a :: st)) : W h k n (pc + 1) Ls (.long (a ^^^ b) :: st) :=
  H.step r fun A hx hby q => XS.lxor A hx rfl (hb hby hd) rfl q
theorem Wk.lshl (H : Wk l Z y code mx ret R n0 W V) {a : Int64} {b : Int32} (hd : decode code pc = .ok (.lshl, 1)) (r : W h k n pc Ls (.int b :: .long a :: st)) : W h k n (pc + 1) Ls (.long (a <<< (b &&& 0x3f).toInt64) :: st) :=
  H.step r fun A hx hby q => XS.lshl A hx rfl (hb hby hd) rfl q
theorem Wk.lshr (H : Wk l Z y code mx ret R n0 W V) {a : Int64} {b : Int32} (hd : decode code pc = .ok (.lshr, 1)) (r : W h k n pc Ls (.int b :: .long a :: st)) : W h k n (pc + 1) Ls (.long (a >>> (b &&& 0x3f).toInt64) :: st) :=
  H.step r fun A hx hby q => XS.lshr A hx rfl (hb hby hd) rfl q
theorem Wk.lushr (H : Wk l Z y code mx ret R n0 W V) {a : Int64} {b : Int32} (hd : decode code pc = .ok (.lushr, 1)) (r : W h k n pc Ls (.int b :: .long a :: st)) : W h k n (pc + 1) Ls (.long ((a.toUInt64 >>> (b &&& 0x3f).toInt64.toUInt64).toInt64) :: st) :=
  H.step r fun A hx hby q => XS.lushr A hx rfl (hb hby hd) rfl q
theorem Wk.ldiv (H : Wk l Z y code mx ret R n0 W V) {a b : Int64} (hd : decode code pc = .ok (.ldiv, 1)) (r : W h k n pc Ls (.long b :: .long a :: st)) (hy : b ≠ 0) : W h k n (pc + 1) Ls (.long (a / b) :: st) :=
  H.step r fun A hx hby q => XS.ldiv A hx rfl (hb hby hd) rfl hy q
theorem Wk.idiv (H : Wk l Z y code mx ret R n0 W V) {a b : Int32} (hd : decode code pc = .ok (.idiv, 1)) (r : W h k n pc Ls (.int b :: .int a :: st)) (hy : b ≠ 0) : W h k n (pc + 1) Ls (.int (a / b) :: st) :=
  H.step r fun A hx hby q => XS.idiv A hx rfl (hb hby hd) rfl hy q
theorem Wk.lrem (H : Wk l Z y code mx ret R n0 W V) {a b : Int64} (hd : decode code pc = .ok (.lrem, 1)) (r : W h k n pc Ls (.long b :: .long a :: st)) (hy : b ≠ 0) : W h k n (pc + 1) Ls (.long (a % b) :: st) := by
  rw [← lrem_mod a b]
  exact H.step r fun A hx hby q => XS.lrem A hx rfl (hb hby hd) rfl hy q
theorem Wk.irem (H : Wk l Z y code mx ret R n0 W V) {a b : Int32} (hd : decode code pc = .ok (.irem, 1)) (r : W h k n pc Ls (.int b :: .int a :: st)) (hy : b ≠ 0) : W h k n (pc + 1) Ls (.int (a % b) :: st) :=
  H.stepX r fun X hx hby hml hown hZ eT => ⟨_, X, eT, fun t q => iremM X hx rfl (hb hby hd) rfl hy q⟩
theorem Wk.i2b (H : Wk l Z y code mx ret R n0 W V) {a : Int32} (hd : decode code pc = .ok (.i2b, 1)) (r : W h k n pc Ls (.int a :: st)) : W h k n (pc + 1) Ls (.int (a.toInt8.toInt32) :: st) :=
  H.step r fun A hx hby q => XS.i2b A hx rfl (hb hby hd) rfl q
theorem Wk.i2c (H : Wk l Z y code mx ret R n0 W V) {a : Int32} (hd : decode code pc = .ok (.i2c, 1)) (r : W h k n pc Ls (.int a :: st)) : W h k n (pc + 1) Ls (.int (a.toUInt32.toUInt16.toUInt32.toInt32) :: st) :=
  H.step r fun A hx hby q => XS.i2c A hx rfl (hb hby hd) rfl q
theorem Wk.i2s (H : Wk l Z y code mx ret R n0 W V) {a : Int32} (hd : decode code pc = .ok (.i2s, 1)) (r : W h k n pc Ls (.int a :: st)) : W h k n (pc + 1) Ls (.int (a.toInt16.toInt32) :: st) :=
  H.step r fun A hx hby q => XS.i2s A hx rfl (hb hby hd) rfl q
theorem Wk.i2l (H : Wk l Z y code mx ret R n0 W V) {a : Int32} (hd : decode code pc = .ok (.i2l, 1)) (r : W h k n pc Ls (.int a :: st)) : W h k n (pc + 1) Ls (.long (a.toInt64) :: st) :=
  H.step r fun A hx hby q => XS.i2l A hx rfl (hb hby hd) rfl q
theorem Wk.l2i (H : Wk l Z y code mx ret R n0 W V) {a : Int64} (hd : decode code pc = .ok (.l2i, 1)) (r : W h k n pc Ls (.long a :: st)) : W h k n (pc + 1) Ls (.int (a.toInt32) :: st) :=
  H.step r fun A hx hby q => XS.l2i A hx rfl (hb hby hd) rfl q
theorem Wk.ineg (H : Wk l Z y code mx ret R n0 W V) {a : Int32} (hd : decode code pc = .ok (.ineg, 1)) (r : W h k n pc Ls (.int a :: st)) : W h k n (pc + 1) Ls (.int (-a) :: st) :=
  H.step r fun A hx hby q => XS.ineg A hx rfl (hb hby hd) rfl q
theorem Wk.lcmp (H : Wk l Z y code mx ret R n0 W V) {a b : Int64} (hd : decode code pc = .ok (.lcmp, 1)) (r : W h k n pc Ls (.long b :: .long a :: st)) : W h k n (pc + 1) Ls (.int (lcmpW a b) :: st) :=
  H.step r fun A hx hby q => XS.lcmp A hx rfl (hb hby hd) rfl q
theorem Wk.dup (H : Wk l Z y code mx ret R n0 W V) {v : Value} (hd : decode code pc = .ok (.dup, 1)) (r : W h k n pc Ls (v :: st)) (hc : v.category = 1) : W h k n (pc + 1) Ls (v :: v :: st) :=
  H.step r fun A hx hby q => XS.dup A hx rfl (hb hby hd) rfl hc q
theorem Wk.pop (H : Wk l Z y code mx ret R n0 W V) {v : Value} (hd : decode code pc = .ok (.pop, 1)) (r : W h k n pc Ls (v :: st)) (hc : v.category = 1) : W h k n (pc + 1) Ls (st) :=
  H.step r fun A hx hby q => XS.pop A hx rfl (hb hby hd) rfl hc q
theorem Wk.dupX1 (H : Wk l Z y code mx ret R n0 W V) {v w : Value} (hd : decode code pc = .ok (.dup_x1, 1)) (r : W h k n pc Ls (v :: w :: st)) (hc : v.category = 1) (hc2 : w.category = 1) : W h k n (pc + 1) Ls (v :: w :: v :: st) :=
  H.step r fun A hx hby q => XS.dupX1 A hx rfl (hb hby hd) rfl hc hc2 q
theorem Wk.istoreN (H : Wk l Z y code mx ret R n0 W V) {i : Fin 4} {v : Int32} (hd : decode code pc = .ok (.istore_n i, 1)) (r : W h k n pc Ls (.int v :: st)) (hl : storeLocals Ls i.val (.int v) = some Ls') : W h k n (pc + 1) Ls' (st) :=
  H.step r fun A hx hby q => XS.istoreN A hx rfl (hb hby hd) rfl hl q
theorem Wk.istore (H : Wk l Z y code mx ret R n0 W V) {i : Nat} {v : Int32} (hd : decode code pc = .ok (.istore i, 2)) (r : W h k n pc Ls (.int v :: st)) (hl : storeLocals Ls i (.int v) = some Ls') : W h k n (pc + 2) Ls' (st) :=
  H.step r fun A hx hby q => XS.istore A hx rfl (hb hby hd) rfl hl q
theorem Wk.lstoreN (H : Wk l Z y code mx ret R n0 W V) {i : Fin 4} {v : Int64} (hd : decode code pc = .ok (.lstore_n i, 1)) (r : W h k n pc Ls (.long v :: st)) (hl : storeLocals Ls i.val (.long v) = some Ls') : W h k n (pc + 1) Ls' (st) :=
  H.step r fun A hx hby q => XS.lstoreN A hx rfl (hb hby hd) rfl hl q
theorem Wk.lstore (H : Wk l Z y code mx ret R n0 W V) {i : Nat} {v : Int64} (hd : decode code pc = .ok (.lstore i, 2)) (r : W h k n pc Ls (.long v :: st)) (hl : storeLocals Ls i (.long v) = some Ls') : W h k n (pc + 2) Ls' (st) :=
  H.step r fun A hx hby q => XS.lstore A hx rfl (hb hby hd) rfl hl q
theorem Wk.astoreN (H : Wk l Z y code mx ret R n0 W V) {i : Fin 4} {v : Value} (hd : decode code pc = .ok (.astore_n i, 1)) (r : W h k n pc Ls (v :: st)) (hv : v.isRef = true) (hl : storeLocals Ls i.val v = some Ls') : W h k n (pc + 1) Ls' (st) :=
  H.step r fun A hx hby q => XS.astoreN A hx rfl (hb hby hd) rfl hv hl q
theorem Wk.astore (H : Wk l Z y code mx ret R n0 W V) {i : Nat} {v : Value} (hd : decode code pc = .ok (.astore i, 2)) (r : W h k n pc Ls (v :: st)) (hv : v.isRef = true) (hl : storeLocals Ls i v = some Ls') : W h k n (pc + 2) Ls' (st) :=
  H.step r fun A hx hby q => XS.astore A hx rfl (hb hby hd) rfl hv hl q
theorem Wk.istoreNS (H : Wk l Z y code mx ret R n0 W V) {i : Fin 4} {v : Int32} {o : Slot} (hd : decode code pc = .ok (.istore_n i, 1)) (r : W h k n pc Ls (.int v :: st)) (hold : Ls[i.val]? = some o) (ho : One o) : W h k n (pc + 1) (Ls.setIfInBounds i.val (.val (.int v))) st :=
  H.step r fun A hx hby q => XS.istoreNS A hx rfl (hb hby hd) rfl hold ho q
theorem Wk.istoreS (H : Wk l Z y code mx ret R n0 W V) {i : Nat} {v : Int32} {o : Slot} (hd : decode code pc = .ok (.istore i, 2)) (r : W h k n pc Ls (.int v :: st)) (hold : Ls[i]? = some o) (ho : One o) : W h k n (pc + 2) (Ls.setIfInBounds i (.val (.int v))) st :=
  H.step r fun A hx hby q => XS.istoreS A hx rfl (hb hby hd) rfl hold ho q
theorem Wk.iinc (H : Wk l Z y code mx ret R n0 W V) {i : Nat} {cst : Int} {v z : Int32} (hd : decode code pc = .ok (.iinc i cst, 3)) (r : W h k n pc Ls (st)) (hz : v + Int32.ofInt cst = z) (hl : Ls[i]? = some (.val (.int v))) (hl' : storeLocals Ls i (.int z) = some Ls') : W h k n (pc + 3) Ls' (st) :=
  H.step r fun A hx hby q => XS.iinc A hx rfl (hb hby hd) hl (hz ▸ hl') q
theorem Wk.goto (H : Wk l Z y code mx ret R n0 W V) {o : Int} (hd : decode code pc = .ok (.goto o, 3)) (r : W h k n pc Ls st) (ho : 0 ≤ (pc : Int) + o) (hp : ((pc : Int) + o).toNat = pc') : W h k n pc' Ls st :=
  H.step r fun A hx hby q => XS.goto A hx rfl rfl (hb hby hd) ho hp q
theorem Wk.ifYes (H : Wk l Z y code mx ret R n0 W V) {cd : ClassFile.Cond} {a : Int32} {o : Int} (hd : decode code pc = .ok (.ifCond cd o, 3)) (r : W h k n pc Ls (.int a :: st)) (ho : 0 ≤ (pc : Int) + o) (hp : ((pc : Int) + o).toNat = pc') (hc : if_icmp.holds cd a 0 = true) : W h k n pc' Ls st :=
  H.step r fun A hx hby q => XS.ifYes A hx rfl rfl (hb hby hd) rfl ((if0 cd a).trans hc) ho hp q
theorem Wk.ifNo (H : Wk l Z y code mx ret R n0 W V) {cd : ClassFile.Cond} {a : Int32} {o : Int} (hd : decode code pc = .ok (.ifCond cd o, 3)) (r : W h k n pc Ls (.int a :: st)) (hc : if_icmp.holds cd a 0 = false) : W h k n (pc + 3) Ls st :=
  H.step r fun A hx hby q => XS.ifNo A hx rfl (hb hby hd) rfl ((if0 cd a).trans hc) q
theorem Wk.icmpYes (H : Wk l Z y code mx ret R n0 W V) {cd : ClassFile.Cond} {a b : Int32} {o : Int} (hd : decode code pc = .ok (.if_icmp cd o, 3)) (r : W h k n pc Ls (.int b :: .int a :: st)) (ho : 0 ≤ (pc : Int) + o) (hp : ((pc : Int) + o).toNat = pc') (hc : if_icmp.holds cd a b = true) : W h k n pc' Ls st :=
  H.step r fun A hx hby q => XS.icmpYes A hx rfl rfl (hb hby hd) rfl hc ho hp q
theorem Wk.icmpNo (H : Wk l Z y code mx ret R n0 W V) {cd : ClassFile.Cond} {a b : Int32} {o : Int} (hd : decode code pc = .ok (.if_icmp cd o, 3)) (r : W h k n pc Ls (.int b :: .int a :: st)) (hc : if_icmp.holds cd a b = false) : W h k n (pc + 3) Ls st :=
  H.step r fun A hx hby q => XS.icmpNo A hx rfl (hb hby hd) rfl hc q
theorem Wk.ifnullYes (H : Wk l Z y code mx ret R n0 W V) {o : Int} (hd : decode code pc = .ok (.ifnull o, 3)) (r : W h k n pc Ls (.null :: st)) (ho : 0 ≤ (pc : Int) + o) (hp : ((pc : Int) + o).toNat = pc') : W h k n pc' Ls st :=
  H.step r fun A hx hby q => XS.ifnullYes A hx rfl rfl (hb hby hd) rfl ho hp q
theorem Wk.ifnullNo (H : Wk l Z y code mx ret R n0 W V) {a : Addr} {o : Int} (hd : decode code pc = .ok (.ifnull o, 3)) (r : W h k n pc Ls (.ref a :: st)) : W h k n (pc + 3) Ls st :=
  H.step r fun A hx hby q => XS.ifnullNo A hx rfl (hb hby hd) rfl q
theorem Wk.ifnonnullYes (H : Wk l Z y code mx ret R n0 W V) {a : Addr} {o : Int} (hd : decode code pc = .ok (.ifnonnull o, 3)) (r : W h k n pc Ls (.ref a :: st)) (ho : 0 ≤ (pc : Int) + o) (hp : ((pc : Int) + o).toNat = pc') : W h k n pc' Ls st :=
  H.step r fun A hx hby q => XS.ifnonnullYes A hx rfl rfl (hb hby hd) rfl ho hp q
theorem Wk.ifnonnullNo (H : Wk l Z y code mx ret R n0 W V) {o : Int} (hd : decode code pc = .ok (.ifnonnull o, 3)) (r : W h k n pc Ls (.null :: st)) : W h k n (pc + 3) Ls st :=
  H.step r fun A hx hby q => XS.ifnonnullNo A hx rfl (hb hby hd) rfl q
theorem Wk.acmpYes (H : Wk l Z y code mx ret R n0 W V) {cd : ClassFile.ACond} {a b : Value} {o : Int} (hd : decode code pc = .ok (.if_acmp cd o, 3)) (r : W h k n pc Ls (b :: a :: st)) (ho : 0 ≤ (pc : Int) + o) (hp : ((pc : Int) + o).toNat = pc') (ha : a.isRef = true) (hb' : b.isRef = true) (hc : XT.acmp cd a b = true) : W h k n pc' Ls st :=
  H.step r fun A hx hby q => XT.acmpYes A hx rfl rfl (hb hby hd) rfl ha hb' hc ho hp q
theorem Wk.acmpNo (H : Wk l Z y code mx ret R n0 W V) {cd : ClassFile.ACond} {a b : Value} {o : Int} (hd : decode code pc = .ok (.if_acmp cd o, 3)) (r : W h k n pc Ls (b :: a :: st)) (ha : a.isRef = true) (hb' : b.isRef = true) (hc : XT.acmp cd a b = false) : W h k n (pc + 3) Ls st :=
  H.step r fun A hx hby q => XT.acmpNo A hx rfl (hb hby hd) rfl ha hb' hc q
theorem Wk.lookHit (H : Wk l Z y code mx ret R n0 W V) {z : Int32} {dflt : Int} {pairs : Array (Int × Int)} {len : Nat} {a off : Int} (hsorted : (pairs.toList.zip (pairs.toList.drop 1)).all (fun (a, next) => a.1 < next.1) = true) (hfind : pairs.find? (·.1 == z.toInt) = some (a, off)) (ho : 0 ≤ (pc : Int) + off) (hp : ((pc : Int) + off).toNat = pc') (hd : decode code pc = .ok (.lookupswitch dflt pairs, len)) (r : W h k n pc Ls (.int z :: st)) : W h k n pc' Ls st := by
  subst hp
  exact H.stepX r fun X hx hby hml hown hZ eT => ⟨_, X, eT, fun t q => X.lookupswitchHit hx (g := mkF _ pc Ls (.int z :: st)) rfl rfl (hb hby hd) hsorted hfind ho t q⟩
theorem Wk.lookMiss (H : Wk l Z y code mx ret R n0 W V) {z : Int32} {dflt : Int} {pairs : Array (Int × Int)} {len : Nat} (hsorted : (pairs.toList.zip (pairs.toList.drop 1)).all (fun (a, next) => a.1 < next.1) = true) (hfind : pairs.find? (·.1 == z.toInt) = none) (ho : 0 ≤ (pc : Int) + dflt) (hp : ((pc : Int) + dflt).toNat = pc') (hd : decode code pc = .ok (.lookupswitch dflt pairs, len)) (r : W h k n pc Ls (.int z :: st)) : W h k n pc' Ls st := by
  subst hp
  exact H.stepX r fun X hx hby hml hown hZ eT => ⟨_, X, eT, fun t q => X.lookupswitchMiss hx (g := mkF _ pc Ls (.int z :: st)) rfl rfl (hb hby hd) hsorted hfind ho t q⟩
theorem Wk.getS (H : Wk l Z y code mx ret R n0 W V) {i : Nat} {O nm d : String} {v : Value} (w : (Jvm.Cond.fieldLink y.cls i O nm d).before a0 Z = true) (F : Sta Z h O nm d v) (hd : decode code pc = .ok (.getstatic i, 3)) (r : W h k n pc Ls st) : W h k n (pc + 3) Ls (v :: st) :=
  H.stepX r fun X hx hby hml hown hZ eT => RoadKit.getS X hx hZ (host := "") hown w Via.refl eT F (g := mkF _ pc Ls st) rfl (hb hby hd)
theorem Wk.instY (H : Wk l Z y code mx ret R n0 W V) {i : Nat} {K : String} {a : Addr} (w : (Jvm.Cond.classLink y.cls i K).before a0 Z = true) (F : Ins Z h a K true) (hd : decode code pc = .ok (.instanceof i, 3)) (r : W h k n pc Ls (.ref a :: st)) : W h k n (pc + 3) Ls (.int 1 :: st) :=
  H.stepX r fun X hx hby hml hown hZ eT => RoadKit.instY X hx hZ hown w eT F (g := mkF _ pc Ls (.ref a :: st)) rfl rfl (hb hby hd)
theorem Wk.instNo (H : Wk l Z y code mx ret R n0 W V) {i : Nat} {K C : String} {a : Addr} (w : (Jvm.Cond.classLink y.cls i K).before a0 Z = true) (E : Exa Z h a C) (F : ∃ c t, Z.vm.findClass C = some c ∧ Z.vm.findClass K = some t ∧ Z.vm.assignable c t = false) (hd : decode code pc = .ok (.instanceof i, 3)) (r : W h k n pc Ls (.ref a :: st)) : W h k n (pc + 3) Ls (.int 0 :: st) :=
  H.stepX r fun X hx hby hml hown hZ eT => RoadKit.instNo X hx hZ hown w eT E F (g := mkF _ pc Ls (.ref a :: st)) rfl rfl (hb hby hd)
theorem Wk.instNull (H : Wk l Z y code mx ret R n0 W V) {i : Nat} (hd : decode code pc = .ok (.instanceof i, 3)) (r : W h k n pc Ls (.null :: st)) : W h k n (pc + 3) Ls (.int 0 :: st) :=
  H.stepX r fun X hx hby hml hown hZ eT => ⟨_, X, eT, X.instanceofNull hx (g := mkF _ pc Ls (.null :: st)) rfl rfl (hb hby hd)⟩
theorem Wk.castY (H : Wk l Z y code mx ret R n0 W V) {i : Nat} {K : String} {a : Addr} (w : (Jvm.Cond.classLink y.cls i K).before a0 Z = true) (F : Ins Z h a K true) (hd : decode code pc = .ok (.checkcast i, 3)) (r : W h k n pc Ls (.ref a :: st)) : W h k n (pc + 3) Ls (.ref a :: st) :=
  H.stepX r fun X hx hby hml hown hZ eT => RoadKit.castY X hx hZ hown w eT F (g := mkF _ pc Ls (.ref a :: st)) rfl rfl (hb hby hd)
theorem Wk.castNull (H : Wk l Z y code mx ret R n0 W V) {i : Nat} (hd : decode code pc = .ok (.checkcast i, 3)) (r : W h k n pc Ls (.null :: st)) : W h k n (pc + 3) Ls (.null :: st) :=
  H.stepX r fun X hx hby hml hown hZ eT => ⟨_, X, eT, X.checkcastNull hx (g := mkF _ pc Ls (.null :: st)) rfl rfl (hb hby hd)⟩
theorem Wk.ldcInt (H : Wk l Z y code mx ret R n0 W V) {i : Nat} {v : Int32} (hd : decode code pc = .ok (.ldc i, 2)) (r : W h k n pc Ls st) (w : (Jvm.Cond.constant y.cls i v).before a0 Z = true) : W h k n (pc + 2) Ls (.int v :: st) :=
  H.stepX r fun X hx hby hml hown hZ eT => ⟨_, X, eT, X.ldcInt hx hown (mvT hZ w) (g := mkF _ pc Ls st) rfl (hb hby hd)⟩
theorem Wk.ldcWInt (H : Wk l Z y code mx ret R n0 W V) {i : Nat} {v : Int32} (hd : decode code pc = .ok (.ldc_w i, 3)) (r : W h k n pc Ls st) (w : (Jvm.Cond.constant y.cls i v).before a0 Z = true) : W h k n (pc + 3) Ls (.int v :: st) :=
  H.stepX r fun {p e s m args below meth c T locs} X hx hby hml hown hZ eT => ⟨T, X, eT, fun t q => by
    obtain ⟨kc, cf, bytes, hk, hcf, hcp, hb'⟩ := Cond.constant_spec hown (mvT (args := args) hZ w)
    obtain ⟨k', hk', he⟩ := X.warmed.alike.2.2 _ _ hk
    have hdg := hb hby hd
    show Steps p.tables e below (T.setTop (mkF m pc Ls st)) t
    jvm_step X.here [hx, hdg, ldc_w.wp_int (s := T) (f := mkF m pc Ls st) X.here.top hk' (by rw [he]; exact hcf) hcp, hb']
    exact q⟩
theorem Wk.ldcFloat (H : Wk l Z y code mx ret R n0 W V) {i : Nat} {v : UInt32} (w : (Jvm.Cond.constantFloat y.cls i v).before a0 Z = true) (hd : decode code pc = .ok (.ldc i, 2)) (r : W h k n pc Ls st) : W h k n (pc + 2) Ls (.float v :: st) :=
  H.stepX r fun X hx hby hml hown hZ eT => ⟨_, X, eT, X.ldcFloatC hx hown (mvT hZ w) (g := mkF _ pc Ls st) rfl (hb hby hd)⟩
theorem Wk.ldcLong (H : Wk l Z y code mx ret R n0 W V) {i : Nat} {v : Int64} (hd : decode code pc = .ok (.ldc2_w i, 3)) (r : W h k n pc Ls st) (w : (Jvm.Cond.constantLong y.cls i v).before a0 Z = true) : W h k n (pc + 3) Ls (.long v :: st) :=
  H.stepX r fun X hx hby hml hown hZ eT => ⟨_, X, eT, X.ldc2Long hx hown (mvT hZ w) (g := mkF _ pc Ls st) rfl (hb hby hd)⟩
theorem Wk.getF (H : Wk l Z y code mx ret R n0 W V) {i : Nat} {R0 O nm d host : String} {a : Addr} {v : Value} (w : (Jvm.Cond.fieldLink y.cls i R0 nm d).before a0 Z = true ∨ (Jvm.Cond.fieldLinkNest y.cls i R0 nm d host).before a0 Z = true) (via : Via Z R0 O nm d) (F : Fld Z h a O nm d v) (hd : decode code pc = .ok (.getfield i, 3)) (r : W h k n pc Ls (.ref a :: st)) : W h k n (pc + 3) Ls (v :: st) :=
  H.stepX r fun X hx hby hml hown hZ eT => RoadKit.getF X hx hZ hown w via eT F (g := mkF _ pc Ls (.ref a :: st)) rfl rfl (hb hby hd)
theorem Wk.getF' (H : Wk l Z y code mx ret R n0 W V) {i : Nat} {O nm d : String} {a : Addr} {v : Value} (w : (Jvm.Cond.fieldLink y.cls i O nm d).before a0 Z = true) (F : Fld Z h a O nm d v) (hd : decode code pc = .ok (.getfield i, 3)) (r : W h k n pc Ls (.ref a :: st)) : W h k n (pc + 3) Ls (v :: st) :=
  H.getF (host := "") (Or.inl w) Via.refl F hd r
theorem Wk.putF (H : Wk l Z y code mx ret R n0 W V) {i kk : Nat} {R0 O nm d host C : String} {ty : FieldType} {a : Addr} {v old : Value} (w : (Jvm.Cond.fieldLink y.cls i R0 nm d).before a0 Z = true ∨ (Jvm.Cond.fieldLinkNest y.cls i R0 nm d host).before a0 Z = true) (via : Via Z R0 O nm d) (F : Fld Z h a O nm d old) (E : Exa Z h a C) (L : (Jvm.Cond.lays C O nm d).before a0 Z = true ∨ ((Jvm.Cond.laysFinal C O nm d).before a0 Z = true ∧ y.cls = O ∧ y.name = "<init>")) (wi : (Jvm.Cond.instantiable C kk).before a0 Z = true)
    (hty : parseFieldDescriptor d = some ty) (hn : narrow ty v = v) (hf : fits ty v = true) (hn0 : n0 ≤ a) (hd : decode code pc = .ok (.putfield i, 3)) (r : W h k n pc Ls (v :: .ref a :: st)) : ∃ h', Wr h h' a (Jvm.RoadKit.slotOf Z O nm d) v ∧ W h' k n (pc + 3) Ls st := by
  obtain ⟨p, e, s, m, args, below, meth, c, S0, hx, hby, hml, hown, hZ, hnm, hret, hlk, rfl, rfl⟩ := H
  obtain ⟨T, locs, X, eh, N, sp⟩ := r
  obtain ⟨T', h', X', e', W', q⟩ := RoadKit.putF X hx hZ hown w via eh F E (L.imp id fun u => ⟨u.1, u.2.1, by rw [hnm]; exact u.2.2⟩) wi hty hn hf (g := mkF m pc Ls (v :: .ref a :: st)) rfl rfl (hb hby hd)
  exact ⟨h', W', T', _, X', e', Fr.snoc X' N hn0, fun t u => sp t (q t u)⟩
theorem Wk.newO (H : Wk l Z y code mx ret R n0 W V) {i q : Nat} {C : String} (w : (Jvm.Cond.classLink y.cls i C).before a0 Z = true) (wi : (Jvm.Cond.instantiable C q).before a0 Z = true) (wz : (Jvm.Cond.initialized C).before a0 Z = true) (hc : k + 1 ≤ R.cells) (hl : n + q ≤ R.slots) (hd : decode code pc = .ok (.new i, 3)) (r : W h k n pc Ls st) :
    ∃ h' a, a = h.size ∧ Ext h h' ∧ Exa Z h' a C ∧ (∀ {O nm d : String} {ty : FieldType}, Laid Z a0 C O nm d → parseFieldDescriptor d = some ty → Fld Z h' a O nm d (defaultValue ty)) ∧ (∃ cell : Cell, h'[a]? = some cell ∧ cell.vm = .none ∧ cell.monitor = {}) ∧ W h' (k + 1) (n + q) (pc + 3) Ls (.ref a :: st) := by
  obtain ⟨p, e, s, m, args, below, meth, c, S0, hx, hby, hml, hown, hZ, hnm, hret, hlk, rfl, rfl⟩ := H
  obtain ⟨T, locs, X, eh, N, sp⟩ := r
  obtain ⟨T', h', X', e', E', A', D', U', q'⟩ := RoadKit.newO X hx hZ hown w wi wz eh (g := mkF m pc Ls st) rfl (hb hby hd) hc hl
  exact ⟨h', _, rfl, E', A', D', U', T', _, X', e', N, fun t u => sp t (q' t u)⟩
theorem Wk.newP (H : Wk l Z y code mx ret R n0 W V) {aty : ArrayType} {ty : FieldType} {z : Int32} {cap : Nat} (hty : newarray.typeOf aty = ty) (w : (Jvm.Cond.arrayClass ty).before a0 Z = true) (hn : ¬ z < 0) (hcap : z.toNatClampNeg ≤ cap) (hb8 : cap * 8 ≤ 536870912) (hc : k + 1 ≤ R.cells) (hl : n + cap ≤ R.slots) (hd : decode code pc = .ok (.newarray aty, 2)) (r : W h k n pc Ls (.int z :: st)) :
    ∃ h' a cA, a = h.size ∧ Ext h h' ∧ Arr Z h' a (newA cA ty z) ty ∧ W h' (k + 1) (n + cap) (pc + 2) Ls (.ref a :: st) := by
  subst hty
  obtain ⟨p, e, s, m, args, below, meth, c, S0, hx, hby, hml, hown, hZ, hnm, hret, hlk, rfl, rfl⟩ := H
  obtain ⟨T, locs, X, eh, N, sp⟩ := r
  obtain ⟨T', h', cA, X', e', E', A', q'⟩ := RoadKit.newP X hx hZ w eh (g := mkF m pc Ls (.int z :: st)) rfl (hb hby hd) rfl hn hcap hb8 hc hl
  exact ⟨h', _, cA, rfl, E', A', T', _, X', e', N, fun t u => sp t (q' t u)⟩
theorem Wk.arrLen (H : Wk l Z y code mx ret R n0 W V) {a : Addr} {cl : Cell} {ty : FieldType} {z : Int32} (A : Arr Z h a cl ty) (hz : cl.slots.size.toInt32 = z) (hd : decode code pc = .ok (.arraylength, 1)) (r : W h k n pc Ls (.ref a :: st)) : W h k n (pc + 1) Ls (.int z :: st) := by
  subst hz
  exact H.stepX r fun X hx hby hml hown hZ eT => ⟨_, X, eT, X.arraylength hx (by rw [eT]; exact A.1) (State.isArrayOf_alike hZ.alike A.2.1) (g := mkF _ pc Ls (.ref a :: st)) rfl rfl (hb hby hd)⟩
theorem Wk.iaload (H : Wk l Z y code mx ret R n0 W V) {a : Addr} {cl : Cell} {j : Int32} {v : Value} (A : Arr Z h a cl .int) (hin : ¬ (j < 0 ∨ cl.slots.size ≤ j.toNatClampNeg)) (hv : cl.slots[j.toNatClampNeg]? = some v) (hd : decode code pc = .ok (.iaload, 1)) (r : W h k n pc Ls (.int j :: .ref a :: st)) : W h k n (pc + 1) Ls (v :: st) :=
  H.stepX r fun X hx hby hml hown hZ eT => ⟨_, X, eT, X.iaload hx (by rw [eT]; exact A.1) (State.isArrayOf_alike hZ.alike A.2.1) A.2.2 hin hv (g := mkF _ pc Ls (.int j :: .ref a :: st)) rfl rfl (hb hby hd)⟩
theorem Wk.laload (H : Wk l Z y code mx ret R n0 W V) {a : Addr} {cl : Cell} {j : Int32} {v : Value} (A : Arr Z h a cl .long) (hin : ¬ (j < 0 ∨ cl.slots.size ≤ j.toNatClampNeg)) (hv : cl.slots[j.toNatClampNeg]? = some v) (hd : decode code pc = .ok (.laload, 1)) (r : W h k n pc Ls (.int j :: .ref a :: st)) : W h k n (pc + 1) Ls (v :: st) :=
  H.stepX r fun X hx hby hml hown hZ eT => ⟨_, X, eT, X.laload hx (by rw [eT]; exact A.1) (State.isArrayOf_alike hZ.alike A.2.1) A.2.2 hin hv (g := mkF _ pc Ls (.int j :: .ref a :: st)) rfl rfl (hb hby hd)⟩
theorem Wk.caload (H : Wk l Z y code mx ret R n0 W V) {a : Addr} {cl : Cell} {j : Int32} {v : Value} (A : Arr Z h a cl .char) (hin : ¬ (j < 0 ∨ cl.slots.size ≤ j.toNatClampNeg)) (hv : cl.slots[j.toNatClampNeg]? = some v) (hd : decode code pc = .ok (.caload, 1)) (r : W h k n pc Ls (.int j :: .ref a :: st)) : W h k n (pc + 1) Ls (v :: st) :=
  H.stepX r fun X hx hby hml hown hZ eT => ⟨_, X, eT, X.caload hx (by rw [eT]; exact A.1) (State.isArrayOf_alike hZ.alike A.2.1) A.2.2 hin hv (g := mkF _ pc Ls (.int j :: .ref a :: st)) rfl rfl (hb hby hd)⟩
theorem Wk.baload (H : Wk l Z y code mx ret R n0 W V) {a : Addr} {cl : Cell} {j : Int32} {v : Value} (A : Arr Z h a cl .byte) (hin : ¬ (j < 0 ∨ cl.slots.size ≤ j.toNatClampNeg)) (hv : cl.slots[j.toNatClampNeg]? = some v) (hd : decode code pc = .ok (.baload, 1)) (r : W h k n pc Ls (.int j :: .ref a :: st)) : W h k n (pc + 1) Ls (v :: st) :=
  H.stepX r fun X hx hby hml hown hZ eT => ⟨_, X, eT, X.baloadBytes hx (by rw [eT]; exact A.1) (State.isArrayOf_alike hZ.alike A.2.1) A.2.2 hin hv (g := mkF _ pc Ls (.int j :: .ref a :: st)) rfl rfl (hb hby hd)⟩
theorem Wk.aaload (H : Wk l Z y code mx ret R n0 W V) {a : Addr} {cl : Cell} {ty : FieldType} {j : Int32} {v : Value} (A : Arr Z h a cl ty) (hty : ty.isReference = true) (hin : ¬ (j < 0 ∨ cl.slots.size ≤ j.toNatClampNeg)) (hv : cl.slots[j.toNatClampNeg]? = some v) (hd : decode code pc = .ok (.aaload, 1)) (r : W h k n pc Ls (.int j :: .ref a :: st)) : W h k n (pc + 1) Ls (v :: st) :=
  H.stepX r fun X hx hby hml hown hZ eT => ⟨_, X, eT, X.aaload hx (by rw [eT]; exact A.1) (State.isArrayOf_alike hZ.alike A.2.1) hty A.2.2 hin hv (g := mkF _ pc Ls (.int j :: .ref a :: st)) rfl rfl (hb hby hd)⟩
theorem Wk.stI (H : Wk l Z y code mx ret R n0 W V) {a : Addr} {cl : Cell} {j : Int32} {x : Int32} (A : Arr Z h a cl .int) (hin : ¬ (j < 0 ∨ cl.slots.size ≤ j.toNatClampNeg)) (hn0 : n0 ≤ a) (hd : decode code pc = .ok (.iastore, 1)) (r : W h k n pc Ls (.int x :: .int j :: .ref a :: st)) : ∃ h', Wr h h' a j.toNatClampNeg (.int x) ∧ W h' k n (pc + 1) Ls st := by
  obtain ⟨p, e, s, m, args, below, meth, c, S0, hx, hby, hml, hown, hZ, hnm, hret, hlk, rfl, rfl⟩ := H
  obtain ⟨T, locs, X, eh, N, sp⟩ := r
  obtain ⟨T', h', X', e', W', q⟩ := RoadKit.stI X hx hZ eh A hin (g := mkF m pc Ls (.int x :: .int j :: .ref a :: st)) rfl rfl (hb hby hd)
  exact ⟨h', W', T', _, X', e', Fr.snoc X' N hn0, fun t u => sp t (q t u)⟩
theorem Wk.stJ (H : Wk l Z y code mx ret R n0 W V) {a : Addr} {cl : Cell} {j : Int32} {x : Int64} (A : Arr Z h a cl .long) (hin : ¬ (j < 0 ∨ cl.slots.size ≤ j.toNatClampNeg)) (hn0 : n0 ≤ a) (hd : decode code pc = .ok (.lastore, 1)) (r : W h k n pc Ls (.long x :: .int j :: .ref a :: st)) : ∃ h', Wr h h' a j.toNatClampNeg (.long x) ∧ W h' k n (pc + 1) Ls st := by
  obtain ⟨p, e, s, m, args, below, meth, c, S0, hx, hby, hml, hown, hZ, hnm, hret, hlk, rfl, rfl⟩ := H
  obtain ⟨T, locs, X, eh, N, sp⟩ := r
  obtain ⟨T', h', X', e', W', q⟩ := RoadKit.stJ X hx hZ eh A hin (g := mkF m pc Ls (.long x :: .int j :: .ref a :: st)) rfl rfl (hb hby hd)
  exact ⟨h', W', T', _, X', e', Fr.snoc X' N hn0, fun t u => sp t (q t u)⟩
theorem Wk.stC (H : Wk l Z y code mx ret R n0 W V) {a : Addr} {cl : Cell} {j : Int32} {x : Int32} (A : Arr Z h a cl .char) (hin : ¬ (j < 0 ∨ cl.slots.size ≤ j.toNatClampNeg)) (hn0 : n0 ≤ a) (hd : decode code pc = .ok (.castore, 1)) (r : W h k n pc Ls (.int x :: .int j :: .ref a :: st)) : ∃ h', Wr h h' a j.toNatClampNeg (.int (nar .char x)) ∧ W h' k n (pc + 1) Ls st := by
  obtain ⟨p, e, s, m, args, below, meth, c, S0, hx, hby, hml, hown, hZ, hnm, hret, hlk, rfl, rfl⟩ := H
  obtain ⟨T, locs, X, eh, N, sp⟩ := r
  obtain ⟨T', h', X', e', W', q⟩ := RoadKit.stC X hx hZ eh A hin (g := mkF m pc Ls (.int x :: .int j :: .ref a :: st)) rfl rfl (hb hby hd)
  exact ⟨h', W', T', _, X', e', Fr.snoc X' N hn0, fun t u => sp t (q t u)⟩
theorem Wk.stB (H : Wk l Z y code mx ret R n0 W V) {a : Addr} {cl : Cell} {j : Int32} {x : Int32} (A : Arr Z h a cl .byte) (hin : ¬ (j < 0 ∨ cl.slots.size ≤ j.toNatClampNeg)) (hn0 : n0 ≤ a) (hd : decode code pc = .ok (.bastore, 1)) (r : W h k n pc Ls (.int x :: .int j :: .ref a :: st)) : ∃ h', Wr h h' a j.toNatClampNeg (.int (nar .byte x)) ∧ W h' k n (pc + 1) Ls st := by
  obtain ⟨p, e, s, m, args, below, meth, c, S0, hx, hby, hml, hown, hZ, hnm, hret, hlk, rfl, rfl⟩ := H
  obtain ⟨T, locs, X, eh, N, sp⟩ := r
  obtain ⟨T', h', X', e', W', q⟩ := RoadKit.stB X hx hZ eh A hin (g := mkF m pc Ls (.int x :: .int j :: .ref a :: st)) rfl rfl (hb hby hd)
  exact ⟨h', W', T', _, X', e', Fr.snoc X' N hn0, fun t u => sp t (q t u)⟩
theorem Wk.initO (H : Wk l Z y code mx ret R n0 W V) {i w : Nat} {a : Addr} (w1 : (Jvm.Cond.methodLink y.cls i Lib.objectInit).before a0 Z = true) (w2 : (Jvm.Cond.instanceMethod Lib.objectInit).before a0 Z = true) (w3 : (Jvm.Cond.code Lib.objectInit ⟨#[0xb1]⟩ 1 none).before a0 Z = true) (hsz : Ls.size = mx) (hf : 1 ≤ R.frames) (hw : (st.map fun v => v.category).sum ≤ w) (hl : w + 12 ≤ R.locals) (hd : decode code pc = .ok (.invokespecial i, 3)) (r : W h k n pc Ls (.ref a :: st)) : W h k n (pc + 3) Ls st :=
  H.stepX r fun X hx hby hml hown hZ eT => RoadKit.initO X hx hZ hown w1 w2 w3 eT (g := mkF _ pc Ls (.ref a :: st)) rfl (by rw [hml]; exact hsz) rfl (hb hby hd) hf (by show 2 * 0 + _ ≤ _; omega) hl
variable {y' : MethodName} {bytes' : ByteArray} {mx' : Nat} {ret' : Option FieldType} {rm' : Room} {as' : Array Value} {Q : Option Value → Heap → Prop} {i w : Nat} {ps : List FieldType} {rt : Option FieldType} {argsL rest : List Value}
theorem Wk.callS (H : Wk l Z y code mx ret R n0 W V) (w1 : (Jvm.Cond.methodLink y.cls i y').before a0 Z = true) (w2 : (Jvm.Cond.static y').before a0 Z = true) (w3 : (Jvm.Cond.initialized y'.cls).before a0 Z = true) (w4 : (Jvm.Cond.code y' bytes' mx' ret').before a0 Z = true) (hy : y'.cls ≠ "java/lang/invoke/MethodHandle" ∧ y'.cls ≠ "java/lang/invoke/VarHandle")
    (hpd : parseMethodDescriptor y'.desc = some ⟨ps, rt⟩) (hf : rm'.frames + 1 ≤ R.frames) (hl : w + (mx' + 11) + rm'.locals ≤ R.locals) (hc : k + rm'.cells ≤ R.cells) (hn : n + rm'.slots ≤ R.slots) (hM : Ct l Z y' bytes' mx' ret' rm' n0 argsL.toArray h Q) (hlen : argsL.length = ps.length) (hsz : Ls.size = mx) (hw : (rest.map fun v => v.category).sum ≤ w) (hst : st = argsL.reverse ++ rest) (hd : decode code pc = .ok (.invokestatic i, 3)) (r : W h k n pc Ls st) :
    ∃ v h', Q v h' ∧ W h' (k + rm'.cells) (n + rm'.slots) (pc + 3) Ls (v.toList ++ rest) := by
  subst hst
  obtain ⟨p, e, s, m, args, below, meth, c, S0, hx, hby, hml, hown, hZ, hnm, hret, hlk, rfl, rfl⟩ := H
  obtain ⟨T, locs, X, eh, N, sp⟩ := r
  obtain ⟨v, _, ⟨T1, L1, k1, n1⟩, -, X1, ⟨Lc, hQ, g1, g2, g3⟩, st1⟩ := Jvm.LawKit.callS X hx (y := y') hown (mvT hZ w1) (mvT hZ w2) (mvT hZ w3) (mvT hZ w4) hy (backOf (W := w) (Q := fun v hh L => Q v hh ∧ Fr n0 L) (hM []) hZ w4 w3 hf hl) (g := mkF m pc Ls (argsL.reverse ++ rest)) rfl (by rw [hml]; exact hsz) (argsL := argsL) (rest := rest) (lenOf hpd hlen) rfl (by show 2 * 0 + _ ≤ _; omega) (hb hby hd) (fun _ _ => ⟨rfl, eh, hc, hn⟩)
  dsimp only [Pt.U, Pt.locs, Pt.cells, Pt.slots] at X1 g1 g2 g3 st1 hQ
  subst g1 g2 g3
  exact ⟨v, T1.heap, hQ.1, T1, _, X1, rfl, Fr.app N hQ.2, fun t u => sp t (st1 t u)⟩
theorem Wk.callI (H : Wk l Z y code mx ret R n0 W V) {a : Addr} (hi : y'.name = "<init>") (w1 : (Jvm.Cond.methodLink y.cls i y').before a0 Z = true) (w2 : (Jvm.Cond.instanceMethod y').before a0 Z = true) (w3 : (Jvm.Cond.initialized y'.cls).before a0 Z = true) (w4 : (Jvm.Cond.code y' bytes' mx' none).before a0 Z = true) (hy : y'.cls ≠ "java/lang/invoke/MethodHandle" ∧ y'.cls ≠ "java/lang/invoke/VarHandle")
    (hpd : parseMethodDescriptor y'.desc = some ⟨ps, rt⟩) (hf : rm'.frames + 1 ≤ R.frames) (hl : w + (mx' + 11) + rm'.locals ≤ R.locals) (hc : k + rm'.cells ≤ R.cells) (hn : n + rm'.slots ≤ R.slots) (hM : Ct l Z y' bytes' mx' none rm' n0 (.ref a :: argsL).toArray h Q) (hlen : argsL.length = ps.length) (hsz : Ls.size = mx) (hw : (rest.map fun v => v.category).sum ≤ w) (hst : st = argsL.reverse ++ .ref a :: rest) (hd : decode code pc = .ok (.invokespecial i, 3)) (r : W h k n pc Ls st) :
    ∃ v h', Q v h' ∧ W h' (k + rm'.cells) (n + rm'.slots) (pc + 3) Ls (v.toList ++ rest) := by
  subst hst
  obtain ⟨p, e, s, m, args, below, meth, c, S0, hx, hby, hml, hown, hZ, hnm, hret, hlk, rfl, rfl⟩ := H
  obtain ⟨T, locs, X, eh, N, sp⟩ := r
  obtain ⟨v, _, ⟨T1, L1, k1, n1⟩, -, X1, ⟨Lc, hQ, g1, g2, g3⟩, st1⟩ := X.specialBack hx (y := y') hi hown (mvT hZ w1) (mvT hZ w2) (mvT hZ w4) hy (backOf (W := w) (Q := fun v hh L => Q v hh ∧ Fr n0 L) (hM []) hZ w4 w3 hf hl) (g := mkF m pc Ls (argsL.reverse ++ .ref a :: rest)) rfl (by rw [hml]; exact hsz) (Steps.refl _) (a := a) (argsL := argsL) (rest := rest) (lenOf hpd hlen) rfl (by show 2 * 0 + _ ≤ _; omega) (hb hby hd) (fun _ _ => ⟨rfl, eh, hc, hn⟩)
  dsimp only [Pt.U, Pt.locs, Pt.cells, Pt.slots] at X1 g1 g2 g3 st1 hQ
  subst g1 g2 g3
  exact ⟨v, T1.heap, hQ.1, T1, _, X1, rfl, Fr.app N hQ.2, fun t u => sp t (st1.trans u)⟩
theorem Wk.callV (H : Wk l Z y code mx ret R n0 W V) {a : Addr} {C : String} {z' : MethodName} (w1 : (Jvm.Cond.methodLink y.cls i z').before a0 Z = true) (w2 : (Jvm.Cond.declares z').before a0 Z = true) (nf : NF Z a0 z') (w5 : (Jvm.Cond.selects C z' y').before a0 Z = true) (w6 : (Jvm.Cond.instanceMethod y').before a0 Z = true) (w3 : (Jvm.Cond.initialized y'.cls).before a0 Z = true) (w4 : (Jvm.Cond.code y' bytes' mx' ret').before a0 Z = true) (hy : z'.cls ≠ "java/lang/invoke/MethodHandle" ∧ z'.cls ≠ "java/lang/invoke/VarHandle")
    (hpd : parseMethodDescriptor z'.desc = some ⟨ps, rt⟩) (hf : rm'.frames + 1 ≤ R.frames) (hl : w + (mx' + 11) + rm'.locals ≤ R.locals) (hc : k + rm'.cells ≤ R.cells) (hn : n + rm'.slots ≤ R.slots) (E : Exa Z h a C) (hM : Ct l Z y' bytes' mx' ret' rm' n0 (.ref a :: argsL).toArray h Q) (hlen : argsL.length = ps.length) (hsz : Ls.size = mx) (hw : (rest.map fun v => v.category).sum ≤ w) (hst : st = argsL.reverse ++ .ref a :: rest) (hd : decode code pc = .ok (.invokevirtual i, 3)) (r : W h k n pc Ls st) :
    ∃ v h', Q v h' ∧ W h' (k + rm'.cells) (n + rm'.slots) (pc + 3) Ls (v.toList ++ rest) := by
  subst hst
  obtain ⟨p, e, s, m, args, below, meth, c, S0, hx, hby, hml, hown, hZ, hnm, hret, hlk, rfl, rfl⟩ := H
  obtain ⟨T, locs, X, eh, N, sp⟩ := r
  obtain ⟨cq, kq, qa, qb, qc⟩ := isOf (s := s) (T := T) hZ eh E
  obtain ⟨v, _, ⟨T1, L1, k1, n1⟩, -, X1, ⟨Lc, hQ, g1, g2, g3⟩, st1⟩ := X.virtualBack hx (y := z') (z := y') hown (mvT hZ w1) (mvT hZ w2) (nf.at hZ) (mvT hZ w5) (mvT hZ w6) hy (backOf (W := w) (Q := fun v hh L => Q v hh ∧ Fr n0 L) (hM []) hZ w4 w3 hf hl) qa qc (g := mkF m pc Ls (argsL.reverse ++ .ref a :: rest)) rfl (by rw [hml]; exact hsz) (Steps.refl _) (argsL := argsL) (rest := rest) (lenOf hpd hlen) rfl (by show 2 * 0 + _ ≤ _; omega) (hb hby hd) (fun _ _ => ⟨rfl, eh, hc, hn⟩)
  dsimp only [Pt.U, Pt.locs, Pt.cells, Pt.slots] at X1 g1 g2 g3 st1 hQ
  subst g1 g2 g3
  exact ⟨v, T1.heap, hQ.1, T1, _, X1, rfl, Fr.app N hQ.2, fun t u => sp t (st1.trans u)⟩
theorem Wk.callSP (H : Wk l Z y code mx ret R n0 W V) {v0 : Option Value} (w1 : (Jvm.Cond.methodLink y.cls i y').before a0 Z = true) (w2 : (Jvm.Cond.static y').before a0 Z = true) (w3 : (Jvm.Cond.initialized y'.cls).before a0 Z = true) (w4 : (Jvm.Cond.code y' bytes' mx' ret').before a0 Z = true) (hy : y'.cls ≠ "java/lang/invoke/MethodHandle" ∧ y'.cls ≠ "java/lang/invoke/VarHandle")
    (hpd : parseMethodDescriptor y'.desc = some ⟨ps, rt⟩) (hf : rm'.frames + 1 ≤ R.frames) (hl : w + (mx' + 11) + rm'.locals ≤ R.locals) (hc : k + rm'.cells ≤ R.cells) (hn : n + rm'.slots ≤ R.slots) (hM : Ct l Z y' bytes' mx' ret' rm' n0 argsL.toArray h (fun v h' => v = v0 ∧ h' = h)) (hlen : argsL.length = ps.length) (hsz : Ls.size = mx) (hw : (rest.map fun v => v.category).sum ≤ w) (hst : st = argsL.reverse ++ rest) (hd : decode code pc = .ok (.invokestatic i, 3)) (r : W h k n pc Ls st) :
    W h (k + rm'.cells) (n + rm'.slots) (pc + 3) Ls (v0.toList ++ rest) := by
  obtain ⟨v, h', ⟨e1, e2⟩, r'⟩ := H.callS w1 w2 w3 w4 hy hpd hf hl hc hn hM hlen hsz hw hst hd r
  rw [← e1, ← e2]
  rw [e2] at r' ⊢
  exact r'
theorem Wk.callVP (H : Wk l Z y code mx ret R n0 W V) {v0 : Option Value} {a : Addr} {C : String} {z' : MethodName} (w1 : (Jvm.Cond.methodLink y.cls i z').before a0 Z = true) (w2 : (Jvm.Cond.declares z').before a0 Z = true) (nf : NF Z a0 z') (w5 : (Jvm.Cond.selects C z' y').before a0 Z = true) (w6 : (Jvm.Cond.instanceMethod y').before a0 Z = true) (w3 : (Jvm.Cond.initialized y'.cls).before a0 Z = true) (w4 : (Jvm.Cond.code y' bytes' mx' ret').before a0 Z = true) (hy : z'.cls ≠ "java/lang/invoke/MethodHandle" ∧ z'.cls ≠ "java/lang/invoke/VarHandle")
    (hpd : parseMethodDescriptor z'.desc = some ⟨ps, rt⟩) (hf : rm'.frames + 1 ≤ R.frames) (hl : w + (mx' + 11) + rm'.locals ≤ R.locals) (hc : k + rm'.cells ≤ R.cells) (hn : n + rm'.slots ≤ R.slots) (E : Exa Z h a C) (hM : Ct l Z y' bytes' mx' ret' rm' n0 (.ref a :: argsL).toArray h (fun v h' => v = v0 ∧ h' = h)) (hlen : argsL.length = ps.length) (hsz : Ls.size = mx) (hw : (rest.map fun v => v.category).sum ≤ w) (hst : st = argsL.reverse ++ .ref a :: rest) (hd : decode code pc = .ok (.invokevirtual i, 3)) (r : W h k n pc Ls st) :
    W h (k + rm'.cells) (n + rm'.slots) (pc + 3) Ls (v0.toList ++ rest) := by
  obtain ⟨v, h', ⟨e1, e2⟩, r'⟩ := H.callV w1 w2 nf w5 w6 w3 w4 hy hpd hf hl hc hn E hM hlen hsz hw hst hd r
  rw [← e1, ← e2]
  rw [e2] at r' ⊢
  exact r'
theorem Wk.retV (H : Wk l Z y code mx ret R n0 W V) {v : Value} {t : FieldType} {ins : Instr} (ht : ret = some t) (hn' : narrow t v = v) (hi : (ins = .ireturn ∧ (t = .int ∨ t = .boolean ∨ t = .byte ∨ t = .char ∨ t = .short) ∧ ∃ z, v = .int z) ∨ (ins = .lreturn ∧ t = .long ∧ ∃ z, v = .long z) ∨ (ins = .dreturn ∧ t = .double ∧ ∃ z, v = .double z) ∨ (ins = .freturn ∧ t = .float ∧ ∃ z, v = .float z) ∨ (ins = .areturn ∧ t.isReference = true ∧ v.isRef = true))
    (hk : k ≤ R.cells) (hn : n ≤ R.slots) (hd : decode code pc = .ok (ins, 1)) (r : W h k n pc Ls (v :: st)) : V (some v) h := by
  obtain ⟨p, e, s, m, args, below, meth, c, S0, hx, hby, hml, hown, hZ, hnm, hret, hlk, rfl, rfl⟩ := H
  obtain ⟨T, locs, X, eh, N, sp⟩ := r
  have hrt : meth.sig.returnType = some t := hret.trans ht
  obtain ⟨fs, hr, hrun, hended, hW, hsame⟩ := X.leave (v := some v) (fun q => by rw [hrt] at q; cases q) hlk
  exact ⟨_, locs, sp _ (retOut X hx hrt hn' hi (hb hby hd) hr), hrun, hended, eh, N, ⟨_, rfl⟩, hW, hsame.mono hk hn⟩
theorem Wk.retI (H : Wk l Z y code mx ret R n0 W V) {z : Int32} (ht : ret = some .int) (hk : k ≤ R.cells) (hn : n ≤ R.slots) (hd : decode code pc = .ok (.ireturn, 1)) (r : W h k n pc Ls (.int z :: st)) : V (some (.int z)) h :=
  H.retV ht rfl (Or.inl ⟨rfl, Or.inl rfl, z, rfl⟩) hk hn hd r
theorem Wk.retJ (H : Wk l Z y code mx ret R n0 W V) {z : Int64} (ht : ret = some .long) (hk : k ≤ R.cells) (hn : n ≤ R.slots) (hd : decode code pc = .ok (.lreturn, 1)) (r : W h k n pc Ls (.long z :: st)) : V (some (.long z)) h :=
  H.retV ht rfl (Or.inr (Or.inl ⟨rfl, rfl, z, rfl⟩)) hk hn hd r
theorem Wk.retZ (H : Wk l Z y code mx ret R n0 W V) {z z' : Int32} (hz : z &&& 1 = z') (ht : ret = some .boolean) (hk : k ≤ R.cells) (hn : n ≤ R.slots) (hd : decode code pc = .ok (.ireturn, 1)) (r : W h k n pc Ls (.int z :: st)) : V (some (.int z')) h := by
  subst hz
  obtain ⟨p, e, s, m, args, below, meth, c, S0, hx, hby, hml, hown, hZ, hnm, hret, hlk, rfl, rfl⟩ := H
  obtain ⟨T, locs, X, eh, N, sp⟩ := r
  have hrt : meth.sig.returnType = some .boolean := hret.trans ht
  obtain ⟨fs, hr, hrun, hended, hW, hsame⟩ := X.leave (v := some (.int (nar .boolean z))) (fun q => by rw [hrt] at q; cases q) hlk
  exact ⟨_, locs, sp _ (retN X hx hrt (by simp) (hb hby hd) hr), hrun, hended, eh, N, ⟨_, rfl⟩, hW, hsame.mono hk hn⟩
theorem Wk.retB (H : Wk l Z y code mx ret R n0 W V) {z z' : Int32} (hz : z.toInt8.toInt32 = z') (ht : ret = some .byte) (hk : k ≤ R.cells) (hn : n ≤ R.slots) (hd : decode code pc = .ok (.ireturn, 1)) (r : W h k n pc Ls (.int z :: st)) : V (some (.int z')) h := by
  subst hz
  obtain ⟨p, e, s, m, args, below, meth, c, S0, hx, hby, hml, hown, hZ, hnm, hret, hlk, rfl, rfl⟩ := H
  obtain ⟨T, locs, X, eh, N, sp⟩ := r
  have hrt : meth.sig.returnType = some .byte := hret.trans ht
  obtain ⟨fs, hr, hrun, hended, hW, hsame⟩ := X.leave (v := some (.int (nar .byte z))) (fun q => by rw [hrt] at q; cases q) hlk
  exact ⟨_, locs, sp _ (retN X hx hrt (by simp) (hb hby hd) hr), hrun, hended, eh, N, ⟨_, rfl⟩, hW, hsame.mono hk hn⟩
theorem Wk.retC (H : Wk l Z y code mx ret R n0 W V) {z z' : Int32} (hz : z.toUInt32.toUInt16.toUInt32.toInt32 = z') (ht : ret = some .char) (hk : k ≤ R.cells) (hn : n ≤ R.slots) (hd : decode code pc = .ok (.ireturn, 1)) (r : W h k n pc Ls (.int z :: st)) : V (some (.int z')) h := by
  subst hz
  obtain ⟨p, e, s, m, args, below, meth, c, S0, hx, hby, hml, hown, hZ, hnm, hret, hlk, rfl, rfl⟩ := H
  obtain ⟨T, locs, X, eh, N, sp⟩ := r
  have hrt : meth.sig.returnType = some .char := hret.trans ht
  obtain ⟨fs, hr, hrun, hended, hW, hsame⟩ := X.leave (v := some (.int (nar .char z))) (fun q => by rw [hrt] at q; cases q) hlk
  exact ⟨_, locs, sp _ (retN X hx hrt (by simp) (hb hby hd) hr), hrun, hended, eh, N, ⟨_, rfl⟩, hW, hsame.mono hk hn⟩
theorem Wk.retR (H : Wk l Z y code mx ret R n0 W V) {v : Value} {t : FieldType} (ht : ret = some t) (htr : t.isReference = true) (hv : v.isRef = true) (hk : k ≤ R.cells) (hn : n ≤ R.slots) (hd : decode code pc = .ok (.areturn, 1)) (r : W h k n pc Ls (v :: st)) : V (some v) h :=
  H.retV ht (by cases v <;> simp [Value.isRef] at hv <;> cases t <;> simp [FieldType.isReference] at htr <;> rfl) (Or.inr (Or.inr (Or.inr (Or.inr ⟨rfl, htr, hv⟩)))) hk hn hd r
theorem Wk.retN (H : Wk l Z y code mx ret R n0 W V) (ht : ret = none) (hk : k ≤ R.cells) (hn : n ≤ R.slots) (hd : decode code pc = .ok (.return_, 1)) (r : W h k n pc Ls []) : V none h := by
  obtain ⟨p, e, s, m, args, below, meth, c, S0, hx, hby, hml, hown, hZ, hnm, hret, hlk, rfl, rfl⟩ := H
  obtain ⟨T, locs, X, eh, N, sp⟩ := r
  have hrt : meth.sig.returnType = none := hret.trans ht
  obtain ⟨fs, hr, hrun, hended, hW, hsame⟩ := X.leave (v := none) (fun _ => rfl) hlk
  exact ⟨_, locs, sp _ (X.returnOut hx hrt (hb hby hd) hr), hrun, hended, eh, N, ⟨_, rfl⟩, hW, hsame.mono hk hn⟩
end Steps
end Jvm.OwnW
namespace Jvm.OwnW
open Jvm Jvm.ClassFile Sem Op Lib Jvm.Free Jvm.Stand Jvm.LawKit Jvm.RoadKit Bundle
/-- an array at a, of components ty, that holds just vs -/
def Ary (Z : State) (h : Heap) (a : Addr) (ty : FieldType) (vs : List Value) : Prop := ∃ c : Cell, Arr Z h a c ty ∧ c.slots = vs.toArray
section Arrays
variable {l : Launch} {Z : State} {y : MethodName} {code : ByteArray} {mx : Nat} {ret : Option FieldType} {R : Room} {n0 : Nat} {W : WT} {V : VT} {h h' : Heap} {k n pc : Nat} {Ls : Array Slot} {st : List Value} {a0 : Array Value} {a b : Addr} {ty : FieldType} {vs : List Value} {ws : List Addr} {sl : Nat} {v : Value}
theorem Ary.lt (A : Ary Z h a ty vs) : a < h.size := by obtain ⟨c, A, -⟩ := A; exact A.lt
theorem Ary.ext (A : Ary Z h a ty vs) (E : Ext h h') : Ary Z h' a ty vs := by obtain ⟨c, A, q⟩ := A; exact ⟨c, A.ext E, q⟩
theorem Ary.other (A : Ary Z h b ty vs) (w : Wr h h' a sl v) (ne : b ≠ a) : Ary Z h' b ty vs := by obtain ⟨c, A, q⟩ := A; exact ⟨c, A.other w ne, q⟩
theorem Ary.keep (A : Ary Z h a ty vs) (K : Keep h h' ws) (q : a ∉ ws) : Ary Z h' a ty vs := by obtain ⟨c, A, r⟩ := A; exact ⟨c, ⟨K.2.1 a c A.1 q, A.2⟩, r⟩
theorem Ary.same (A : Ary Z h a ty vs) (w : Wr h h' a sl v) : Ary Z h' a ty (vs.set sl v) := by
  obtain ⟨c, A, q⟩ := A
  refine ⟨_, A.same w, ?_⟩
  show c.slots.setIfInBounds sl v = _
  rw [q, List.setIfInBounds_toArray]
theorem idx_ok {j : Int32} {i : Nat} (hj : j.toInt = i) : j.toNatClampNeg = i ∧ ¬ j < 0 := by
  refine ⟨?_, ?_⟩
  · show j.toInt.toNat = i
    rw [hj]; rfl
  · rw [Int32.lt_iff_toInt_lt, hj, Int32.toInt_zero]
    omega
theorem idx_in' {j : Int32} {i : Nat} (hj : j.toInt = i) {c : Cell} (q : c.slots = vs.toArray) (hi : i < vs.length) : ¬ (j < 0 ∨ c.slots.size ≤ j.toNatClampNeg) := by
  obtain ⟨h1, h2⟩ := idx_ok hj
  rw [h1, q, List.size_toArray]
  exact fun u => u.elim h2 (fun u => by omega)
theorem Wk.newA (H : Wk l Z y code mx ret R n0 W V) {aty : ArrayType} {z : Int32} {cap i : Nat} {d : Value} (hty : newarray.typeOf aty = ty) (hdv : defaultValue ty = d) (w : (Jvm.Cond.arrayClass ty).before a0 Z = true) (hz : z.toInt = i) (hcap : i ≤ cap) (hb8 : cap * 8 ≤ 536870912) (hc : k + 1 ≤ R.cells) (hl : n + cap ≤ R.slots) (hd : decode code pc = .ok (.newarray aty, 2)) (r : W h k n pc Ls (.int z :: st)) :
    ∃ h' a, a = h.size ∧ Ext h h' ∧ Ary Z h' a ty (List.replicate i d) ∧ W h' (k + 1) (n + cap) (pc + 2) Ls (.ref a :: st) := by
  obtain ⟨h1, h2⟩ := idx_ok hz
  obtain ⟨h', a, cA, e, E, A, r'⟩ := H.newP hty w h2 (by rw [h1]; exact hcap) hb8 hc hl hd r
  refine ⟨h', a, e, E, ⟨_, A, ?_⟩, r'⟩
  show Array.replicate z.toNatClampNeg (defaultValue ty) = _
  rw [h1, hdv, List.toArray_replicate]
theorem Wk.newAE (H : Wk l Z y code mx ret R n0 W V) {aty : ArrayType} {z : Int32} {cap i : Nat} {d : Value} {ad : String} (hty : newarray.typeOf aty = ty) (hdv : defaultValue ty = d) (had : "[" ++ ty.toString = ad) (w : (Jvm.Cond.arrayClass ty).before a0 Z = true) (hz : z.toInt = i) (hcap : i ≤ cap) (hb8 : cap * 8 ≤ 536870912) (hc : k + 1 ≤ R.cells) (hl : n + cap ≤ R.slots) (hd : decode code pc = .ok (.newarray aty, 2)) (r : W h k n pc Ls (.int z :: st)) :
    ∃ h' a, a = h.size ∧ Ext h h' ∧ Ary Z h' a ty (List.replicate i d) ∧ Exa Z h' a ad ∧ W h' (k + 1) (n + cap) (pc + 2) Ls (.ref a :: st) := by
  obtain ⟨h1, h2⟩ := idx_ok hz
  subst hty
  obtain ⟨p, e, s, m, args, below, meth, c, S0, hx, hby, hml, hown, hZ, hnm, hret, hlk, rfl, rfl⟩ := H
  obtain ⟨T, locs, X, eh, N, sp⟩ := r
  obtain ⟨T', h', cA, X', e', E', A', EX, q'⟩ := RoadKit.newPE X hx hZ w eh (g := mkF m pc Ls (.int z :: st)) rfl (hb hby hd) rfl h2 (by rw [h1]; exact hcap) hb8 hc hl had
  refine ⟨h', _, rfl, E', ⟨_, A', ?_⟩, EX, T', _, X', e', N, fun t u => sp t (q' t u)⟩
  show Array.replicate z.toNatClampNeg (defaultValue (newarray.typeOf aty)) = _
  rw [h1, hdv, List.toArray_replicate]
theorem Wk.cloneA (H : Wk l Z y code mx ret R n0 W V) {i w cap : Nat} {ad : String} (w1 : (Jvm.Cond.methodLink y.cls i ⟨ad, "clone", "()Ljava/lang/Object;"⟩).before a0 Z = true) (w2 : (Jvm.Cond.sameMethod ad "java/lang/Object" "clone" "()Ljava/lang/Object;").before a0 Z = true) (w3 : (Jvm.Cond.native ⟨"java/lang/Object", "clone", "()Ljava/lang/Object;"⟩).before a0 Z = true)
    (w4 : (Jvm.Cond.instanceMethod ⟨"java/lang/Object", "clone", "()Ljava/lang/Object;"⟩).before a0 Z = true) (w5 : (Jvm.Cond.selects ad ⟨ad, "clone", "()Ljava/lang/Object;"⟩ ⟨"java/lang/Object", "clone", "()Ljava/lang/Object;"⟩).before a0 Z = true) (w6 : (Jvm.Cond.castable ad "java/lang/Cloneable").before a0 Z = true)
    (A : Ary Z h a ty vs) (E : Exa Z h a ad) (hfit : ∀ v ∈ vs, fits ty v = true) (hsz : Ls.size = mx) (hf : 1 ≤ R.frames) (hw : (st.map fun v => v.category).sum ≤ w) (hl : w + 14 ≤ R.locals) (hcap : vs.length ≤ cap) (hc : k + 1 ≤ R.cells) (hsl : n + cap ≤ R.slots) (hd : decode code pc = .ok (.invokevirtual i, 3)) (r : W h k n pc Ls (.ref a :: st)) :
    ∃ h' b, b = h.size ∧ Ext h h' ∧ Ary Z h' b ty vs ∧ Exa Z h' b ad ∧ W h' (k + 1) (n + cap) (pc + 3) Ls (.ref b :: st) := by
  obtain ⟨p, e, s, m, args, below, meth, c, S0, hx, hby, hml, hown, hZ, hnm, hret, hlk, rfl, rfl⟩ := H
  obtain ⟨T, locs, X, eh, N, sp⟩ := r
  obtain ⟨cl, Ar, q⟩ := A
  have hF : FitC Z cl := fitC_of Ar (fun j hj v hv => hfit v (by rw [q, List.getElem?_toArray] at hv; exact List.mem_of_getElem? hv))
  obtain ⟨T', h', X', e', E', A', EX, q'⟩ := RoadKit.cloneA X hx hZ hown w1 w2 w3 w4 w5 w6 eh Ar E hF (g := mkF m pc Ls (.ref a :: st)) rfl (by rw [hml]; exact hsz) rfl (hb hby hd) hf (by show 2 * 0 + _ ≤ _; omega) hl (by rw [q, List.size_toArray]; exact hcap) hc hsl
  exact ⟨h', _, rfl, E', ⟨_, A', q⟩, EX, T', _, X', e', N, fun t u => sp t (q' t u)⟩
theorem Wk.lenA (H : Wk l Z y code mx ret R n0 W V) {z : Int32} (A : Ary Z h a ty vs) (hz : vs.length.toInt32 = z) (hd : decode code pc = .ok (.arraylength, 1)) (r : W h k n pc Ls (.ref a :: st)) : W h k n (pc + 1) Ls (.int z :: st) := by
  obtain ⟨c, A, q⟩ := A
  exact H.arrLen A (by rw [q, List.size_toArray]; exact hz) hd r
theorem Wk.ldI (H : Wk l Z y code mx ret R n0 W V) {j : Int32} {i : Nat} (A : Ary Z h a .int vs) (hj : j.toInt = i) (hv : vs[i]? = some v) (hd : decode code pc = .ok (.iaload, 1)) (r : W h k n pc Ls (.int j :: .ref a :: st)) : W h k n (pc + 1) Ls (v :: st) := by
  obtain ⟨c, A, q⟩ := A
  obtain ⟨h1, h2⟩ := idx_ok hj
  exact H.iaload A (idx_in' hj q (List.getElem?_eq_some_iff.mp hv).1) (by rw [h1, q, List.getElem?_toArray]; exact hv) hd r
theorem Wk.ldJ (H : Wk l Z y code mx ret R n0 W V) {j : Int32} {i : Nat} (A : Ary Z h a .long vs) (hj : j.toInt = i) (hv : vs[i]? = some v) (hd : decode code pc = .ok (.laload, 1)) (r : W h k n pc Ls (.int j :: .ref a :: st)) : W h k n (pc + 1) Ls (v :: st) := by
  obtain ⟨c, A, q⟩ := A
  obtain ⟨h1, h2⟩ := idx_ok hj
  exact H.laload A (idx_in' hj q (List.getElem?_eq_some_iff.mp hv).1) (by rw [h1, q, List.getElem?_toArray]; exact hv) hd r
theorem Wk.ldC (H : Wk l Z y code mx ret R n0 W V) {j : Int32} {i : Nat} (A : Ary Z h a .char vs) (hj : j.toInt = i) (hv : vs[i]? = some v) (hd : decode code pc = .ok (.caload, 1)) (r : W h k n pc Ls (.int j :: .ref a :: st)) : W h k n (pc + 1) Ls (v :: st) := by
  obtain ⟨c, A, q⟩ := A
  obtain ⟨h1, h2⟩ := idx_ok hj
  exact H.caload A (idx_in' hj q (List.getElem?_eq_some_iff.mp hv).1) (by rw [h1, q, List.getElem?_toArray]; exact hv) hd r
theorem Wk.ldB (H : Wk l Z y code mx ret R n0 W V) {j : Int32} {i : Nat} (A : Ary Z h a .byte vs) (hj : j.toInt = i) (hv : vs[i]? = some v) (hd : decode code pc = .ok (.baload, 1)) (r : W h k n pc Ls (.int j :: .ref a :: st)) : W h k n (pc + 1) Ls (v :: st) := by
  obtain ⟨c, A, q⟩ := A
  obtain ⟨h1, h2⟩ := idx_ok hj
  exact H.baload A (idx_in' hj q (List.getElem?_eq_some_iff.mp hv).1) (by rw [h1, q, List.getElem?_toArray]; exact hv) hd r
theorem Wk.putI (H : Wk l Z y code mx ret R n0 W V) {j : Int32} {i : Nat} {x : Int32} (A : Ary Z h a .int vs) (hj : j.toInt = i) (hi : i < vs.length) (hn0 : n0 ≤ a) (hd : decode code pc = .ok (.iastore, 1)) (r : W h k n pc Ls (.int x :: .int j :: .ref a :: st)) : ∃ h', Wr h h' a i (.int x) ∧ Ary Z h' a .int (vs.set i (.int x)) ∧ W h' k n (pc + 1) Ls st := by
  obtain ⟨h1, h2⟩ := idx_ok hj
  obtain ⟨c, A', q⟩ := id A
  obtain ⟨h', w, r'⟩ := H.stI A' (idx_in' hj q hi) hn0 hd r
  rw [h1] at w
  exact ⟨h', w, A.same w, r'⟩
theorem Wk.putJ (H : Wk l Z y code mx ret R n0 W V) {j : Int32} {i : Nat} {x : Int64} (A : Ary Z h a .long vs) (hj : j.toInt = i) (hi : i < vs.length) (hn0 : n0 ≤ a) (hd : decode code pc = .ok (.lastore, 1)) (r : W h k n pc Ls (.long x :: .int j :: .ref a :: st)) : ∃ h', Wr h h' a i (.long x) ∧ Ary Z h' a .long (vs.set i (.long x)) ∧ W h' k n (pc + 1) Ls st := by
  obtain ⟨h1, h2⟩ := idx_ok hj
  obtain ⟨c, A', q⟩ := id A
  obtain ⟨h', w, r'⟩ := H.stJ A' (idx_in' hj q hi) hn0 hd r
  rw [h1] at w
  exact ⟨h', w, A.same w, r'⟩
theorem Wk.putC (H : Wk l Z y code mx ret R n0 W V) {j : Int32} {i : Nat} {x : Int32} {z : Int32} (hz : x.toUInt32.toUInt16.toUInt32.toInt32 = z) (A : Ary Z h a .char vs) (hj : j.toInt = i) (hi : i < vs.length) (hn0 : n0 ≤ a) (hd : decode code pc = .ok (.castore, 1)) (r : W h k n pc Ls (.int x :: .int j :: .ref a :: st)) : ∃ h', Wr h h' a i (.int z) ∧ Ary Z h' a .char (vs.set i (.int z)) ∧ W h' k n (pc + 1) Ls st := by
  subst hz
  obtain ⟨h1, h2⟩ := idx_ok hj
  obtain ⟨c, A', q⟩ := id A
  obtain ⟨h', w, r'⟩ := H.stC A' (idx_in' hj q hi) hn0 hd r
  rw [h1] at w
  exact ⟨h', w, A.same w, r'⟩
theorem Wk.putB (H : Wk l Z y code mx ret R n0 W V) {j : Int32} {i : Nat} {x : Int32} {z : Int32} (hz : x.toInt8.toInt32 = z) (A : Ary Z h a .byte vs) (hj : j.toInt = i) (hi : i < vs.length) (hn0 : n0 ≤ a) (hd : decode code pc = .ok (.bastore, 1)) (r : W h k n pc Ls (.int x :: .int j :: .ref a :: st)) : ∃ h', Wr h h' a i (.int z) ∧ Ary Z h' a .byte (vs.set i (.int z)) ∧ W h' k n (pc + 1) Ls st := by
  subst hz
  obtain ⟨h1, h2⟩ := idx_ok hj
  obtain ⟨c, A', q⟩ := id A
  obtain ⟨h', w, r'⟩ := H.stB A' (idx_in' hj q hi) hn0 hd r
  rw [h1] at w
  exact ⟨h', w, A.same w, r'⟩
end Arrays
theorem ns_root {Z : State} {a0 : Array Value} {O K : String} {q : Nat} (w : (Jvm.Cond.noSuperclass O).before a0 Z = true) (wk : (Jvm.Cond.instantiable K q).before a0 Z = true) (hn : O ≠ K) : NS Z O K := by
  obtain ⟨c, k, h1, h2, h3, -, -⟩ := Cond.noSuperclass_spec w
  obtain ⟨t, k', g1, g2, -⟩ := Cond.instantiable_spec wk
  have ne := ids_ne h1 g1 hn
  refine ⟨c, t, h1, g1, fun fuel => ?_⟩
  cases fuel with
  | zero => rfl
  | succ f => simp [Vm.isSubclassAux, ne, h2, h3]
theorem ns_no {Z : State} {a0 : Array Value} {C S K : String} {q : Nat} (w : (Jvm.Cond.superclass C S).before a0 Z = true) (wk : (Jvm.Cond.instantiable K q).before a0 Z = true) (n : NS Z C K) (hn : C ≠ K) : ∃ c t, Z.vm.findClass C = some c ∧ Z.vm.findClass K = some t ∧ Z.vm.assignable c t = false := by
  obtain ⟨c, t, h0, g0, n3⟩ := n
  obtain ⟨p, k, kp, h1, h2, h3, h4, h5, -, h7⟩ := Cond.superclass_spec h0 w
  obtain ⟨t', k', g1, g2, g5, g7, -⟩ := Cond.instantiable_spec wk
  cases g0.symm.trans g1
  have ne := ids_ne h0 g0 hn
  have g8 : k'.isInterface = false := by cases hh : k'.isInterface <;> simp [hh] at g7 ⊢
  refine ⟨c, t, h0, g0, ?_⟩
  show Z.vm.assignableAux (255 + 1) c t = false
  simp [Vm.assignableAux, ne, h2, g2, h5, g5, g8, Vm.isSubclass, n3]
/-- (k & 0x7fffffff) % m as a natural -/
theorem own_modn (k : Int32) (m : Nat) (h0 : 0 < m) (hm : m < 2147483648) : ∃ i : Nat, i < m ∧ (k &&& (2147483647 : Int32)) % Int32.ofNat m = Int32.ofNat i := by
  have h1 : (k &&& (2147483647 : Int32)).toInt = k.toInt % (2 ^ 31 : Nat) := c_mask k _ 31 (by decide) (by decide)
  have hM : (Int32.ofNat m).toInt = (m : Int) := Int32.toInt_ofNat_of_lt (by omega)
  have h2 := (c_irem (k &&& (2147483647 : Int32)) (Int32.ofNat m) m hM).1 (by rw [h1]; omega)
  have h3 : 0 ≤ (k &&& (2147483647 : Int32)).toInt % (m : Int) := Int.emod_nonneg _ (by omega)
  have h4 : (k &&& (2147483647 : Int32)).toInt % (m : Int) < m := Int.emod_lt_of_pos _ (by omega)
  refine ⟨((k &&& (2147483647 : Int32)) % Int32.ofNat m).toInt.toNat, by omega, ?_⟩
  apply Int32.toInt_inj.mp
  rw [Int32.toInt_ofNat_of_lt (by omega)]
  omega
theorem own_ofNat {i : Nat} (hi : i < 2147483648) : (Int32.ofNat i).toInt = (i : Int) := Int32.toInt_ofNat_of_lt (by omega)
theorem own_ltN {i j : Nat} (hi : i < 2147483648) (hj : j < 2147483648) : Int32.ofNat i < Int32.ofNat j ↔ i < j := by
  rw [Int32.lt_iff_toInt_lt, own_ofNat hi, own_ofNat hj]
  omega
theorem own_eqN {i j : Nat} (hi : i < 2147483648) (hj : j < 2147483648) : Int32.ofNat i = Int32.ofNat j ↔ i = j := by
  rw [← Int32.toInt_inj, own_ofNat hi, own_ofNat hj]
  omega
theorem own_nn {n : Nat} (hn : n < 2147483648) : ¬ Int32.ofNat n < 0 := by
  rw [Int32.lt_iff_toInt_lt, own_ofNat hn, show (0 : Int32).toInt = 0 from rfl]
  omega
theorem own_pred {n : Nat} (hp : 0 < n) (hn : n < 2147483648) : (Int32.ofNat n - (1 : Int32)).toInt = ((n - 1 : Nat) : Int) := by
  have h2 := c_isub (Int32.ofNat n) (1 : Int32)
  have r2 := rng32 (Int32.ofNat n - (1 : Int32))
  rw [own_ofNat hn, show (1 : Int32).toInt = 1 from rfl] at h2
  omega
theorem own_succ (i : Nat) : Int32.ofNat i + (1 : Int32) = Int32.ofNat (i + 1) := (Int32.ofNat_add i 1).symm
end Jvm.OwnW

namespace Jvm.OwnT
open Jvm Jvm.ClassFile Sem Op Lib Jvm.Free Jvm.Stand Jvm.LawKit Jvm.RoadKit Bundle Jvm.OwnW
/-- s is s0 with later tables: at most string constants have been resolved and interned since -/
def Base (s0 s : State) (h : Heap) : Prop := ∃ (vm0 : Vm) (k0 : Nat), s = s0.setVm vm0 ∧ s0.Since vm0 k0 ∧ k0 ≤ h.size
theorem Base.mono {s0 s : State} {h h' : Heap} (B : Base s0 s h) (q : h.size ≤ h'.size) : Base s0 s h' := by
  obtain ⟨vm0, k0, e, S, hk⟩ := B
  exact ⟨vm0, k0, e, S, Nat.le_trans hk q⟩
theorem Base.fin {s0 s : State} {h : Heap} {U : State} {L : List Loc} {k n : Nat} (B : Base s0 s h) (eh : U.heap = h) (hW : s.WarmedH U.vm) (hs : s.sameButNew ({ U with vm := s.vm } : State) L k n) : s0.Warmed39 U.vm ∧ s0.Booked U.vm U.heap.size ∧ s0.sameButNew ({ U with vm := s0.vm } : State) L k n := by
  obtain ⟨vm0, k0, rfl, S, hk⟩ := B
  exact S.ended hW (by rw [eh]; exact hk) hs
def At1 (p : Program) (l : Launch) (e : Env) (R : Room) (Z s0 : State) (m : MethodId) (args : Array Value) (below : List Frame) (meth : Method) (c : Code) (y : MethodName) (n0 : Nat) (S0 : State) (h : Heap) (k n pc : Nat) (Ls : Array Slot) (st : List Value) : Prop :=
  ∃ (s T : State) (locs : List Loc), Stand p l e R s m args below meth c T locs k n ∧ T.heap = h ∧ Fr n0 locs ∧ s.vm.findClass y.cls = some m.cls ∧ Z.Warmed39 s.vm ∧ Base s0 s h ∧ ∀ t, Steps p.tables e below (T.setTop (mkF m pc Ls st)) t → Steps p.tables e below S0 t
def End1 (p : Program) (e : Env) (R : Room) (s0 : State) (below : List Frame) (n0 : Nat) (S0 : State) (v : Option Value) (h : Heap) : Prop :=
  ∃ (s₂ : State) (L : List Loc), Steps p.tables e below S0 s₂ ∧ s₂.status = .running ∧ Ended s₂ below (.returned v) ∧ s₂.heap = h ∧ Fr n0 L ∧ (∃ w : Option Value, Outcome.returned v = .returned w) ∧ s0.Warmed39 s₂.vm ∧ s0.Booked s₂.vm s₂.heap.size ∧ s0.sameButNew ({ s₂ with vm := s0.vm } : State) L R.cells R.slots
/-- W and V are of one walk of the body of y -/
def WkT (l : Launch) (Z : State) (y : MethodName) (code : ByteArray) (mx : Nat) (ret : Option FieldType) (R : Room) (n0 : Nat) (W : WT) (V : VT) : Prop :=
  ∃ (p : Program) (e : Env) (s0 : State) (m : MethodId) (args : Array Value) (below : List Frame) (meth : Method) (c : Code) (S0 : State),
    p.tables.exec = Jvm.exec ∧ c.code = code ∧ c.maxLocals = mx ∧ meth.name = y.name ∧ meth.sig.returnType = ret ∧ meth.locks = false ∧
    W = At1 p l e R Z s0 m args below meth c y n0 S0 ∧ V = End1 p e R s0 below n0 S0
/-- a contract of a method that may intern -/
def CtT (l : Launch) (Z : State) (y : MethodName) (bytes : ByteArray) (mx : Nat) (ret : Option FieldType) (rm : Room) (n0 : Nat) (as : Array Value) (h : Heap) (Q : Option Value → Heap → Prop) : Prop :=
  ∀ ws : List Jvm.Cond, MetFree l y (head1 (Jvm.Cond.code y bytes mx ret :: ws) rm) (fun a U => a = as ∧ Z.Warmed39 U.vm ∧ U.heap = h) (fun _ _ _ _ _ => True) (fun _ U o U' => ∃ v L, o = .returned v ∧ (Q v U'.heap ∧ Fr n0 L) ∧ ReturnedEndW U o U' L rm.cells rm.slots)
theorem CtT.of {l : Launch} {Z : State} {y : MethodName} {bytes : ByteArray} {mx : Nat} {ret : Option FieldType} {rm : Room} {n0 : Nat} {as : Array Value} {h : Heap} {Q : Option Value → Heap → Prop} {Ls : Array Slot} (hpn : plainFor y = true) (hef : ∀ m, entryFrame m as mx = mkF m 0 Ls [])
    (body : ∀ W V, WkT l Z y bytes mx ret rm n0 W V → W h 0 0 0 Ls [] → ∃ v h', V v h' ∧ Q v h') : CtT l Z y bytes mx ret rm n0 as h Q := by
  intro ws
  refine MetFree.of_bodySF hpn hisR ?_
  intro p e s m args below meth c s₁ Bd hml0 hP hK
  obtain ⟨rfl, hZ, hh⟩ := hP
  have X0 : Stand p l e rm s m args below meth c s₁ [] 0 0 := Stand.of_body Bd
  have e0 : s₁.heap = h := by rw [← hh, Bd.state]; rfl
  obtain ⟨v, h', ⟨s₂, L, g1, g2, g3, g4, g5, g6⟩, hQ⟩ := body _ _ ⟨p, e, s, m, args, below, meth, c, s₁.setTop (entryFrame m args mx), Bd.exec, Bd.bytes, hml0, (name_of_methodNamed Bd.named Bd.method).1, Bd.returns, Bd.notSynchronized, rfl, rfl⟩
    ⟨s, s₁, [], X0, e0, Fr.nil _, findClass_of_methodNamed Bd.named, hZ, ⟨s.vm, 0, rfl, (State.WarmedH.refl s).since 0, Nat.zero_le _⟩, fun t k => castTop (hef m) k⟩
  exact ⟨s₂, _, g1, g2, g3, v, L, rfl, ⟨by rw [g4]; exact hQ, g5⟩, g6⟩
section Steps
variable {l : Launch} {Z : State} {y : MethodName} {code : ByteArray} {mx : Nat} {ret : Option FieldType} {R : Room} {n0 : Nat} {W : WT} {V : VT} {h : Heap} {k n pc pc' : Nat} {Ls Ls' : Array Slot} {st st' : List Value} {a0 : Array Value}
/-- a plain step, by the library's law for it -/
theorem WkT.step (H : WkT l Z y code mx ret R n0 W V) (r : W h k n pc Ls st)
    (f : ∀ {tb : Tables} [Ours tb] {e : Env} {below : List Frame} {T t : State} {m : MethodId} {c : Code}, At T m c below → tb.exec = Jvm.exec → c.code = code → Steps tb e below (T.setTop (mkF m pc' Ls' st')) t → Steps tb e below (T.setTop (mkF m pc Ls st)) t) : W h k n pc' Ls' st' := by
  obtain ⟨p, e, s0, m, args, below, meth, c, S0, hx, hby, hml, hnm, hret, hlk, rfl, rfl⟩ := H
  obtain ⟨s, T, locs, X, eh, N, hown, hZ, hB, sp⟩ := r
  exact ⟨s, T, locs, X, eh, N, hown, hZ, hB, fun t q => sp t (f X.here hx hby q)⟩
/-- the account of cells and slots may be widened -/
theorem WkT.more (H : WkT l Z y code mx ret R n0 W V) {k' n' : Nat} (hk : k ≤ k') (hn : n ≤ n') (r : W h k n pc Ls st) : W h k' n' pc Ls st := by
  obtain ⟨p, e, s0, m, args, below, meth, c, S0, hx, hby, hml, hnm, hret, hlk, rfl, rfl⟩ := H
  obtain ⟨s, T, locs, X, eh, N, hown, hZ, hB, sp⟩ := r
  exact ⟨s, T, locs, X.mono hk hn, eh, N, hown, hZ, hB, sp⟩
/-- a step that reads the tables or the heap -/
theorem WkT.stepX (H : WkT l Z y code mx ret R n0 W V) (r : W h k n pc Ls st)
    (f : ∀ {p : Program} {e : Env} {s : State} {m : MethodId} {args : Array Value} {below : List Frame} {meth : Method} {c : Code} {T : State} {locs : List Loc}, Stand p l e R s m args below meth c T locs k n → p.tables.exec = Jvm.exec → c.code = code → c.maxLocals = mx → s.vm.findClass y.cls = some m.cls → Z.Warmed39 s.vm → T.heap = h → ∃ T', Stand p l e R s m args below meth c T' locs k n ∧ T'.heap = h ∧ ∀ t, Steps p.tables e below (T'.setTop (mkF m pc' Ls' st')) t → Steps p.tables e below (T.setTop (mkF m pc Ls st)) t) : W h k n pc' Ls' st' := by
  obtain ⟨p, e, s0, m, args, below, meth, c, S0, hx, hby, hml, hnm, hret, hlk, rfl, rfl⟩ := H
  obtain ⟨s, T, locs, X, eh, N, hown, hZ, hB, sp⟩ := r
  obtain ⟨T', X', e', q⟩ := f X hx hby hml hown hZ eh
  exact ⟨s, T', locs, X', e', N, hown, hZ, hB, fun t u => sp t (q t u)⟩
theorem WkT.aloadN (H : WkT l Z y code mx ret R n0 W V) {i : Fin 4} {v : Value} (hd : decode code pc = .ok (.aload_n i, 1)) (r : W h k n pc Ls (st)) (hl : Ls[i.val]? = some (.val v)) (hv : v.isRef = true) : W h k n (pc + 1) Ls (v :: st) :=
  H.step r fun A hx hby q => XS.aloadN A hx rfl (hb hby hd) hl hv q
theorem WkT.aload (H : WkT l Z y code mx ret R n0 W V) {i : Nat} {v : Value} (hd : decode code pc = .ok (.aload i, 2)) (r : W h k n pc Ls (st)) (hl : Ls[i]? = some (.val v)) (hv : v.isRef = true) : W h k n (pc + 2) Ls (v :: st) :=
  H.step r fun A hx hby q => XS.aload A hx rfl (hb hby hd) hl hv q
theorem WkT.iloadN (H : WkT l Z y code mx ret R n0 W V) {i : Fin 4} {v : Int32} (hd : decode code pc = .ok (.iload_n i, 1)) (r : W h k n pc Ls (st)) (hl : Ls[i.val]? = some (.val (.int v))) : W h k n (pc + 1) Ls (.int v :: st) :=
  H.step r fun A hx hby q => XS.iloadN A hx rfl (hb hby hd) hl q
theorem WkT.iload (H : WkT l Z y code mx ret R n0 W V) {i : Nat} {v : Int32} (hd : decode code pc = .ok (.iload i, 2)) (r : W h k n pc Ls (st)) (hl : Ls[i]? = some (.val (.int v))) : W h k n (pc + 2) Ls (.int v :: st) :=
  H.step r fun A hx hby q => XS.iload A hx rfl (hb hby hd) hl q
theorem WkT.lloadN (H : WkT l Z y code mx ret R n0 W V) {i : Fin 4} {v : Int64} (hd : decode code pc = .ok (.lload_n i, 1)) (r : W h k n pc Ls (st)) (hl : Ls[i.val]? = some (.val (.long v))) : W h k n (pc + 1) Ls (.long v :: st) :=
  H.step r fun A hx hby q => XS.lloadN A hx rfl (hb hby hd) hl q
theorem WkT.lload (H : WkT l Z y code mx ret R n0 W V) {i : Nat} {v : Int64} (hd : decode code pc = .ok (.lload i, 2)) (r : W h k n pc Ls (st)) (hl : Ls[i]? = some (.val (.long v))) : W h k n (pc + 2) Ls (.long v :: st) :=
  H.step r fun A hx hby q => XS.lload A hx rfl (hb hby hd) hl q
theorem WkT.floadN (H : WkT l Z y code mx ret R n0 W V) {i : Fin 4} {v : UInt32} (hd : decode code pc = .ok (.fload_n i, 1)) (r : W h k n pc Ls (st)) (hl : Ls[i.val]? = some (.val (.float v))) : W h k n (pc + 1) Ls (.float v :: st) :=
  H.step r fun A hx hby q => XS.floadN A hx rfl (hb hby hd) hl q
theorem WkT.iconst (H : WkT l Z y code mx ret R n0 W V) {i : Int} {z : Int32} (hd : decode code pc = .ok (.iconst i, 1)) (r : W h k n pc Ls st) (hz : Int32.ofInt i = z) : W h k n (pc + 1) Ls (.int z :: st) := by
  subst hz
  exact H.step r fun A hx hby q => XS.iconst A hx rfl (hb hby hd) q
theorem WkT.bipush (H : WkT l Z y code mx ret R n0 W V) {i : Int} {z : Int32} (hd : decode code pc = .ok (.bipush i, 2)) (r : W h k n pc Ls st) (hz : (Int8.ofInt i).toInt32 = z) : W h k n (pc + 2) Ls (.int z :: st) := by
  subst hz
  exact H.step r fun A hx hby q => XS.bipush A hx rfl (hb hby hd) q
theorem WkT.sipush (H : WkT l Z y code mx ret R n0 W V) {i : Int} {z : Int32} (hd : decode code pc = .ok (.sipush i, 3)) (r : W h k n pc Ls st) (hz : (Int16.ofInt i).toInt32 = z) : W h k n (pc + 3) Ls (.int z :: st) := by
  subst hz
  exact H.step r fun A hx hby q => XS.sipush A hx rfl (hb hby hd) q
theorem WkT.lconst (H : WkT l Z y code mx ret R n0 W V) {i : Fin 2} {z : Int64} (hd : decode code pc = .ok (.lconst i, 1)) (r : W h k n pc Ls st) (hz : Int64.ofNat i = z) : W h k n (pc + 1) Ls (.long z :: st) := by
  subst hz
  exact H.step r fun A hx hby q => XS.lconst A hx rfl (hb hby hd) q
theorem WkT.fconst0 (H : WkT l Z y code mx ret R n0 W V) {v : UInt32} (hd : decode code pc = .ok (.fconst 0, 1)) (r : W h k n pc Ls st) (hv : FP.fconst0 = v) : W h k n (pc + 1) Ls (.float v :: st) :=
  H.step r fun A hx hby q => XS.fconst0 A hx rfl (hb hby hd) hv q
theorem WkT.fcmp (H : WkT l Z y code mx ret R n0 W V) {o : CmpOp} {x z : UInt32} {v : Int32} (hd : decode code pc = .ok (.fcmp o, 1)) (r : W h k n pc Ls (.float z :: .float x :: st)) (hv : cmpValue (FP.fcmp x z) o = v) : W h k n (pc + 1) Ls (.int v :: st) :=
  H.step r fun A hx hby q => XS.fcmpS A hx rfl (hb hby hd) rfl hv q
theorem WkT.aconstNull (H : WkT l Z y code mx ret R n0 W V) (hd : decode code pc = .ok (.aconst_null, 1)) (r : W h k n pc Ls (st)) : W h k n (pc + 1) Ls (.null :: st) :=
  H.step r fun A hx hby q => XS.aconstNull A hx rfl (hb hby hd)  q
theorem WkT.iadd (H : WkT l Z y code mx ret R n0 W V) {a b : Int32} (hd : decode code pc = .ok (.iadd, 1)) (r : W h k n pc Ls (.int b :: .int a :: st)) : W h k n (pc + 1) Ls (.int (a + b) :: st) :=
  H.step r fun A hx hby q => XS.iadd A hx rfl (hb hby hd) rfl q
theorem WkT.isub (H : WkT l Z y code mx ret R n0 W V) {a b : Int32} (hd : decode code pc = .ok (.isub, 1)) (r : W h k n pc Ls (.int b :: .int a :: st)) : W h k n (pc + 1) Ls (.int (a - b) :: st) :=
  H.step r fun A hx hby q => XS.isub A hx rfl (hb hby hd) rfl q
theorem WkT.iand (H : WkT l Z y code mx ret R n0 W V) {a b : Int32} (hd : decode code pc = .ok (.iand, 1)) (r : W h k n pc Ls (.int b :: .int a :: st)) : W h k n (pc + 1) Ls (.int (a &&& b) :: st) :=
  H.step r fun A hx hby q => XS.iand A hx rfl (hb hby hd) rfl q
theorem WkT.imul (H : WkT l Z y code mx ret R n0 W V) {a b : Int32} (hd : decode code pc = .ok (.imul, 1)) (r : W h k n pc Ls (.int b :: .int a :: st)) : W h k n (pc + 1) Ls (.int (a * b) :: st) :=
  H.step r fun A hx hby q => XS.imul A hx rfl (hb hby hd) rfl q
theorem WkT.ior (H : WkT l Z y code mx ret R n0 W V) {a b : Int32} (hd : decode code pc = .ok (.ior, 1)) (r : W h k n pc Ls (.int b :: .int a :: st)) : W h k n (pc + 1) Ls (.int (a ||| b) :: st) :=
  H.step r fun A hx hby q => XS.ior A hx rfl (hb hby hd) rfl q
theorem WkT.ixor (H : WkT l Z y code mx ret R n0 W V) {a b : Int32} (hd : decode code pc = .ok (.ixor, 1)) (r : W h k n pc Ls (.int b :: .int a :: st)) : W h k n (pc + 1) Ls (.int (a ^^^ b) :: st) :=
  H.step r fun A hx hby q => XS.ixor A hx rfl (hb hby hd) rfl q
theorem WkT.ishl (H : WkT l Z y code mx ret R n0 W V) {a b : Int32} (hd : decode code pc = .ok (.ishl, 1)) (r : W h k n pc Ls (.int b :: .int a :: st)) : W h k n (pc + 1) Ls (.int (a <<< (b &&& 31)) :: st) :=
  H.step r fun A hx hby q => XS.ishl A hx rfl (hb hby hd) rfl q
theorem WkT.ishr (H : WkT l Z y code mx ret R n0 W V) {a b : Int32} (hd : decode code pc = .ok (.ishr, 1)) (r : W h k n pc Ls (.int b :: .int a :: st)) : W h k n (pc + 1) Ls (.int (a >>> (b &&& 31)) :: st) :=
  H.step r fun A hx hby q => XS.ishr A hx rfl (hb hby hd) rfl q
theorem WkT.iushr (H : WkT l Z y code mx ret R n0 W V) {a b : Int32} (hd : decode code pc = .ok (.iushr, 1)) (r : W h k n pc Ls (.int b :: .int a :: st)) : W h k n (pc + 1) Ls (.int ((a.toUInt32 >>> (b &&& 31).toUInt32).toInt32) :: st) :=
  H.step r fun A hx hby q => XS.iushr A hx rfl (hb hby hd) rfl q
theorem WkT.ladd (H : WkT l Z y code mx ret R n0 W V) {a b : Int64} (hd : decode code pc = .ok (.ladd, 1)) (r : W h k n pc Ls (.long b :: .long a :: st)) : W h k n (pc + 1) Ls (.long (a + b) :: st) :=
  H.step r fun A hx hby q => XS.ladd A hx rfl (hb hby hd) rfl q
theorem WkT.lsub (H : WkT l Z y code mx ret R n0 W V) {a b : Int64} (hd : decode code pc = .ok (.lsub, 1)) (r : W h k n pc Ls (.long b :: .long a :: st)) : W h k n (pc + 1) Ls (.long (a - b) :: st) :=
  H.step r fun A hx hby q => XS.lsub A hx rfl (hb hby hd) rfl q
theorem WkT.lmul (H : WkT l Z y code mx ret R n0 W V) {a b : Int64} (hd : decode code pc = .ok (.lmul, 1)) (r : W h k n pc Ls (.long b :: .long a :: st)) : W h k n (pc + 1) Ls (.long (a * b) :: st) :=
  H.step r fun A hx hby q => XS.lmul A hx rfl (hb hby hd) rfl q
theorem WkT.land (H : WkT l Z y code mx ret R n0 W V) {a b : Int64} (hd : decode code pc = .ok (.land, 1)) (r : W h k n pc Ls (.long b :: .long a :: st)) : W h k n (pc + 1) Ls (.long (a &&& b) :: st) :=
  H.step r fun A hx hby q => XS.land A hx rfl (hb hby hd) rfl q
theorem WkT.lor (H : WkT l Z y code mx ret R n0 W V) {a b : Int64} (hd : decode code pc = .ok (.lor, 1)) (r : W h k n pc Ls (.long b :: .long a :: st)) : W h k n (pc + 1) Ls (.long (a ||| b) :: st) :=
  H.step r fun A hx hby q => XS.lor A hx rfl (hb hby hd) rfl q
theorem WkT.lxor (H : WkT l Z y code mx ret R n0 W V) {a b : Int64} (hd : decode code pc = .ok (.lxor, 1)) (r : W h k n pc Ls (.long b :: .long a :: st)) : W h k n (pc + 1) Ls (.long (a ^^^ b) :: st) :=
  H.step r fun A hx hby q => XS.lxor A hx rfl (hb hby hd) rfl q
theorem WkT.lshl (H : WkT l Z y code mx ret R n0 W V) {a : Int64} {b : Int32} (hd : decode code pc = .ok (.lshl, 1)) (r : W h k n pc Ls (.int b :: .long a :: st)) : W h k n (pc + 1) Ls (.long (a <<< (b &&& 0x3f).toInt64) :: st) :=
  H.step r fun A hx hby q => XS.lshl A hx rfl (hb hby hd) rfl q
theorem WkT.lshr (H : WkT l Z y code mx ret R n0 W V) {a : Int64} {b : Int32} (hd : decode code pc = .ok (.lshr, 1)) (r : W h k n pc Ls (.int b :: .long a :: st)) : W h k n (pc + 1) Ls (.long (a >>> (b &&& 0x3f).toInt64) :: st) :=
  H.step r fun A hx hby q => XS.lshr A hx rfl (hb hby hd) rfl q
theorem WkT.lushr (H : WkT l Z y code mx ret R n0 W V) {a : Int64} {b : Int32} (hd : decode code pc = .ok (.lushr, 1)) (r : W h k n pc Ls (.int b :: .long a :: st)) : W h k n (pc + 1) Ls (.long ((a.toUInt64 >>> (b &&& 0x3f).toInt64.toUInt64).toInt64) :: st) :=
  H.step r fun A hx hby q => XS.lushr A hx rfl (hb hby hd) rfl q
theorem WkT.ldiv (H : WkT l Z y code mx ret R n0 W V) {a b : Int64} (hd : decode code pc = .ok (.ldiv, 1)) (r : W h k n pc Ls (.long b :: .long a :: st)) (hy : b ≠ 0) : W h k n (pc + 1) Ls (.long (a / b) :: st) :=
  H.step r fun A hx hby q => XS.ldiv A hx rfl (hb hby hd) rfl hy q
theorem WkT.idiv (H : WkT l Z y code mx ret R n0 W V) {a b : Int32} (hd : decode code pc = .ok (.idiv, 1)) (r : W h k n pc Ls (.int b :: .int a :: st)) (hy : b ≠ 0) : W h k n (pc + 1) Ls (.int (a / b) :: st) :=
  H.step r fun A hx hby q => XS.idiv A hx rfl (hb hby hd) rfl hy q
theorem WkT.lrem (H : WkT l Z y code mx ret R n0 W V) {a b : Int64} (hd : decode code pc = .ok (.lrem, 1)) (r : W h k n pc Ls (.long b :: .long a :: st)) (hy : b ≠ 0) : W h k n (pc + 1) Ls (.long (a % b) :: st) := by
  rw [← lrem_mod a b]
  exact H.step r fun A hx hby q => XS.lrem A hx rfl (hb hby hd) rfl hy q
theorem WkT.irem (H : WkT l Z y code mx ret R n0 W V) {a b : Int32} (hd : decode code pc = .ok (.irem, 1)) (r : W h k n pc Ls (.int b :: .int a :: st)) (hy : b ≠ 0) : W h k n (pc + 1) Ls (.int (a % b) :: st) :=
  H.stepX r fun X hx hby hml hown hZ eT => ⟨_, X, eT, fun t q => iremM X hx rfl (hb hby hd) rfl hy q⟩
theorem WkT.i2b (H : WkT l Z y code mx ret R n0 W V) {a : Int32} (hd : decode code pc = .ok (.i2b, 1)) (r : W h k n pc Ls (.int a :: st)) : W h k n (pc + 1) Ls (.int (a.toInt8.toInt32) :: st) :=
  H.step r fun A hx hby q => XS.i2b A hx rfl (hb hby hd) rfl q
theorem WkT.i2c (H : WkT l Z y code mx ret R n0 W V) {a : Int32} (hd : decode code pc = .ok (.i2c, 1)) (r : W h k n pc Ls (.int a :: st)) : W h k n (pc + 1) Ls (.int (a.toUInt32.toUInt16.toUInt32.toInt32) :: st) :=
  H.step r fun A hx hby q => XS.i2c A hx rfl (hb hby hd) rfl q
theorem WkT.i2s (H : WkT l Z y code mx ret R n0 W V) {a : Int32} (hd : decode code pc = .ok (.i2s, 1)) (r : W h k n pc Ls (.int a :: st)) : W h k n (pc + 1) Ls (.int (a.toInt16.toInt32) :: st) :=
  H.step r fun A hx hby q => XS.i2s A hx rfl (hb hby hd) rfl q
theorem WkT.i2l (H : WkT l Z y code mx ret R n0 W V) {a : Int32} (hd : decode code pc = .ok (.i2l, 1)) (r : W h k n pc Ls (.int a :: st)) : W h k n (pc + 1) Ls (.long (a.toInt64) :: st) :=
  H.step r fun A hx hby q => XS.i2l A hx rfl (hb hby hd) rfl q
theorem WkT.l2i (H : WkT l Z y code mx ret R n0 W V) {a : Int64} (hd : decode code pc = .ok (.l2i, 1)) (r : W h k n pc Ls (.long a :: st)) : W h k n (pc + 1) Ls (.int (a.toInt32) :: st) :=
  H.step r fun A hx hby q => XS.l2i A hx rfl (hb hby hd) rfl q
theorem WkT.ineg (H : WkT l Z y code mx ret R n0 W V) {a : Int32} (hd : decode code pc = .ok (.ineg, 1)) (r : W h k n pc Ls (.int a :: st)) : W h k n (pc + 1) Ls (.int (-a) :: st) :=
  H.step r fun A hx hby q => XS.ineg A hx rfl (hb hby hd) rfl q
theorem WkT.lcmp (H : WkT l Z y code mx ret R n0 W V) {a b : Int64} (hd : decode code pc = .ok (.lcmp, 1)) (r : W h k n pc Ls (.long b :: .long a :: st)) : W h k n (pc + 1) Ls (.int (lcmpW a b) :: st) :=
  H.step r fun A hx hby q => XS.lcmp A hx rfl (hb hby hd) rfl q
theorem WkT.dup (H : WkT l Z y code mx ret R n0 W V) {v : Value} (hd : decode code pc = .ok (.dup, 1)) (r : W h k n pc Ls (v :: st)) (hc : v.category = 1) : W h k n (pc + 1) Ls (v :: v :: st) :=
  H.step r fun A hx hby q => XS.dup A hx rfl (hb hby hd) rfl hc q
theorem WkT.pop (H : WkT l Z y code mx ret R n0 W V) {v : Value} (hd : decode code pc = .ok (.pop, 1)) (r : W h k n pc Ls (v :: st)) (hc : v.category = 1) : W h k n (pc + 1) Ls (st) :=
  H.step r fun A hx hby q => XS.pop A hx rfl (hb hby hd) rfl hc q
theorem WkT.dupX1 (H : WkT l Z y code mx ret R n0 W V) {v w : Value} (hd : decode code pc = .ok (.dup_x1, 1)) (r : W h k n pc Ls (v :: w :: st)) (hc : v.category = 1) (hc2 : w.category = 1) : W h k n (pc + 1) Ls (v :: w :: v :: st) :=
  H.step r fun A hx hby q => XS.dupX1 A hx rfl (hb hby hd) rfl hc hc2 q
theorem WkT.istoreN (H : WkT l Z y code mx ret R n0 W V) {i : Fin 4} {v : Int32} (hd : decode code pc = .ok (.istore_n i, 1)) (r : W h k n pc Ls (.int v :: st)) (hl : storeLocals Ls i.val (.int v) = some Ls') : W h k n (pc + 1) Ls' (st) :=
  H.step r fun A hx hby q => XS.istoreN A hx rfl (hb hby hd) rfl hl q
theorem WkT.istore (H : WkT l Z y code mx ret R n0 W V) {i : Nat} {v : Int32} (hd : decode code pc = .ok (.istore i, 2)) (r : W h k n pc Ls (.int v :: st)) (hl : storeLocals Ls i (.int v) = some Ls') : W h k n (pc + 2) Ls' (st) :=
  H.step r fun A hx hby q => XS.istore A hx rfl (hb hby hd) rfl hl q
theorem WkT.lstoreN (H : WkT l Z y code mx ret R n0 W V) {i : Fin 4} {v : Int64} (hd : decode code pc = .ok (.lstore_n i, 1)) (r : W h k n pc Ls (.long v :: st)) (hl : storeLocals Ls i.val (.long v) = some Ls') : W h k n (pc + 1) Ls' (st) :=
  H.step r fun A hx hby q => XS.lstoreN A hx rfl (hb hby hd) rfl hl q
theorem WkT.lstore (H : WkT l Z y code mx ret R n0 W V) {i : Nat} {v : Int64} (hd : decode code pc = .ok (.lstore i, 2)) (r : W h k n pc Ls (.long v :: st)) (hl : storeLocals Ls i (.long v) = some Ls') : W h k n (pc + 2) Ls' (st) :=
  H.step r fun A hx hby q => XS.lstore A hx rfl (hb hby hd) rfl hl q
theorem WkT.astoreN (H : WkT l Z y code mx ret R n0 W V) {i : Fin 4} {v : Value} (hd : decode code pc = .ok (.astore_n i, 1)) (r : W h k n pc Ls (v :: st)) (hv : v.isRef = true) (hl : storeLocals Ls i.val v = some Ls') : W h k n (pc + 1) Ls' (st) :=
  H.step r fun A hx hby q => XS.astoreN A hx rfl (hb hby hd) rfl hv hl q
theorem WkT.astore (H : WkT l Z y code mx ret R n0 W V) {i : Nat} {v : Value} (hd : decode code pc = .ok (.astore i, 2)) (r : W h k n pc Ls (v :: st)) (hv : v.isRef = true) (hl : storeLocals Ls i v = some Ls') : W h k n (pc + 2) Ls' (st) :=
  H.step r fun A hx hby q => XS.astore A hx rfl (hb hby hd) rfl hv hl q
theorem WkT.istoreNS (H : WkT l Z y code mx ret R n0 W V) {i : Fin 4} {v : Int32} {o : Slot} (hd : decode code pc = .ok (.istore_n i, 1)) (r : W h k n pc Ls (.int v :: st)) (hold : Ls[i.val]? = some o) (ho : One o) : W h k n (pc + 1) (Ls.setIfInBounds i.val (.val (.int v))) st :=
  H.step r fun A hx hby q => XS.istoreNS A hx rfl (hb hby hd) rfl hold ho q
theorem WkT.istoreS (H : WkT l Z y code mx ret R n0 W V) {i : Nat} {v : Int32} {o : Slot} (hd : decode code pc = .ok (.istore i, 2)) (r : W h k n pc Ls (.int v :: st)) (hold : Ls[i]? = some o) (ho : One o) : W h k n (pc + 2) (Ls.setIfInBounds i (.val (.int v))) st :=
  H.step r fun A hx hby q => XS.istoreS A hx rfl (hb hby hd) rfl hold ho q
theorem WkT.iinc (H : WkT l Z y code mx ret R n0 W V) {i : Nat} {cst : Int} {v z : Int32} (hd : decode code pc = .ok (.iinc i cst, 3)) (r : W h k n pc Ls (st)) (hz : v + Int32.ofInt cst = z) (hl : Ls[i]? = some (.val (.int v))) (hl' : storeLocals Ls i (.int z) = some Ls') : W h k n (pc + 3) Ls' (st) :=
  H.step r fun A hx hby q => XS.iinc A hx rfl (hb hby hd) hl (hz ▸ hl') q
theorem WkT.goto (H : WkT l Z y code mx ret R n0 W V) {o : Int} (hd : decode code pc = .ok (.goto o, 3)) (r : W h k n pc Ls st) (ho : 0 ≤ (pc : Int) + o) (hp : ((pc : Int) + o).toNat = pc') : W h k n pc' Ls st :=
  H.step r fun A hx hby q => XS.goto A hx rfl rfl (hb hby hd) ho hp q
theorem WkT.ifYes (H : WkT l Z y code mx ret R n0 W V) {cd : ClassFile.Cond} {a : Int32} {o : Int} (hd : decode code pc = .ok (.ifCond cd o, 3)) (r : W h k n pc Ls (.int a :: st)) (ho : 0 ≤ (pc : Int) + o) (hp : ((pc : Int) + o).toNat = pc') (hc : if_icmp.holds cd a 0 = true) : W h k n pc' Ls st :=
  H.step r fun A hx hby q => XS.ifYes A hx rfl rfl (hb hby hd) rfl ((if0 cd a).trans hc) ho hp q
theorem WkT.ifNo (H : WkT l Z y code mx ret R n0 W V) {cd : ClassFile.Cond} {a : Int32} {o : Int} (hd : decode code pc = .ok (.ifCond cd o, 3)) (r : W h k n pc Ls (.int a :: st)) (hc : if_icmp.holds cd a 0 = false) : W h k n (pc + 3) Ls st :=
  H.step r fun A hx hby q => XS.ifNo A hx rfl (hb hby hd) rfl ((if0 cd a).trans hc) q
theorem WkT.icmpYes (H : WkT l Z y code mx ret R n0 W V) {cd : ClassFile.Cond} {a b : Int32} {o : Int} (hd : decode code pc = .ok (.if_icmp cd o, 3)) (r : W h k n pc Ls (.int b :: .int a :: st)) (ho : 0 ≤ (pc : Int) + o) (hp : ((pc : Int) + o).toNat = pc') (hc : if_icmp.holds cd a b = true) : W h k n pc' Ls st :=
  H.step r fun A hx hby q => XS.icmpYes A hx rfl rfl (hb hby hd) rfl hc ho hp q
theorem WkT.icmpNo (H : WkT l Z y code mx ret R n0 W V) {cd : ClassFile.Cond} {a b : Int32} {o : Int} (hd : decode code pc = .ok (.if_icmp cd o, 3)) (r : W h k n pc Ls (.int b :: .int a :: st)) (hc : if_icmp.holds cd a b = false) : W h k n (pc + 3) Ls st :=
  H.step r fun A hx hby q => XS.icmpNo A hx rfl (hb hby hd) rfl hc q
theorem WkT.ifnullYes (H : WkT l Z y code mx ret R n0 W V) {o : Int} (hd : decode code pc = .ok (.ifnull o, 3)) (r : W h k n pc Ls (.null :: st)) (ho : 0 ≤ (pc : Int) + o) (hp : ((pc : Int) + o).toNat = pc') : W h k n pc' Ls st :=
  H.step r fun A hx hby q => XS.ifnullYes A hx rfl rfl (hb hby hd) rfl ho hp q
theorem WkT.ifnullNo (H : WkT l Z y code mx ret R n0 W V) {a : Addr} {o : Int} (hd : decode code pc = .ok (.ifnull o, 3)) (r : W h k n pc Ls (.ref a :: st)) : W h k n (pc + 3) Ls st :=
  H.step r fun A hx hby q => XS.ifnullNo A hx rfl (hb hby hd) rfl q
theorem WkT.ifnonnullYes (H : WkT l Z y code mx ret R n0 W V) {a : Addr} {o : Int} (hd : decode code pc = .ok (.ifnonnull o, 3)) (r : W h k n pc Ls (.ref a :: st)) (ho : 0 ≤ (pc : Int) + o) (hp : ((pc : Int) + o).toNat = pc') : W h k n pc' Ls st :=
  H.step r fun A hx hby q => XS.ifnonnullYes A hx rfl rfl (hb hby hd) rfl ho hp q
theorem WkT.ifnonnullNo (H : WkT l Z y code mx ret R n0 W V) {o : Int} (hd : decode code pc = .ok (.ifnonnull o, 3)) (r : W h k n pc Ls (.null :: st)) : W h k n (pc + 3) Ls st :=
  H.step r fun A hx hby q => XS.ifnonnullNo A hx rfl (hb hby hd) rfl q
theorem WkT.acmpYes (H : WkT l Z y code mx ret R n0 W V) {cd : ClassFile.ACond} {a b : Value} {o : Int} (hd : decode code pc = .ok (.if_acmp cd o, 3)) (r : W h k n pc Ls (b :: a :: st)) (ho : 0 ≤ (pc : Int) + o) (hp : ((pc : Int) + o).toNat = pc') (ha : a.isRef = true) (hb' : b.isRef = true) (hc : XT.acmp cd a b = true) : W h k n pc' Ls st :=
  H.step r fun A hx hby q => XT.acmpYes A hx rfl rfl (hb hby hd) rfl ha hb' hc ho hp q
theorem WkT.acmpNo (H : WkT l Z y code mx ret R n0 W V) {cd : ClassFile.ACond} {a b : Value} {o : Int} (hd : decode code pc = .ok (.if_acmp cd o, 3)) (r : W h k n pc Ls (b :: a :: st)) (ha : a.isRef = true) (hb' : b.isRef = true) (hc : XT.acmp cd a b = false) : W h k n (pc + 3) Ls st :=
  H.step r fun A hx hby q => XT.acmpNo A hx rfl (hb hby hd) rfl ha hb' hc q
theorem WkT.lookHit (H : WkT l Z y code mx ret R n0 W V) {z : Int32} {dflt : Int} {pairs : Array (Int × Int)} {len : Nat} {a off : Int} (hsorted : (pairs.toList.zip (pairs.toList.drop 1)).all (fun (a, next) => a.1 < next.1) = true) (hfind : pairs.find? (·.1 == z.toInt) = some (a, off)) (ho : 0 ≤ (pc : Int) + off) (hp : ((pc : Int) + off).toNat = pc') (hd : decode code pc = .ok (.lookupswitch dflt pairs, len)) (r : W h k n pc Ls (.int z :: st)) : W h k n pc' Ls st := by
  subst hp
  exact H.stepX r fun X hx hby hml hown hZ eT => ⟨_, X, eT, fun t q => X.lookupswitchHit hx (g := mkF _ pc Ls (.int z :: st)) rfl rfl (hb hby hd) hsorted hfind ho t q⟩
theorem WkT.lookMiss (H : WkT l Z y code mx ret R n0 W V) {z : Int32} {dflt : Int} {pairs : Array (Int × Int)} {len : Nat} (hsorted : (pairs.toList.zip (pairs.toList.drop 1)).all (fun (a, next) => a.1 < next.1) = true) (hfind : pairs.find? (·.1 == z.toInt) = none) (ho : 0 ≤ (pc : Int) + dflt) (hp : ((pc : Int) + dflt).toNat = pc') (hd : decode code pc = .ok (.lookupswitch dflt pairs, len)) (r : W h k n pc Ls (.int z :: st)) : W h k n pc' Ls st := by
  subst hp
  exact H.stepX r fun X hx hby hml hown hZ eT => ⟨_, X, eT, fun t q => X.lookupswitchMiss hx (g := mkF _ pc Ls (.int z :: st)) rfl rfl (hb hby hd) hsorted hfind ho t q⟩
theorem WkT.getS (H : WkT l Z y code mx ret R n0 W V) {i : Nat} {O nm d : String} {v : Value} (w : (Jvm.Cond.fieldLink y.cls i O nm d).before a0 Z = true) (F : Sta Z h O nm d v) (hd : decode code pc = .ok (.getstatic i, 3)) (r : W h k n pc Ls st) : W h k n (pc + 3) Ls (v :: st) :=
  H.stepX r fun X hx hby hml hown hZ eT => RoadKit.getS X hx hZ (host := "") hown w Via.refl eT F (g := mkF _ pc Ls st) rfl (hb hby hd)
theorem WkT.instY (H : WkT l Z y code mx ret R n0 W V) {i : Nat} {K : String} {a : Addr} (w : (Jvm.Cond.classLink y.cls i K).before a0 Z = true) (F : Ins Z h a K true) (hd : decode code pc = .ok (.instanceof i, 3)) (r : W h k n pc Ls (.ref a :: st)) : W h k n (pc + 3) Ls (.int 1 :: st) :=
  H.stepX r fun X hx hby hml hown hZ eT => RoadKit.instY X hx hZ hown w eT F (g := mkF _ pc Ls (.ref a :: st)) rfl rfl (hb hby hd)
theorem WkT.instNo (H : WkT l Z y code mx ret R n0 W V) {i : Nat} {K C : String} {a : Addr} (w : (Jvm.Cond.classLink y.cls i K).before a0 Z = true) (E : Exa Z h a C) (F : ∃ c t, Z.vm.findClass C = some c ∧ Z.vm.findClass K = some t ∧ Z.vm.assignable c t = false) (hd : decode code pc = .ok (.instanceof i, 3)) (r : W h k n pc Ls (.ref a :: st)) : W h k n (pc + 3) Ls (.int 0 :: st) :=
  H.stepX r fun X hx hby hml hown hZ eT => RoadKit.instNo X hx hZ hown w eT E F (g := mkF _ pc Ls (.ref a :: st)) rfl rfl (hb hby hd)
theorem WkT.instNull (H : WkT l Z y code mx ret R n0 W V) {i : Nat} (hd : decode code pc = .ok (.instanceof i, 3)) (r : W h k n pc Ls (.null :: st)) : W h k n (pc + 3) Ls (.int 0 :: st) :=
  H.stepX r fun X hx hby hml hown hZ eT => ⟨_, X, eT, X.instanceofNull hx (g := mkF _ pc Ls (.null :: st)) rfl rfl (hb hby hd)⟩
theorem WkT.castY (H : WkT l Z y code mx ret R n0 W V) {i : Nat} {K : String} {a : Addr} (w : (Jvm.Cond.classLink y.cls i K).before a0 Z = true) (F : Ins Z h a K true) (hd : decode code pc = .ok (.checkcast i, 3)) (r : W h k n pc Ls (.ref a :: st)) : W h k n (pc + 3) Ls (.ref a :: st) :=
  H.stepX r fun X hx hby hml hown hZ eT => RoadKit.castY X hx hZ hown w eT F (g := mkF _ pc Ls (.ref a :: st)) rfl rfl (hb hby hd)
theorem WkT.castNull (H : WkT l Z y code mx ret R n0 W V) {i : Nat} (hd : decode code pc = .ok (.checkcast i, 3)) (r : W h k n pc Ls (.null :: st)) : W h k n (pc + 3) Ls (.null :: st) :=
  H.stepX r fun X hx hby hml hown hZ eT => ⟨_, X, eT, X.checkcastNull hx (g := mkF _ pc Ls (.null :: st)) rfl rfl (hb hby hd)⟩
theorem WkT.ldcInt (H : WkT l Z y code mx ret R n0 W V) {i : Nat} {v : Int32} (hd : decode code pc = .ok (.ldc i, 2)) (r : W h k n pc Ls st) (w : (Jvm.Cond.constant y.cls i v).before a0 Z = true) : W h k n (pc + 2) Ls (.int v :: st) :=
  H.stepX r fun X hx hby hml hown hZ eT => ⟨_, X, eT, X.ldcInt hx hown (mvT hZ w) (g := mkF _ pc Ls st) rfl (hb hby hd)⟩
theorem WkT.ldcWInt (H : WkT l Z y code mx ret R n0 W V) {i : Nat} {v : Int32} (hd : decode code pc = .ok (.ldc_w i, 3)) (r : W h k n pc Ls st) (w : (Jvm.Cond.constant y.cls i v).before a0 Z = true) : W h k n (pc + 3) Ls (.int v :: st) :=
  H.stepX r fun {p e s m args below meth c T locs} X hx hby hml hown hZ eT => ⟨T, X, eT, fun t q => by
    obtain ⟨kc, cf, bytes, hk, hcf, hcp, hb'⟩ := Cond.constant_spec hown (mvT (args := args) hZ w)
    obtain ⟨k', hk', he⟩ := X.warmed.alike.2.2 _ _ hk
    have hdg := hb hby hd
    show Steps p.tables e below (T.setTop (mkF m pc Ls st)) t
    jvm_step X.here [hx, hdg, ldc_w.wp_int (s := T) (f := mkF m pc Ls st) X.here.top hk' (by rw [he]; exact hcf) hcp, hb']
    exact q⟩
theorem WkT.ldcFloat (H : WkT l Z y code mx ret R n0 W V) {i : Nat} {v : UInt32} (w : (Jvm.Cond.constantFloat y.cls i v).before a0 Z = true) (hd : decode code pc = .ok (.ldc i, 2)) (r : W h k n pc Ls st) : W h k n (pc + 2) Ls (.float v :: st) :=
  H.stepX r fun X hx hby hml hown hZ eT => ⟨_, X, eT, X.ldcFloatC hx hown (mvT hZ w) (g := mkF _ pc Ls st) rfl (hb hby hd)⟩
theorem WkT.ldcLong (H : WkT l Z y code mx ret R n0 W V) {i : Nat} {v : Int64} (hd : decode code pc = .ok (.ldc2_w i, 3)) (r : W h k n pc Ls st) (w : (Jvm.Cond.constantLong y.cls i v).before a0 Z = true) : W h k n (pc + 3) Ls (.long v :: st) :=
  H.stepX r fun X hx hby hml hown hZ eT => ⟨_, X, eT, X.ldc2Long hx hown (mvT hZ w) (g := mkF _ pc Ls st) rfl (hb hby hd)⟩
theorem WkT.getF (H : WkT l Z y code mx ret R n0 W V) {i : Nat} {R0 O nm d host : String} {a : Addr} {v : Value} (w : (Jvm.Cond.fieldLink y.cls i R0 nm d).before a0 Z = true ∨ (Jvm.Cond.fieldLinkNest y.cls i R0 nm d host).before a0 Z = true) (via : Via Z R0 O nm d) (F : Fld Z h a O nm d v) (hd : decode code pc = .ok (.getfield i, 3)) (r : W h k n pc Ls (.ref a :: st)) : W h k n (pc + 3) Ls (v :: st) :=
  H.stepX r fun X hx hby hml hown hZ eT => RoadKit.getF X hx hZ hown w via eT F (g := mkF _ pc Ls (.ref a :: st)) rfl rfl (hb hby hd)
theorem WkT.getF' (H : WkT l Z y code mx ret R n0 W V) {i : Nat} {O nm d : String} {a : Addr} {v : Value} (w : (Jvm.Cond.fieldLink y.cls i O nm d).before a0 Z = true) (F : Fld Z h a O nm d v) (hd : decode code pc = .ok (.getfield i, 3)) (r : W h k n pc Ls (.ref a :: st)) : W h k n (pc + 3) Ls (v :: st) :=
  H.getF (host := "") (Or.inl w) Via.refl F hd r
theorem WkT.putF (H : WkT l Z y code mx ret R n0 W V) {i kk : Nat} {R0 O nm d host C : String} {ty : FieldType} {a : Addr} {v old : Value} (w : (Jvm.Cond.fieldLink y.cls i R0 nm d).before a0 Z = true ∨ (Jvm.Cond.fieldLinkNest y.cls i R0 nm d host).before a0 Z = true) (via : Via Z R0 O nm d) (F : Fld Z h a O nm d old) (E : Exa Z h a C) (L : (Jvm.Cond.lays C O nm d).before a0 Z = true ∨ ((Jvm.Cond.laysFinal C O nm d).before a0 Z = true ∧ y.cls = O ∧ y.name = "<init>")) (wi : (Jvm.Cond.instantiable C kk).before a0 Z = true)
    (hty : parseFieldDescriptor d = some ty) (hn : narrow ty v = v) (hf : fits ty v = true) (hn0 : n0 ≤ a) (hd : decode code pc = .ok (.putfield i, 3)) (r : W h k n pc Ls (v :: .ref a :: st)) : ∃ h', Wr h h' a (Jvm.RoadKit.slotOf Z O nm d) v ∧ W h' k n (pc + 3) Ls st := by
  obtain ⟨p, e, s0, m, args, below, meth, c, S0, hx, hby, hml, hnm, hret, hlk, rfl, rfl⟩ := H
  obtain ⟨s, T, locs, X, eh, N, hown, hZ, hB, sp⟩ := r
  obtain ⟨T', h', X', e', W', q⟩ := RoadKit.putF X hx hZ hown w via eh F E (L.imp id fun u => ⟨u.1, u.2.1, by rw [hnm]; exact u.2.2⟩) wi hty hn hf (g := mkF m pc Ls (v :: .ref a :: st)) rfl rfl (hb hby hd)
  exact ⟨h', W', s, T', _, X', e', Fr.snoc X' N hn0, hown, hZ, hB.mono (Nat.le_of_eq W'.size.symm), fun t u => sp t (q t u)⟩
theorem WkT.newO (H : WkT l Z y code mx ret R n0 W V) {i q : Nat} {C : String} (w : (Jvm.Cond.classLink y.cls i C).before a0 Z = true) (wi : (Jvm.Cond.instantiable C q).before a0 Z = true) (wz : (Jvm.Cond.initialized C).before a0 Z = true) (hc : k + 1 ≤ R.cells) (hl : n + q ≤ R.slots) (hd : decode code pc = .ok (.new i, 3)) (r : W h k n pc Ls st) :
    ∃ h' a, a = h.size ∧ Ext h h' ∧ Exa Z h' a C ∧ (∀ {O nm d : String} {ty : FieldType}, Laid Z a0 C O nm d → parseFieldDescriptor d = some ty → Fld Z h' a O nm d (defaultValue ty)) ∧ (∃ cell : Cell, h'[a]? = some cell ∧ cell.vm = .none ∧ cell.monitor = {}) ∧ W h' (k + 1) (n + q) (pc + 3) Ls (.ref a :: st) := by
  obtain ⟨p, e, s0, m, args, below, meth, c, S0, hx, hby, hml, hnm, hret, hlk, rfl, rfl⟩ := H
  obtain ⟨s, T, locs, X, eh, N, hown, hZ, hB, sp⟩ := r
  obtain ⟨T', h', X', e', E', A', D', U', q'⟩ := RoadKit.newO X hx hZ hown w wi wz eh (g := mkF m pc Ls st) rfl (hb hby hd) hc hl
  exact ⟨h', _, rfl, E', A', D', U', s, T', _, X', e', N, hown, hZ, hB.mono E'.1, fun t u => sp t (q' t u)⟩
theorem WkT.newP (H : WkT l Z y code mx ret R n0 W V) {aty : ArrayType} {ty : FieldType} {z : Int32} {cap : Nat} (hty : newarray.typeOf aty = ty) (w : (Jvm.Cond.arrayClass ty).before a0 Z = true) (hn : ¬ z < 0) (hcap : z.toNatClampNeg ≤ cap) (hb8 : cap * 8 ≤ 536870912) (hc : k + 1 ≤ R.cells) (hl : n + cap ≤ R.slots) (hd : decode code pc = .ok (.newarray aty, 2)) (r : W h k n pc Ls (.int z :: st)) :
    ∃ h' a cA, a = h.size ∧ Ext h h' ∧ Arr Z h' a (newA cA ty z) ty ∧ W h' (k + 1) (n + cap) (pc + 2) Ls (.ref a :: st) := by
  subst hty
  obtain ⟨p, e, s0, m, args, below, meth, c, S0, hx, hby, hml, hnm, hret, hlk, rfl, rfl⟩ := H
  obtain ⟨s, T, locs, X, eh, N, hown, hZ, hB, sp⟩ := r
  obtain ⟨T', h', cA, X', e', E', A', q'⟩ := RoadKit.newP X hx hZ w eh (g := mkF m pc Ls (.int z :: st)) rfl (hb hby hd) rfl hn hcap hb8 hc hl
  exact ⟨h', _, cA, rfl, E', A', s, T', _, X', e', N, hown, hZ, hB.mono E'.1, fun t u => sp t (q' t u)⟩
theorem WkT.arrLen (H : WkT l Z y code mx ret R n0 W V) {a : Addr} {cl : Cell} {ty : FieldType} {z : Int32} (A : Arr Z h a cl ty) (hz : cl.slots.size.toInt32 = z) (hd : decode code pc = .ok (.arraylength, 1)) (r : W h k n pc Ls (.ref a :: st)) : W h k n (pc + 1) Ls (.int z :: st) := by
  subst hz
  exact H.stepX r fun X hx hby hml hown hZ eT => ⟨_, X, eT, X.arraylength hx (by rw [eT]; exact A.1) (State.isArrayOf_alike hZ.alike A.2.1) (g := mkF _ pc Ls (.ref a :: st)) rfl rfl (hb hby hd)⟩
theorem WkT.iaload (H : WkT l Z y code mx ret R n0 W V) {a : Addr} {cl : Cell} {j : Int32} {v : Value} (A : Arr Z h a cl .int) (hin : ¬ (j < 0 ∨ cl.slots.size ≤ j.toNatClampNeg)) (hv : cl.slots[j.toNatClampNeg]? = some v) (hd : decode code pc = .ok (.iaload, 1)) (r : W h k n pc Ls (.int j :: .ref a :: st)) : W h k n (pc + 1) Ls (v :: st) :=
  H.stepX r fun X hx hby hml hown hZ eT => ⟨_, X, eT, X.iaload hx (by rw [eT]; exact A.1) (State.isArrayOf_alike hZ.alike A.2.1) A.2.2 hin hv (g := mkF _ pc Ls (.int j :: .ref a :: st)) rfl rfl (hb hby hd)⟩
theorem WkT.laload (H : WkT l Z y code mx ret R n0 W V) {a : Addr} {cl : Cell} {j : Int32} {v : Value} (A : Arr Z h a cl .long) (hin : ¬ (j < 0 ∨ cl.slots.size ≤ j.toNatClampNeg)) (hv : cl.slots[j.toNatClampNeg]? = some v) (hd : decode code pc = .ok (.laload, 1)) (r : W h k n pc Ls (.int j :: .ref a :: st)) : W h k n (pc + 1) Ls (v :: st) :=
  H.stepX r fun X hx hby hml hown hZ eT => ⟨_, X, eT, X.laload hx (by rw [eT]; exact A.1) (State.isArrayOf_alike hZ.alike A.2.1) A.2.2 hin hv (g := mkF _ pc Ls (.int j :: .ref a :: st)) rfl rfl (hb hby hd)⟩
theorem WkT.caload (H : WkT l Z y code mx ret R n0 W V) {a : Addr} {cl : Cell} {j : Int32} {v : Value} (A : Arr Z h a cl .char) (hin : ¬ (j < 0 ∨ cl.slots.size ≤ j.toNatClampNeg)) (hv : cl.slots[j.toNatClampNeg]? = some v) (hd : decode code pc = .ok (.caload, 1)) (r : W h k n pc Ls (.int j :: .ref a :: st)) : W h k n (pc + 1) Ls (v :: st) :=
  H.stepX r fun X hx hby hml hown hZ eT => ⟨_, X, eT, X.caload hx (by rw [eT]; exact A.1) (State.isArrayOf_alike hZ.alike A.2.1) A.2.2 hin hv (g := mkF _ pc Ls (.int j :: .ref a :: st)) rfl rfl (hb hby hd)⟩
theorem WkT.baload (H : WkT l Z y code mx ret R n0 W V) {a : Addr} {cl : Cell} {j : Int32} {v : Value} (A : Arr Z h a cl .byte) (hin : ¬ (j < 0 ∨ cl.slots.size ≤ j.toNatClampNeg)) (hv : cl.slots[j.toNatClampNeg]? = some v) (hd : decode code pc = .ok (.baload, 1)) (r : W h k n pc Ls (.int j :: .ref a :: st)) : W h k n (pc + 1) Ls (v :: st) :=
  H.stepX r fun X hx hby hml hown hZ eT => ⟨_, X, eT, X.baloadBytes hx (by rw [eT]; exact A.1) (State.isArrayOf_alike hZ.alike A.2.1) A.2.2 hin hv (g := mkF _ pc Ls (.int j :: .ref a :: st)) rfl rfl (hb hby hd)⟩
theorem WkT.aaload (H : WkT l Z y code mx ret R n0 W V) {a : Addr} {cl : Cell} {ty : FieldType} {j : Int32} {v : Value} (A : Arr Z h a cl ty) (hty : ty.isReference = true) (hin : ¬ (j < 0 ∨ cl.slots.size ≤ j.toNatClampNeg)) (hv : cl.slots[j.toNatClampNeg]? = some v) (hd : decode code pc = .ok (.aaload, 1)) (r : W h k n pc Ls (.int j :: .ref a :: st)) : W h k n (pc + 1) Ls (v :: st) :=
  H.stepX r fun X hx hby hml hown hZ eT => ⟨_, X, eT, X.aaload hx (by rw [eT]; exact A.1) (State.isArrayOf_alike hZ.alike A.2.1) hty A.2.2 hin hv (g := mkF _ pc Ls (.int j :: .ref a :: st)) rfl rfl (hb hby hd)⟩
theorem WkT.stI (H : WkT l Z y code mx ret R n0 W V) {a : Addr} {cl : Cell} {j : Int32} {x : Int32} (A : Arr Z h a cl .int) (hin : ¬ (j < 0 ∨ cl.slots.size ≤ j.toNatClampNeg)) (hn0 : n0 ≤ a) (hd : decode code pc = .ok (.iastore, 1)) (r : W h k n pc Ls (.int x :: .int j :: .ref a :: st)) : ∃ h', Wr h h' a j.toNatClampNeg (.int x) ∧ W h' k n (pc + 1) Ls st := by
  obtain ⟨p, e, s0, m, args, below, meth, c, S0, hx, hby, hml, hnm, hret, hlk, rfl, rfl⟩ := H
  obtain ⟨s, T, locs, X, eh, N, hown, hZ, hB, sp⟩ := r
  obtain ⟨T', h', X', e', W', q⟩ := RoadKit.stI X hx hZ eh A hin (g := mkF m pc Ls (.int x :: .int j :: .ref a :: st)) rfl rfl (hb hby hd)
  exact ⟨h', W', s, T', _, X', e', Fr.snoc X' N hn0, hown, hZ, hB.mono (Nat.le_of_eq W'.size.symm), fun t u => sp t (q t u)⟩
theorem WkT.stJ (H : WkT l Z y code mx ret R n0 W V) {a : Addr} {cl : Cell} {j : Int32} {x : Int64} (A : Arr Z h a cl .long) (hin : ¬ (j < 0 ∨ cl.slots.size ≤ j.toNatClampNeg)) (hn0 : n0 ≤ a) (hd : decode code pc = .ok (.lastore, 1)) (r : W h k n pc Ls (.long x :: .int j :: .ref a :: st)) : ∃ h', Wr h h' a j.toNatClampNeg (.long x) ∧ W h' k n (pc + 1) Ls st := by
  obtain ⟨p, e, s0, m, args, below, meth, c, S0, hx, hby, hml, hnm, hret, hlk, rfl, rfl⟩ := H
  obtain ⟨s, T, locs, X, eh, N, hown, hZ, hB, sp⟩ := r
  obtain ⟨T', h', X', e', W', q⟩ := RoadKit.stJ X hx hZ eh A hin (g := mkF m pc Ls (.long x :: .int j :: .ref a :: st)) rfl rfl (hb hby hd)
  exact ⟨h', W', s, T', _, X', e', Fr.snoc X' N hn0, hown, hZ, hB.mono (Nat.le_of_eq W'.size.symm), fun t u => sp t (q t u)⟩
theorem WkT.stC (H : WkT l Z y code mx ret R n0 W V) {a : Addr} {cl : Cell} {j : Int32} {x : Int32} (A : Arr Z h a cl .char) (hin : ¬ (j < 0 ∨ cl.slots.size ≤ j.toNatClampNeg)) (hn0 : n0 ≤ a) (hd : decode code pc = .ok (.castore, 1)) (r : W h k n pc Ls (.int x :: .int j :: .ref a :: st)) : ∃ h', Wr h h' a j.toNatClampNeg (.int (nar .char x)) ∧ W h' k n (pc + 1) Ls st := by
  obtain ⟨p, e, s0, m, args, below, meth, c, S0, hx, hby, hml, hnm, hret, hlk, rfl, rfl⟩ := H
  obtain ⟨s, T, locs, X, eh, N, hown, hZ, hB, sp⟩ := r
  obtain ⟨T', h', X', e', W', q⟩ := RoadKit.stC X hx hZ eh A hin (g := mkF m pc Ls (.int x :: .int j :: .ref a :: st)) rfl rfl (hb hby hd)
  exact ⟨h', W', s, T', _, X', e', Fr.snoc X' N hn0, hown, hZ, hB.mono (Nat.le_of_eq W'.size.symm), fun t u => sp t (q t u)⟩
theorem WkT.stB (H : WkT l Z y code mx ret R n0 W V) {a : Addr} {cl : Cell} {j : Int32} {x : Int32} (A : Arr Z h a cl .byte) (hin : ¬ (j < 0 ∨ cl.slots.size ≤ j.toNatClampNeg)) (hn0 : n0 ≤ a) (hd : decode code pc = .ok (.bastore, 1)) (r : W h k n pc Ls (.int x :: .int j :: .ref a :: st)) : ∃ h', Wr h h' a j.toNatClampNeg (.int (nar .byte x)) ∧ W h' k n (pc + 1) Ls st := by
  obtain ⟨p, e, s0, m, args, below, meth, c, S0, hx, hby, hml, hnm, hret, hlk, rfl, rfl⟩ := H
  obtain ⟨s, T, locs, X, eh, N, hown, hZ, hB, sp⟩ := r
  obtain ⟨T', h', X', e', W', q⟩ := RoadKit.stB X hx hZ eh A hin (g := mkF m pc Ls (.int x :: .int j :: .ref a :: st)) rfl rfl (hb hby hd)
  exact ⟨h', W', s, T', _, X', e', Fr.snoc X' N hn0, hown, hZ, hB.mono (Nat.le_of_eq W'.size.symm), fun t u => sp t (q t u)⟩
theorem WkT.initO (H : WkT l Z y code mx ret R n0 W V) {i w : Nat} {a : Addr} (w1 : (Jvm.Cond.methodLink y.cls i Lib.objectInit).before a0 Z = true) (w2 : (Jvm.Cond.instanceMethod Lib.objectInit).before a0 Z = true) (w3 : (Jvm.Cond.code Lib.objectInit ⟨#[0xb1]⟩ 1 none).before a0 Z = true) (hsz : Ls.size = mx) (hf : 1 ≤ R.frames) (hw : (st.map fun v => v.category).sum ≤ w) (hl : w + 12 ≤ R.locals) (hd : decode code pc = .ok (.invokespecial i, 3)) (r : W h k n pc Ls (.ref a :: st)) : W h k n (pc + 3) Ls st :=
  H.stepX r fun X hx hby hml hown hZ eT => RoadKit.initO X hx hZ hown w1 w2 w3 eT (g := mkF _ pc Ls (.ref a :: st)) rfl (by rw [hml]; exact hsz) rfl (hb hby hd) hf (by show 2 * 0 + _ ≤ _; omega) hl
variable {y' : MethodName} {bytes' : ByteArray} {mx' : Nat} {ret' : Option FieldType} {rm' : Room} {as' : Array Value} {Q : Option Value → Heap → Prop} {i w : Nat} {ps : List FieldType} {rt : Option FieldType} {argsL rest : List Value}
theorem WkT.callS (H : WkT l Z y code mx ret R n0 W V) (w1 : (Jvm.Cond.methodLink y.cls i y').before a0 Z = true) (w2 : (Jvm.Cond.static y').before a0 Z = true) (w3 : (Jvm.Cond.initialized y'.cls).before a0 Z = true) (w4 : (Jvm.Cond.code y' bytes' mx' ret').before a0 Z = true) (hy : y'.cls ≠ "java/lang/invoke/MethodHandle" ∧ y'.cls ≠ "java/lang/invoke/VarHandle")
    (hpd : parseMethodDescriptor y'.desc = some ⟨ps, rt⟩) (hf : rm'.frames + 1 ≤ R.frames) (hl : w + (mx' + 11) + rm'.locals ≤ R.locals) (hc : k + rm'.cells ≤ R.cells) (hn : n + rm'.slots ≤ R.slots) (hM : Ct l Z y' bytes' mx' ret' rm' n0 argsL.toArray h Q) (hmo : ∀ v h', Q v h' → h.size ≤ h'.size) (hlen : argsL.length = ps.length) (hsz : Ls.size = mx) (hw : (rest.map fun v => v.category).sum ≤ w) (hst : st = argsL.reverse ++ rest) (hd : decode code pc = .ok (.invokestatic i, 3)) (r : W h k n pc Ls st) :
    ∃ v h', Q v h' ∧ W h' (k + rm'.cells) (n + rm'.slots) (pc + 3) Ls (v.toList ++ rest) := by
  subst hst
  obtain ⟨p, e, s0, m, args, below, meth, c, S0, hx, hby, hml, hnm, hret, hlk, rfl, rfl⟩ := H
  obtain ⟨s, T, locs, X, eh, N, hown, hZ, hB, sp⟩ := r
  obtain ⟨v, _, ⟨T1, L1, k1, n1⟩, -, X1, ⟨Lc, hQ, g1, g2, g3⟩, st1⟩ := Jvm.LawKit.callS X hx (y := y') hown (mvT hZ w1) (mvT hZ w2) (mvT hZ w3) (mvT hZ w4) hy (backOf (W := w) (Q := fun v hh L => Q v hh ∧ Fr n0 L) (hM []) hZ w4 w3 hf hl) (g := mkF m pc Ls (argsL.reverse ++ rest)) rfl (by rw [hml]; exact hsz) (argsL := argsL) (rest := rest) (lenOf hpd hlen) rfl (by show 2 * 0 + _ ≤ _; omega) (hb hby hd) (fun _ _ => ⟨rfl, eh, hc, hn⟩)
  dsimp only [Pt.U, Pt.locs, Pt.cells, Pt.slots] at X1 g1 g2 g3 st1 hQ
  subst g1 g2 g3
  exact ⟨v, T1.heap, hQ.1, s, T1, _, X1, rfl, Fr.app N hQ.2, hown, hZ, hB.mono (hmo _ _ hQ.1), fun t u => sp t (st1 t u)⟩
theorem WkT.callI (H : WkT l Z y code mx ret R n0 W V) {a : Addr} (hi : y'.name = "<init>") (w1 : (Jvm.Cond.methodLink y.cls i y').before a0 Z = true) (w2 : (Jvm.Cond.instanceMethod y').before a0 Z = true) (w3 : (Jvm.Cond.initialized y'.cls).before a0 Z = true) (w4 : (Jvm.Cond.code y' bytes' mx' none).before a0 Z = true) (hy : y'.cls ≠ "java/lang/invoke/MethodHandle" ∧ y'.cls ≠ "java/lang/invoke/VarHandle")
    (hpd : parseMethodDescriptor y'.desc = some ⟨ps, rt⟩) (hf : rm'.frames + 1 ≤ R.frames) (hl : w + (mx' + 11) + rm'.locals ≤ R.locals) (hc : k + rm'.cells ≤ R.cells) (hn : n + rm'.slots ≤ R.slots) (hM : Ct l Z y' bytes' mx' none rm' n0 (.ref a :: argsL).toArray h Q) (hmo : ∀ v h', Q v h' → h.size ≤ h'.size) (hlen : argsL.length = ps.length) (hsz : Ls.size = mx) (hw : (rest.map fun v => v.category).sum ≤ w) (hst : st = argsL.reverse ++ .ref a :: rest) (hd : decode code pc = .ok (.invokespecial i, 3)) (r : W h k n pc Ls st) :
    ∃ v h', Q v h' ∧ W h' (k + rm'.cells) (n + rm'.slots) (pc + 3) Ls (v.toList ++ rest) := by
  subst hst
  obtain ⟨p, e, s0, m, args, below, meth, c, S0, hx, hby, hml, hnm, hret, hlk, rfl, rfl⟩ := H
  obtain ⟨s, T, locs, X, eh, N, hown, hZ, hB, sp⟩ := r
  obtain ⟨v, _, ⟨T1, L1, k1, n1⟩, -, X1, ⟨Lc, hQ, g1, g2, g3⟩, st1⟩ := X.specialBack hx (y := y') hi hown (mvT hZ w1) (mvT hZ w2) (mvT hZ w4) hy (backOf (W := w) (Q := fun v hh L => Q v hh ∧ Fr n0 L) (hM []) hZ w4 w3 hf hl) (g := mkF m pc Ls (argsL.reverse ++ .ref a :: rest)) rfl (by rw [hml]; exact hsz) (Steps.refl _) (a := a) (argsL := argsL) (rest := rest) (lenOf hpd hlen) rfl (by show 2 * 0 + _ ≤ _; omega) (hb hby hd) (fun _ _ => ⟨rfl, eh, hc, hn⟩)
  dsimp only [Pt.U, Pt.locs, Pt.cells, Pt.slots] at X1 g1 g2 g3 st1 hQ
  subst g1 g2 g3
  exact ⟨v, T1.heap, hQ.1, s, T1, _, X1, rfl, Fr.app N hQ.2, hown, hZ, hB.mono (hmo _ _ hQ.1), fun t u => sp t (st1.trans u)⟩
theorem WkT.callV (H : WkT l Z y code mx ret R n0 W V) {a : Addr} {C : String} {z' : MethodName} (w1 : (Jvm.Cond.methodLink y.cls i z').before a0 Z = true) (w2 : (Jvm.Cond.declares z').before a0 Z = true) (nf : NF Z a0 z') (w5 : (Jvm.Cond.selects C z' y').before a0 Z = true) (w6 : (Jvm.Cond.instanceMethod y').before a0 Z = true) (w3 : (Jvm.Cond.initialized y'.cls).before a0 Z = true) (w4 : (Jvm.Cond.code y' bytes' mx' ret').before a0 Z = true) (hy : z'.cls ≠ "java/lang/invoke/MethodHandle" ∧ z'.cls ≠ "java/lang/invoke/VarHandle")
    (hpd : parseMethodDescriptor z'.desc = some ⟨ps, rt⟩) (hf : rm'.frames + 1 ≤ R.frames) (hl : w + (mx' + 11) + rm'.locals ≤ R.locals) (hc : k + rm'.cells ≤ R.cells) (hn : n + rm'.slots ≤ R.slots) (E : Exa Z h a C) (hM : Ct l Z y' bytes' mx' ret' rm' n0 (.ref a :: argsL).toArray h Q) (hmo : ∀ v h', Q v h' → h.size ≤ h'.size) (hlen : argsL.length = ps.length) (hsz : Ls.size = mx) (hw : (rest.map fun v => v.category).sum ≤ w) (hst : st = argsL.reverse ++ .ref a :: rest) (hd : decode code pc = .ok (.invokevirtual i, 3)) (r : W h k n pc Ls st) :
    ∃ v h', Q v h' ∧ W h' (k + rm'.cells) (n + rm'.slots) (pc + 3) Ls (v.toList ++ rest) := by
  subst hst
  obtain ⟨p, e, s0, m, args, below, meth, c, S0, hx, hby, hml, hnm, hret, hlk, rfl, rfl⟩ := H
  obtain ⟨s, T, locs, X, eh, N, hown, hZ, hB, sp⟩ := r
  obtain ⟨cq, kq, qa, qb, qc⟩ := isOf (s := s) (T := T) hZ eh E
  obtain ⟨v, _, ⟨T1, L1, k1, n1⟩, -, X1, ⟨Lc, hQ, g1, g2, g3⟩, st1⟩ := X.virtualBack hx (y := z') (z := y') hown (mvT hZ w1) (mvT hZ w2) (nf.at hZ) (mvT hZ w5) (mvT hZ w6) hy (backOf (W := w) (Q := fun v hh L => Q v hh ∧ Fr n0 L) (hM []) hZ w4 w3 hf hl) qa qc (g := mkF m pc Ls (argsL.reverse ++ .ref a :: rest)) rfl (by rw [hml]; exact hsz) (Steps.refl _) (argsL := argsL) (rest := rest) (lenOf hpd hlen) rfl (by show 2 * 0 + _ ≤ _; omega) (hb hby hd) (fun _ _ => ⟨rfl, eh, hc, hn⟩)
  dsimp only [Pt.U, Pt.locs, Pt.cells, Pt.slots] at X1 g1 g2 g3 st1 hQ
  subst g1 g2 g3
  exact ⟨v, T1.heap, hQ.1, s, T1, _, X1, rfl, Fr.app N hQ.2, hown, hZ, hB.mono (hmo _ _ hQ.1), fun t u => sp t (st1.trans u)⟩
theorem WkT.callSP (H : WkT l Z y code mx ret R n0 W V) {v0 : Option Value} (w1 : (Jvm.Cond.methodLink y.cls i y').before a0 Z = true) (w2 : (Jvm.Cond.static y').before a0 Z = true) (w3 : (Jvm.Cond.initialized y'.cls).before a0 Z = true) (w4 : (Jvm.Cond.code y' bytes' mx' ret').before a0 Z = true) (hy : y'.cls ≠ "java/lang/invoke/MethodHandle" ∧ y'.cls ≠ "java/lang/invoke/VarHandle")
    (hpd : parseMethodDescriptor y'.desc = some ⟨ps, rt⟩) (hf : rm'.frames + 1 ≤ R.frames) (hl : w + (mx' + 11) + rm'.locals ≤ R.locals) (hc : k + rm'.cells ≤ R.cells) (hn : n + rm'.slots ≤ R.slots) (hM : Ct l Z y' bytes' mx' ret' rm' n0 argsL.toArray h (fun v h' => v = v0 ∧ h' = h)) (hlen : argsL.length = ps.length) (hsz : Ls.size = mx) (hw : (rest.map fun v => v.category).sum ≤ w) (hst : st = argsL.reverse ++ rest) (hd : decode code pc = .ok (.invokestatic i, 3)) (r : W h k n pc Ls st) :
    W h (k + rm'.cells) (n + rm'.slots) (pc + 3) Ls (v0.toList ++ rest) := by
  obtain ⟨v, h', ⟨e1, e2⟩, r'⟩ := H.callS w1 w2 w3 w4 hy hpd hf hl hc hn hM (fun _ _ q => Nat.le_of_eq (by rw [q.2])) hlen hsz hw hst hd r
  rw [← e1, ← e2]
  rw [e2] at r' ⊢
  exact r'
theorem WkT.callVP (H : WkT l Z y code mx ret R n0 W V) {v0 : Option Value} {a : Addr} {C : String} {z' : MethodName} (w1 : (Jvm.Cond.methodLink y.cls i z').before a0 Z = true) (w2 : (Jvm.Cond.declares z').before a0 Z = true) (nf : NF Z a0 z') (w5 : (Jvm.Cond.selects C z' y').before a0 Z = true) (w6 : (Jvm.Cond.instanceMethod y').before a0 Z = true) (w3 : (Jvm.Cond.initialized y'.cls).before a0 Z = true) (w4 : (Jvm.Cond.code y' bytes' mx' ret').before a0 Z = true) (hy : z'.cls ≠ "java/lang/invoke/MethodHandle" ∧ z'.cls ≠ "java/lang/invoke/VarHandle")
    (hpd : parseMethodDescriptor z'.desc = some ⟨ps, rt⟩) (hf : rm'.frames + 1 ≤ R.frames) (hl : w + (mx' + 11) + rm'.locals ≤ R.locals) (hc : k + rm'.cells ≤ R.cells) (hn : n + rm'.slots ≤ R.slots) (E : Exa Z h a C) (hM : Ct l Z y' bytes' mx' ret' rm' n0 (.ref a :: argsL).toArray h (fun v h' => v = v0 ∧ h' = h)) (hlen : argsL.length = ps.length) (hsz : Ls.size = mx) (hw : (rest.map fun v => v.category).sum ≤ w) (hst : st = argsL.reverse ++ .ref a :: rest) (hd : decode code pc = .ok (.invokevirtual i, 3)) (r : W h k n pc Ls st) :
    W h (k + rm'.cells) (n + rm'.slots) (pc + 3) Ls (v0.toList ++ rest) := by
  obtain ⟨v, h', ⟨e1, e2⟩, r'⟩ := H.callV w1 w2 nf w5 w6 w3 w4 hy hpd hf hl hc hn E hM (fun _ _ q => Nat.le_of_eq (by rw [q.2])) hlen hsz hw hst hd r
  rw [← e1, ← e2]
  rw [e2] at r' ⊢
  exact r'
theorem WkT.retV (H : WkT l Z y code mx ret R n0 W V) {v : Value} {t : FieldType} {ins : Instr} (ht : ret = some t) (hn' : narrow t v = v) (hi : (ins = .ireturn ∧ (t = .int ∨ t = .boolean ∨ t = .byte ∨ t = .char ∨ t = .short) ∧ ∃ z, v = .int z) ∨ (ins = .lreturn ∧ t = .long ∧ ∃ z, v = .long z) ∨ (ins = .dreturn ∧ t = .double ∧ ∃ z, v = .double z) ∨ (ins = .freturn ∧ t = .float ∧ ∃ z, v = .float z) ∨ (ins = .areturn ∧ t.isReference = true ∧ v.isRef = true))
    (hk : k ≤ R.cells) (hn : n ≤ R.slots) (hd : decode code pc = .ok (ins, 1)) (r : W h k n pc Ls (v :: st)) : V (some v) h := by
  obtain ⟨p, e, s0, m, args, below, meth, c, S0, hx, hby, hml, hnm, hret, hlk, rfl, rfl⟩ := H
  obtain ⟨s, T, locs, X, eh, N, hown, hZ, hB, sp⟩ := r
  have hrt : meth.sig.returnType = some t := hret.trans ht
  obtain ⟨fs, hr, hrun, hended, hW, hsame⟩ := X.leave (v := some v) (fun q => by rw [hrt] at q; cases q) hlk
  exact ⟨_, locs, sp _ (retOut X hx hrt hn' hi (hb hby hd) hr), hrun, hended, eh, N, ⟨_, rfl⟩, Base.fin (U := T.setFrames fs) hB eh hW (hsame.mono hk hn)⟩
theorem WkT.retI (H : WkT l Z y code mx ret R n0 W V) {z : Int32} (ht : ret = some .int) (hk : k ≤ R.cells) (hn : n ≤ R.slots) (hd : decode code pc = .ok (.ireturn, 1)) (r : W h k n pc Ls (.int z :: st)) : V (some (.int z)) h :=
  H.retV ht rfl (Or.inl ⟨rfl, Or.inl rfl, z, rfl⟩) hk hn hd r
theorem WkT.retJ (H : WkT l Z y code mx ret R n0 W V) {z : Int64} (ht : ret = some .long) (hk : k ≤ R.cells) (hn : n ≤ R.slots) (hd : decode code pc = .ok (.lreturn, 1)) (r : W h k n pc Ls (.long z :: st)) : V (some (.long z)) h :=
  H.retV ht rfl (Or.inr (Or.inl ⟨rfl, rfl, z, rfl⟩)) hk hn hd r
theorem WkT.retZ (H : WkT l Z y code mx ret R n0 W V) {z z' : Int32} (hz : z &&& 1 = z') (ht : ret = some .boolean) (hk : k ≤ R.cells) (hn : n ≤ R.slots) (hd : decode code pc = .ok (.ireturn, 1)) (r : W h k n pc Ls (.int z :: st)) : V (some (.int z')) h := by
  subst hz
  obtain ⟨p, e, s0, m, args, below, meth, c, S0, hx, hby, hml, hnm, hret, hlk, rfl, rfl⟩ := H
  obtain ⟨s, T, locs, X, eh, N, hown, hZ, hB, sp⟩ := r
  have hrt : meth.sig.returnType = some .boolean := hret.trans ht
  obtain ⟨fs, hr, hrun, hended, hW, hsame⟩ := X.leave (v := some (.int (nar .boolean z))) (fun q => by rw [hrt] at q; cases q) hlk
  exact ⟨_, locs, sp _ (retN X hx hrt (by simp) (hb hby hd) hr), hrun, hended, eh, N, ⟨_, rfl⟩, Base.fin (U := T.setFrames fs) hB eh hW (hsame.mono hk hn)⟩
theorem WkT.retB (H : WkT l Z y code mx ret R n0 W V) {z z' : Int32} (hz : z.toInt8.toInt32 = z') (ht : ret = some .byte) (hk : k ≤ R.cells) (hn : n ≤ R.slots) (hd : decode code pc = .ok (.ireturn, 1)) (r : W h k n pc Ls (.int z :: st)) : V (some (.int z')) h := by
  subst hz
  obtain ⟨p, e, s0, m, args, below, meth, c, S0, hx, hby, hml, hnm, hret, hlk, rfl, rfl⟩ := H
  obtain ⟨s, T, locs, X, eh, N, hown, hZ, hB, sp⟩ := r
  have hrt : meth.sig.returnType = some .byte := hret.trans ht
  obtain ⟨fs, hr, hrun, hended, hW, hsame⟩ := X.leave (v := some (.int (nar .byte z))) (fun q => by rw [hrt] at q; cases q) hlk
  exact ⟨_, locs, sp _ (retN X hx hrt (by simp) (hb hby hd) hr), hrun, hended, eh, N, ⟨_, rfl⟩, Base.fin (U := T.setFrames fs) hB eh hW (hsame.mono hk hn)⟩
theorem WkT.retC (H : WkT l Z y code mx ret R n0 W V) {z z' : Int32} (hz : z.toUInt32.toUInt16.toUInt32.toInt32 = z') (ht : ret = some .char) (hk : k ≤ R.cells) (hn : n ≤ R.slots) (hd : decode code pc = .ok (.ireturn, 1)) (r : W h k n pc Ls (.int z :: st)) : V (some (.int z')) h := by
  subst hz
  obtain ⟨p, e, s0, m, args, below, meth, c, S0, hx, hby, hml, hnm, hret, hlk, rfl, rfl⟩ := H
  obtain ⟨s, T, locs, X, eh, N, hown, hZ, hB, sp⟩ := r
  have hrt : meth.sig.returnType = some .char := hret.trans ht
  obtain ⟨fs, hr, hrun, hended, hW, hsame⟩ := X.leave (v := some (.int (nar .char z))) (fun q => by rw [hrt] at q; cases q) hlk
  exact ⟨_, locs, sp _ (retN X hx hrt (by simp) (hb hby hd) hr), hrun, hended, eh, N, ⟨_, rfl⟩, Base.fin (U := T.setFrames fs) hB eh hW (hsame.mono hk hn)⟩
theorem WkT.retR (H : WkT l Z y code mx ret R n0 W V) {v : Value} {t : FieldType} (ht : ret = some t) (htr : t.isReference = true) (hv : v.isRef = true) (hk : k ≤ R.cells) (hn : n ≤ R.slots) (hd : decode code pc = .ok (.areturn, 1)) (r : W h k n pc Ls (v :: st)) : V (some v) h :=
  H.retV ht (by cases v <;> simp [Value.isRef] at hv <;> cases t <;> simp [FieldType.isReference] at htr <;> rfl) (Or.inr (Or.inr (Or.inr (Or.inr ⟨rfl, htr, hv⟩)))) hk hn hd r
theorem WkT.retN (H : WkT l Z y code mx ret R n0 W V) (ht : ret = none) (hk : k ≤ R.cells) (hn : n ≤ R.slots) (hd : decode code pc = .ok (.return_, 1)) (r : W h k n pc Ls []) : V none h := by
  obtain ⟨p, e, s0, m, args, below, meth, c, S0, hx, hby, hml, hnm, hret, hlk, rfl, rfl⟩ := H
  obtain ⟨s, T, locs, X, eh, N, hown, hZ, hB, sp⟩ := r
  have hrt : meth.sig.returnType = none := hret.trans ht
  obtain ⟨fs, hr, hrun, hended, hW, hsame⟩ := X.leave (v := none) (fun _ => rfl) hlk
  exact ⟨_, locs, sp _ (X.returnOut hx hrt (hb hby hd) hr), hrun, hended, eh, N, ⟨_, rfl⟩, Base.fin (U := T.setFrames fs) hB eh hW (hsame.mono hk hn)⟩
end Steps
section Arrays
variable {l : Launch} {Z : State} {y : MethodName} {code : ByteArray} {mx : Nat} {ret : Option FieldType} {R : Room} {n0 : Nat} {W : WT} {V : VT} {h h' : Heap} {k n pc : Nat} {Ls : Array Slot} {st : List Value} {a0 : Array Value} {a b : Addr} {ty : FieldType} {vs : List Value} {ws : List Addr} {sl : Nat} {v : Value}
theorem WkT.newA (H : WkT l Z y code mx ret R n0 W V) {aty : ArrayType} {z : Int32} {cap i : Nat} {d : Value} (hty : newarray.typeOf aty = ty) (hdv : defaultValue ty = d) (w : (Jvm.Cond.arrayClass ty).before a0 Z = true) (hz : z.toInt = i) (hcap : i ≤ cap) (hb8 : cap * 8 ≤ 536870912) (hc : k + 1 ≤ R.cells) (hl : n + cap ≤ R.slots) (hd : decode code pc = .ok (.newarray aty, 2)) (r : W h k n pc Ls (.int z :: st)) :
    ∃ h' a, a = h.size ∧ Ext h h' ∧ Ary Z h' a ty (List.replicate i d) ∧ W h' (k + 1) (n + cap) (pc + 2) Ls (.ref a :: st) := by
  obtain ⟨h1, h2⟩ := idx_ok hz
  obtain ⟨h', a, cA, e, E, A, r'⟩ := H.newP hty w h2 (by rw [h1]; exact hcap) hb8 hc hl hd r
  refine ⟨h', a, e, E, ⟨_, A, ?_⟩, r'⟩
  show Array.replicate z.toNatClampNeg (defaultValue ty) = _
  rw [h1, hdv, List.toArray_replicate]
theorem WkT.newAE (H : WkT l Z y code mx ret R n0 W V) {aty : ArrayType} {z : Int32} {cap i : Nat} {d : Value} {ad : String} (hty : newarray.typeOf aty = ty) (hdv : defaultValue ty = d) (had : "[" ++ ty.toString = ad) (w : (Jvm.Cond.arrayClass ty).before a0 Z = true) (hz : z.toInt = i) (hcap : i ≤ cap) (hb8 : cap * 8 ≤ 536870912) (hc : k + 1 ≤ R.cells) (hl : n + cap ≤ R.slots) (hd : decode code pc = .ok (.newarray aty, 2)) (r : W h k n pc Ls (.int z :: st)) :
    ∃ h' a, a = h.size ∧ Ext h h' ∧ Ary Z h' a ty (List.replicate i d) ∧ Exa Z h' a ad ∧ W h' (k + 1) (n + cap) (pc + 2) Ls (.ref a :: st) := by
  obtain ⟨h1, h2⟩ := idx_ok hz
  subst hty
  obtain ⟨p, e, s0, m, args, below, meth, c, S0, hx, hby, hml, hnm, hret, hlk, rfl, rfl⟩ := H
  obtain ⟨s, T, locs, X, eh, N, hown, hZ, hB, sp⟩ := r
  obtain ⟨T', h', cA, X', e', E', A', EX, q'⟩ := RoadKit.newPE X hx hZ w eh (g := mkF m pc Ls (.int z :: st)) rfl (hb hby hd) rfl h2 (by rw [h1]; exact hcap) hb8 hc hl had
  refine ⟨h', _, rfl, E', ⟨_, A', ?_⟩, EX, s, T', _, X', e', N, hown, hZ, hB.mono E'.1, fun t u => sp t (q' t u)⟩
  show Array.replicate z.toNatClampNeg (defaultValue (newarray.typeOf aty)) = _
  rw [h1, hdv, List.toArray_replicate]
theorem WkT.cloneA (H : WkT l Z y code mx ret R n0 W V) {i w cap : Nat} {ad : String} (w1 : (Jvm.Cond.methodLink y.cls i ⟨ad, "clone", "()Ljava/lang/Object;"⟩).before a0 Z = true) (w2 : (Jvm.Cond.sameMethod ad "java/lang/Object" "clone" "()Ljava/lang/Object;").before a0 Z = true) (w3 : (Jvm.Cond.native ⟨"java/lang/Object", "clone", "()Ljava/lang/Object;"⟩).before a0 Z = true)
    (w4 : (Jvm.Cond.instanceMethod ⟨"java/lang/Object", "clone", "()Ljava/lang/Object;"⟩).before a0 Z = true) (w5 : (Jvm.Cond.selects ad ⟨ad, "clone", "()Ljava/lang/Object;"⟩ ⟨"java/lang/Object", "clone", "()Ljava/lang/Object;"⟩).before a0 Z = true) (w6 : (Jvm.Cond.castable ad "java/lang/Cloneable").before a0 Z = true)
    (A : Ary Z h a ty vs) (E : Exa Z h a ad) (hfit : ∀ v ∈ vs, fits ty v = true) (hsz : Ls.size = mx) (hf : 1 ≤ R.frames) (hw : (st.map fun v => v.category).sum ≤ w) (hl : w + 14 ≤ R.locals) (hcap : vs.length ≤ cap) (hc : k + 1 ≤ R.cells) (hsl : n + cap ≤ R.slots) (hd : decode code pc = .ok (.invokevirtual i, 3)) (r : W h k n pc Ls (.ref a :: st)) :
    ∃ h' b, b = h.size ∧ Ext h h' ∧ Ary Z h' b ty vs ∧ Exa Z h' b ad ∧ W h' (k + 1) (n + cap) (pc + 3) Ls (.ref b :: st) := by
  obtain ⟨p, e, s0, m, args, below, meth, c, S0, hx, hby, hml, hnm, hret, hlk, rfl, rfl⟩ := H
  obtain ⟨s, T, locs, X, eh, N, hown, hZ, hB, sp⟩ := r
  obtain ⟨cl, Ar, q⟩ := A
  have hF : FitC Z cl := fitC_of Ar (fun j hj v hv => hfit v (by rw [q, List.getElem?_toArray] at hv; exact List.mem_of_getElem? hv))
  obtain ⟨T', h', X', e', E', A', EX, q'⟩ := RoadKit.cloneA X hx hZ hown w1 w2 w3 w4 w5 w6 eh Ar E hF (g := mkF m pc Ls (.ref a :: st)) rfl (by rw [hml]; exact hsz) rfl (hb hby hd) hf (by show 2 * 0 + _ ≤ _; omega) hl (by rw [q, List.size_toArray]; exact hcap) hc hsl
  exact ⟨h', _, rfl, E', ⟨_, A', q⟩, EX, s, T', _, X', e', N, hown, hZ, hB.mono E'.1, fun t u => sp t (q' t u)⟩
theorem WkT.lenA (H : WkT l Z y code mx ret R n0 W V) {z : Int32} (A : Ary Z h a ty vs) (hz : vs.length.toInt32 = z) (hd : decode code pc = .ok (.arraylength, 1)) (r : W h k n pc Ls (.ref a :: st)) : W h k n (pc + 1) Ls (.int z :: st) := by
  obtain ⟨c, A, q⟩ := A
  exact H.arrLen A (by rw [q, List.size_toArray]; exact hz) hd r
theorem WkT.ldI (H : WkT l Z y code mx ret R n0 W V) {j : Int32} {i : Nat} (A : Ary Z h a .int vs) (hj : j.toInt = i) (hv : vs[i]? = some v) (hd : decode code pc = .ok (.iaload, 1)) (r : W h k n pc Ls (.int j :: .ref a :: st)) : W h k n (pc + 1) Ls (v :: st) := by
  obtain ⟨c, A, q⟩ := A
  obtain ⟨h1, h2⟩ := idx_ok hj
  exact H.iaload A (idx_in' hj q (List.getElem?_eq_some_iff.mp hv).1) (by rw [h1, q, List.getElem?_toArray]; exact hv) hd r
theorem WkT.ldJ (H : WkT l Z y code mx ret R n0 W V) {j : Int32} {i : Nat} (A : Ary Z h a .long vs) (hj : j.toInt = i) (hv : vs[i]? = some v) (hd : decode code pc = .ok (.laload, 1)) (r : W h k n pc Ls (.int j :: .ref a :: st)) : W h k n (pc + 1) Ls (v :: st) := by
  obtain ⟨c, A, q⟩ := A
  obtain ⟨h1, h2⟩ := idx_ok hj
  exact H.laload A (idx_in' hj q (List.getElem?_eq_some_iff.mp hv).1) (by rw [h1, q, List.getElem?_toArray]; exact hv) hd r
theorem WkT.ldC (H : WkT l Z y code mx ret R n0 W V) {j : Int32} {i : Nat} (A : Ary Z h a .char vs) (hj : j.toInt = i) (hv : vs[i]? = some v) (hd : decode code pc = .ok (.caload, 1)) (r : W h k n pc Ls (.int j :: .ref a :: st)) : W h k n (pc + 1) Ls (v :: st) := by
  obtain ⟨c, A, q⟩ := A
  obtain ⟨h1, h2⟩ := idx_ok hj
  exact H.caload A (idx_in' hj q (List.getElem?_eq_some_iff.mp hv).1) (by rw [h1, q, List.getElem?_toArray]; exact hv) hd r
theorem WkT.ldB (H : WkT l Z y code mx ret R n0 W V) {j : Int32} {i : Nat} (A : Ary Z h a .byte vs) (hj : j.toInt = i) (hv : vs[i]? = some v) (hd : decode code pc = .ok (.baload, 1)) (r : W h k n pc Ls (.int j :: .ref a :: st)) : W h k n (pc + 1) Ls (v :: st) := by
  obtain ⟨c, A, q⟩ := A
  obtain ⟨h1, h2⟩ := idx_ok hj
  exact H.baload A (idx_in' hj q (List.getElem?_eq_some_iff.mp hv).1) (by rw [h1, q, List.getElem?_toArray]; exact hv) hd r
theorem WkT.putI (H : WkT l Z y code mx ret R n0 W V) {j : Int32} {i : Nat} {x : Int32} (A : Ary Z h a .int vs) (hj : j.toInt = i) (hi : i < vs.length) (hn0 : n0 ≤ a) (hd : decode code pc = .ok (.iastore, 1)) (r : W h k n pc Ls (.int x :: .int j :: .ref a :: st)) : ∃ h', Wr h h' a i (.int x) ∧ Ary Z h' a .int (vs.set i (.int x)) ∧ W h' k n (pc + 1) Ls st := by
  obtain ⟨h1, h2⟩ := idx_ok hj
  obtain ⟨c, A', q⟩ := id A
  obtain ⟨h', w, r'⟩ := H.stI A' (idx_in' hj q hi) hn0 hd r
  rw [h1] at w
  exact ⟨h', w, A.same w, r'⟩
theorem WkT.putJ (H : WkT l Z y code mx ret R n0 W V) {j : Int32} {i : Nat} {x : Int64} (A : Ary Z h a .long vs) (hj : j.toInt = i) (hi : i < vs.length) (hn0 : n0 ≤ a) (hd : decode code pc = .ok (.lastore, 1)) (r : W h k n pc Ls (.long x :: .int j :: .ref a :: st)) : ∃ h', Wr h h' a i (.long x) ∧ Ary Z h' a .long (vs.set i (.long x)) ∧ W h' k n (pc + 1) Ls st := by
  obtain ⟨h1, h2⟩ := idx_ok hj
  obtain ⟨c, A', q⟩ := id A
  obtain ⟨h', w, r'⟩ := H.stJ A' (idx_in' hj q hi) hn0 hd r
  rw [h1] at w
  exact ⟨h', w, A.same w, r'⟩
theorem WkT.putC (H : WkT l Z y code mx ret R n0 W V) {j : Int32} {i : Nat} {x : Int32} {z : Int32} (hz : x.toUInt32.toUInt16.toUInt32.toInt32 = z) (A : Ary Z h a .char vs) (hj : j.toInt = i) (hi : i < vs.length) (hn0 : n0 ≤ a) (hd : decode code pc = .ok (.castore, 1)) (r : W h k n pc Ls (.int x :: .int j :: .ref a :: st)) : ∃ h', Wr h h' a i (.int z) ∧ Ary Z h' a .char (vs.set i (.int z)) ∧ W h' k n (pc + 1) Ls st := by
  subst hz
  obtain ⟨h1, h2⟩ := idx_ok hj
  obtain ⟨c, A', q⟩ := id A
  obtain ⟨h', w, r'⟩ := H.stC A' (idx_in' hj q hi) hn0 hd r
  rw [h1] at w
  exact ⟨h', w, A.same w, r'⟩
theorem WkT.putB (H : WkT l Z y code mx ret R n0 W V) {j : Int32} {i : Nat} {x : Int32} {z : Int32} (hz : x.toInt8.toInt32 = z) (A : Ary Z h a .byte vs) (hj : j.toInt = i) (hi : i < vs.length) (hn0 : n0 ≤ a) (hd : decode code pc = .ok (.bastore, 1)) (r : W h k n pc Ls (.int x :: .int j :: .ref a :: st)) : ∃ h', Wr h h' a i (.int z) ∧ Ary Z h' a .byte (vs.set i (.int z)) ∧ W h' k n (pc + 1) Ls st := by
  subst hz
  obtain ⟨h1, h2⟩ := idx_ok hj
  obtain ⟨c, A', q⟩ := id A
  obtain ⟨h', w, r'⟩ := H.stB A' (idx_in' hj q hi) hn0 hd r
  rw [h1] at w
  exact ⟨h', w, A.same w, r'⟩
end Arrays
section Lits
variable {l : Launch} {Z : State} {y : MethodName} {code : ByteArray} {mx : Nat} {ret : Option FieldType} {R : Room} {n0 : Nat} {W : WT} {V : VT} {h : Heap} {k n pc : Nat} {Ls : Array Slot} {st : List Value} {a0 : Array Value}
/-- ldc of a String constant, opaque -/
theorem WkT.ldcO (H : WkT l Z y code mx ret R n0 W V) {i q : Nat} {text : String} (w : (Jvm.Cond.stringLink y.cls i text).before a0 Z = true) (wS : ∀ a ∈ Bundle.stringAtoms, a.before a0 Z = true)
    (hq : 4 * text.toList.length ≤ q) (hbig : q ≤ 536870912) (hc : k + 2 ≤ R.cells) (hn : n + (q + 4) ≤ R.slots) (hd : decode code pc = .ok (.ldc i, 2)) (r : W h k n pc Ls st) :
    ∃ (h' : Heap) (a : Addr), Ext h h' ∧ W h' (k + 2) (n + (q + 4)) (pc + 2) Ls (.ref a :: st) := by
  obtain ⟨p, e, s0, m, args, below, meth, c, S0, hx, hby, hml, hnm, hret, hlk, rfl, rfl⟩ := H
  obtain ⟨s, T, locs, X, eh, N, hown, hZ, ⟨vm0, k0, rfl, S, hk⟩, sp⟩ := r
  obtain ⟨a, T', h', k1, X', e', E', S', hk', hZ', hown', st'⟩ := RoadKit.ldcS X hx hZ hown w wS eh S hk (g := mkF m pc Ls st) rfl (hb hby hd) hq hbig hc hn
  exact ⟨h', a, E', s0.setVm T'.vm, T', locs, X', e', N, hown', hZ', ⟨T'.vm, k1, rfl, S', hk'⟩, fun t u => sp t (st' t u)⟩
/-- a static call of a method that may intern -/
theorem WkT.callSS (H : WkT l Z y code mx ret R n0 W V) {i : Nat} {y' : MethodName} {bytes' : ByteArray} {mx' : Nat} {ret' : Option FieldType} {rm' : Room} {w : Nat} {argsL rest : List Value} {Q : Option Value → Heap → Prop} {ps : List FieldType} {rt : Option FieldType} (w1 : (Jvm.Cond.methodLink y.cls i y').before a0 Z = true) (w2 : (Jvm.Cond.static y').before a0 Z = true) (w3 : (Jvm.Cond.initialized y'.cls).before a0 Z = true) (w4 : (Jvm.Cond.code y' bytes' mx' ret').before a0 Z = true) (hy : y'.cls ≠ "java/lang/invoke/MethodHandle" ∧ y'.cls ≠ "java/lang/invoke/VarHandle")
    (hpd : parseMethodDescriptor y'.desc = some ⟨ps, rt⟩) (hf : rm'.frames + 1 ≤ R.frames) (hl : w + (mx' + 11) + rm'.locals ≤ R.locals) (hc : k + rm'.cells ≤ R.cells) (hn : n + rm'.slots ≤ R.slots) (hM : CtT l Z y' bytes' mx' ret' rm' n0 argsL.toArray h Q) (hlen : argsL.length = ps.length) (hsz : Ls.size = mx) (hw : (rest.map fun v => v.category).sum ≤ w) (hst : st = argsL.reverse ++ rest) (hd : decode code pc = .ok (.invokestatic i, 3)) (r : W h k n pc Ls st) :
    ∃ v h', Q v h' ∧ W h' (k + rm'.cells) (n + rm'.slots) (pc + 3) Ls (v.toList ++ rest) := by
  subst hst
  obtain ⟨p, e, s0, m, args, below, meth, c, S0, hx, hby, hml, hnm, hret, hlk, rfl, rfl⟩ := H
  obtain ⟨s, T, locs, X, eh, N, hown, hZ, ⟨vm0, k0, rfl, S, hk⟩, sp⟩ := r
  obtain ⟨v, _, ⟨T1, L1, k1, n1⟩, -, X1, S1, gr, ⟨Lc, hQ, g1, g2, g3⟩, st1⟩ := RoadKit.callSS X hx (y := y') hown (mvT hZ w1) (mvT hZ w2) (mvT hZ w3) (mvT hZ w4) hy (backOfS (W := w) (Q := fun v hh L => Q v hh ∧ Fr n0 L) (hM []) hZ w4 w3 hf hl) (g := mkF m pc Ls (argsL.reverse ++ rest)) rfl (by rw [hml]; exact hsz) (argsL := argsL) (rest := rest) (lenOf hpd hlen) rfl (by show 2 * 0 + _ ≤ _; omega) (hb hby hd) (fun _ _ => ⟨rfl, eh, hc, hn⟩)
  dsimp only [Pt.U, Pt.locs, Pt.cells, Pt.slots] at X1 g1 g2 g3 st1 hQ S1 gr
  subst g1 g2 g3
  subst eh
  exact ⟨v, T1.heap, hQ.1, s0.setVm T1.vm, T1, _, X1, rfl, Fr.app N hQ.2, by rw [show (s0.setVm T1.vm).vm = T1.vm from rfl, S1.1.alike.findClass]; exact hown, State.Warmed39.trans (t := s0.setVm vm0) hZ S1.1, ⟨T1.vm, _, rfl, foldS S hk S1 gr, Nat.le_refl _⟩, fun t u => sp t (st1.trans u)⟩
end Lits
end Jvm.OwnT

namespace Jvm.OwnW
open Jvm Jvm.ClassFile Sem Op Lib Jvm.Free Jvm.Stand Jvm.LawKit Jvm.RoadKit Bundle
section More
variable {l : Launch} {Z : State} {y : MethodName} {code : ByteArray} {mx : Nat} {ret : Option FieldType} {R : Room} {n0 : Nat} {W : WT} {V : VT} {h : Heap} {k n pc : Nat} {Ls : Array Slot} {st : List Value} {a0 : Array Value} {i : Nat} {y' : MethodName} {bytes' : ByteArray} {mx' : Nat} {ret' : Option FieldType} {rm' : Room} {w : Nat} {argsL rest : List Value} {Q : Option Value → Heap → Prop} {ps : List FieldType} {rt : Option FieldType}
/-- invokeinterface -/
theorem Wk.callF (H : Wk l Z y code mx ret R n0 W V) {a : Addr} {C : String} {z' : MethodName} {cnt : Nat} (w1 : (Jvm.Cond.methodLink y.cls i z').before a0 Z = true) (w2 : (Jvm.Cond.declares z').before a0 Z = true) (w7 : (Jvm.Cond.interfaceMethod z'.cls z'.cls z'.name z'.desc).before a0 Z = true) (w5 : (Jvm.Cond.selects C z' y').before a0 Z = true) (w6 : (Jvm.Cond.instanceMethod y').before a0 Z = true) (w8 : (Jvm.Cond.publicMethod y').before a0 Z = true) (w9 : (Jvm.Cond.unhidden C z'.name z'.desc).before a0 Z = true) (w10 : (Jvm.Cond.castable C z'.cls).before a0 Z = true) (w3 : (Jvm.Cond.initialized y'.cls).before a0 Z = true) (w4 : (Jvm.Cond.code y' bytes' mx' ret').before a0 Z = true) (hy : z'.cls ≠ "java/lang/invoke/MethodHandle" ∧ z'.cls ≠ "java/lang/invoke/VarHandle")
    (hpd : parseMethodDescriptor z'.desc = some ⟨ps, rt⟩) (hf : rm'.frames + 1 ≤ R.frames) (hl : w + (mx' + 11) + rm'.locals ≤ R.locals) (hc : k + rm'.cells ≤ R.cells) (hn : n + rm'.slots ≤ R.slots) (E : Exa Z h a C) (hM : Ct l Z y' bytes' mx' ret' rm' n0 (.ref a :: argsL).toArray h Q) (hlen : argsL.length = ps.length) (hsz : Ls.size = mx) (hw : (rest.map fun v => v.category).sum ≤ w) (hst : st = argsL.reverse ++ .ref a :: rest) (hd : decode code pc = .ok (.invokeinterface i cnt, 5)) (r : W h k n pc Ls st) :
    ∃ v h', Q v h' ∧ W h' (k + rm'.cells) (n + rm'.slots) (pc + 5) Ls (v.toList ++ rest) := by
  subst hst
  obtain ⟨p, e, s, m, args, below, meth, c, S0, hx, hby, hml, hown, hZ, hnm, hret, hlk, rfl, rfl⟩ := H
  obtain ⟨T, locs, X, eh, N, sp⟩ := r
  obtain ⟨cq, kq, qa, qb, qc⟩ := isOf (s := s) (T := T) hZ eh E
  obtain ⟨v, _, ⟨T1, L1, k1, n1⟩, -, X1, ⟨Lc, hQ, g1, g2, g3⟩, st1⟩ := X.interfaceBack hx (xi := z') (y := y') hown (mvT hZ w1) (mvT hZ w2) (mvT hZ w7 (by simp [Cond.onTables, Cond.keepsFace, Cond.keeps, Cond.steady, Cond.faceAtom, hy.1, hy.2])) (mvT hZ w5) (mvT hZ w6) (mvT hZ w8) (mvT hZ w9) (mvT hZ w10) hy (backOf (W := w) (Q := fun v hh L => Q v hh ∧ Fr n0 L) (hM []) hZ w4 w3 hf hl) qa qb qc (g := mkF m pc Ls (argsL.reverse ++ .ref a :: rest)) rfl (by rw [hml]; exact hsz) (Steps.refl _) (argsL := argsL) (rest := rest) (lenOf hpd hlen) rfl (by show 2 * 0 + _ ≤ _; omega) (hb hby hd) (fun _ _ => ⟨rfl, eh, hc, hn⟩)
  dsimp only [Pt.U, Pt.locs, Pt.cells, Pt.slots] at X1 g1 g2 g3 st1 hQ
  subst g1 g2 g3
  exact ⟨v, T1.heap, hQ.1, T1, _, X1, rfl, Fr.app N hQ.2, fun t u => sp t (st1.trans u)⟩
/-- the class itself declares the method -/
theorem own_same (nf : NF Z a0 y') (w2 : (Jvm.Cond.declares y').before a0 Z = true) (hy : y'.cls ≠ "java/lang/invoke/MethodHandle" ∧ y'.cls ≠ "java/lang/invoke/VarHandle") : (Jvm.Cond.sameMethod y'.cls y'.cls y'.name y'.desc).before a0 Z = true := by
  obtain ⟨r0, r, hn, hrm, -, -⟩ := Cond.declares_spec w2
  obtain ⟨kk, hk, hni⟩ := NF.at (State.Warmed39.refl Z) nf r0 hn
  have hf := State.methodFound?_of_named hn hy
  have hc := findClass_of_methodNamed hn
  have hn' : Z.methodNamed? ⟨y'.cls, y'.name, y'.desc⟩ = some r0 := hn
  simp only [Cond.before, Cond.holds, Cond.value, hc, hf, hn', hk] <;> simp [hni]
/-- invokespecial of the superclass's method -/
theorem Wk.superC (H : Wk l Z y code mx ret R n0 W V) {a : Addr} {C : String} (w1 : (Jvm.Cond.methodLink y.cls i y').before a0 Z = true) (w2 : (Jvm.Cond.declares y').before a0 Z = true) (nf : NF Z a0 y') (w6 : (Jvm.Cond.instanceMethod y').before a0 Z = true) (w7 : (Jvm.Cond.superclass y.cls y'.cls).before a0 Z = true) (w3 : (Jvm.Cond.initialized y'.cls).before a0 Z = true) (w4 : (Jvm.Cond.code y' bytes' mx' ret').before a0 Z = true) (hy : y'.cls ≠ "java/lang/invoke/MethodHandle" ∧ y'.cls ≠ "java/lang/invoke/VarHandle") (hni : y'.name ≠ "<init>")
    (hpd : parseMethodDescriptor y'.desc = some ⟨ps, rt⟩) (hf : rm'.frames + 1 ≤ R.frames) (hl : w + (mx' + 11) + rm'.locals ≤ R.locals) (hc : k + rm'.cells ≤ R.cells) (hn : n + rm'.slots ≤ R.slots) (E : Exa Z h a C) (hM : Ct l Z y' bytes' mx' ret' rm' n0 (.ref a :: argsL).toArray h Q) (hlen : argsL.length = ps.length) (hsz : Ls.size = mx) (hw : (rest.map fun v => v.category).sum ≤ w) (hst : st = argsL.reverse ++ .ref a :: rest) (hd : decode code pc = .ok (.invokespecial i, 3)) (r : W h k n pc Ls st) :
    ∃ v h', Q v h' ∧ W h' (k + rm'.cells) (n + rm'.slots) (pc + 3) Ls (v.toList ++ rest) := by
  subst hst
  obtain ⟨p, e, s, m, args, below, meth, c, S0, hx, hby, hml, hown, hZ, hnm, hret, hlk, rfl, rfl⟩ := H
  obtain ⟨T, locs, X, eh, N, sp⟩ := r
  obtain ⟨v, _, ⟨T1, L1, k1, n1⟩, -, X1, ⟨Lc, hQ, g1, g2, g3⟩, st1⟩ := RoadKit.superBack X hx hZ (y := y') hown w1 (own_same nf w2 hy) w6 w7 hni (backOf (W := w) (Q := fun v hh L => Q v hh ∧ Fr n0 L) (hM []) hZ w4 w3 hf hl) eh (Ins.self E) (g := mkF m pc Ls (argsL.reverse ++ .ref a :: rest)) rfl (by rw [hml]; exact hsz) w4 (argsL := argsL) (rest := rest) (lenOf hpd hlen) rfl (by show 2 * 0 + _ ≤ _; omega) (hb hby hd) (fun _ _ => ⟨rfl, eh, hc, hn⟩)
  dsimp only [Pt.U, Pt.locs, Pt.cells, Pt.slots] at X1 g1 g2 g3 st1 hQ
  subst g1 g2 g3
  exact ⟨v, T1.heap, hQ.1, T1, _, X1, rfl, Fr.app N hQ.2, fun t u => sp t (st1.trans u)⟩
/-- anewarray of length 0 -/
theorem Wk.newR0 (H : Wk l Z y code mx ret R n0 W V) {C : String} (w1 : (Jvm.Cond.classLink y.cls i C).before a0 Z = true) (w2 : (Jvm.Cond.arrayOver (.object C)).before a0 Z = true) (hc : k + 1 ≤ R.cells) (hl : n + 0 ≤ R.slots) (hd : decode code pc = .ok (.anewarray i, 3)) (r : W h k n pc Ls (.int 0 :: st)) :
    ∃ h' a, a = h.size ∧ Ext h h' ∧ Ary Z h' a (.object C) [] ∧ W h' (k + 1) (n + 0) (pc + 3) Ls (.ref a :: st) := by
  obtain ⟨p, e, s, m, args, below, meth, c, S0, hx, hby, hml, hown, hZ, hnm, hret, hlk, rfl, rfl⟩ := H
  obtain ⟨T, locs, X, eh, N, sp⟩ := r
  obtain ⟨T', h', cA, X', e', E', A', -, q'⟩ := RoadKit.newR X hx hZ hown w1 w2 eh (g := mkF m pc Ls (.int 0 :: st)) rfl (hb hby hd) rfl (by decide) (cap := 0) (by decide) (by decide) hc hl
  exact ⟨h', _, rfl, E', ⟨_, A', by first | rfl | (show Array.replicate (0 : Int32).toNatClampNeg _ = _; rw [show (0 : Int32).toNatClampNeg = 0 from rfl]; rfl) | simp⟩, T', _, X', e', N, fun t u => sp t (q' t u)⟩
end More
end Jvm.OwnW
namespace Jvm.Pilot.@@N@@
open Jvm Jvm.ClassFile Sem Op Lib Jvm.Free Jvm.Stand Jvm.LawKit Jvm.RoadKit Bundle Jvm.OwnW Jvm.OwnT Jvm.Pilot.@@N@@.Jvm.D
def own_job (Z : State) (h : Heap) (a : Addr) (ans : Value) (s : Addr) : Prop := Exa Z h a "com/example/lively_broker/livelybroker/broker/Job" ∧ Fld Z h a "com/example/lively_broker/livelybroker/broker/Job" "answer" "Lcom/example/lively_broker/livelybroker/wire/Message;" ans ∧ Fld Z h a "com/example/lively_broker/livelybroker/broker/Job" "clients" "Ljava/util/Set;" (.ref s) ∧ (∃ v, Fld Z h a "com/example/lively_broker/livelybroker/broker/Job" "answeredAt" "J" v) ∧ (∃ v, Fld Z h a "com/example/lively_broker/livelybroker/broker/Job" "payload" "[B" v) ∧ (∃ v, Fld Z h a "com/example/lively_broker/livelybroker/broker/Job" "takenBack" "Z" v) ∧ (∃ v, Fld Z h a "com/example/lively_broker/livelybroker/broker/Job" "placed" "Z" v) ∧ (∃ v : Int32, Fld Z h a "com/example/lively_broker/livelybroker/broker/Job" "lostWorkers" "I" (.int v))
theorem own_job.keep {Z : State} {h h' : Heap} {a s : Addr} {ans : Value} {ws : List Addr} (J : own_job Z h a ans s) (K : Keep h h' ws) (q : a ∉ ws) : own_job Z h' a ans s := by
  obtain ⟨X, F1, F2, ⟨v3, F3⟩, ⟨v4, F4⟩, ⟨v5, F5⟩, ⟨v6, F6⟩, v7, F7⟩ := J
  exact ⟨X.keep K, F1.keep K q, F2.keep K q, ⟨v3, F3.keep K q⟩, ⟨v4, F4.keep K q⟩, ⟨v5, F5.keep K q⟩, ⟨v6, F6.keep K q⟩, v7, F7.keep K q⟩
def own_set (Z : State) (h : Heap) (s m : Addr) : Prop := Exa Z h s "java/util/LinkedHashSet" ∧ Fld Z h s "java/util/HashSet" "map" "Ljava/util/HashMap;" (.ref m) ∧ Exa Z h m "java/util/LinkedHashMap" ∧ Fld Z h m "java/util/HashMap" "size" "I" (.int 0) ∧ Fld Z h m "java/util/HashMap" "modCount" "I" (.int 0) ∧ Fld Z h m "java/util/HashMap" "table" "[Ljava/util/HashMap$Node;" (.null) ∧ Fld Z h m "java/util/LinkedHashMap" "head" "Ljava/util/LinkedHashMap$Entry;" (.null) ∧ Fld Z h m "java/util/LinkedHashMap" "tail" "Ljava/util/LinkedHashMap$Entry;" (.null)
theorem own_set.keep {Z : State} {h h' : Heap} {s m : Addr} {ws : List Addr} (J : own_set Z h s m) (K : Keep h h' ws) (q : s ∉ ws) (q' : m ∉ ws) : own_set Z h' s m := by
  obtain ⟨X, F1, Y, F2, F3, F4, F5, F6⟩ := J
  exact ⟨X.keep K, F1.keep K q, Y.keep K, F2.keep K q', F3.keep K q', F4.keep K q', F5.keep K q', F6.keep K q'⟩
theorem own_fitR {pl : Value} (h : pl.isRef = true) : fits (.array .byte) pl = true := by rcases ref_cases h with rfl | ⟨b, rfl⟩ <;> rfl
theorem own_narR (pl : Value) : narrow (.array .byte) pl = pl := by cases pl <;> rfl
theorem own_nz {z : Int32} (h : z = 0 ∨ z = 1) : narrow .boolean (.int z) = .int z := by rcases h with rfl | rfl <;> rfl
theorem own_fz {z : Int32} (h : z = 0 ∨ z = 1) : fits .boolean (.int z) = true := by rcases h with rfl | rfl <;> rfl
theorem own_bit (P : Prop) [Decidable P] : ∃ z : Int32, (if P then (0 : Int32) else (1 : Int32)) = z ∧ (z = 0 ∨ z = 1) := by
  by_cases h : P
  · exact ⟨0, if_pos h, Or.inl rfl⟩
  · exact ⟨1, if_neg h, Or.inr rfl⟩
theorem d1_0 : decode prog_1_method_1_code 0 = .ok (.aload_n 0, 1) := by decide +kernel
theorem d1_1 : decode prog_1_method_1_code 1 = .ok (.invokespecial 1, 3) := by decide +kernel
theorem d1_4 : decode prog_1_method_1_code 4 = .ok (.aload_n 0, 1) := by decide +kernel
theorem d1_5 : decode prog_1_method_1_code 5 = .ok (.new 7, 3) := by decide +kernel
theorem d1_8 : decode prog_1_method_1_code 8 = .ok (.dup, 1) := by decide +kernel
theorem d1_9 : decode prog_1_method_1_code 9 = .ok (.invokespecial 9, 3) := by decide +kernel
theorem d1_12 : decode prog_1_method_1_code 12 = .ok (.putfield 10, 3) := by decide +kernel
theorem d1_15 : decode prog_1_method_1_code 15 = .ok (.aload_n 0, 1) := by decide +kernel
theorem d1_16 : decode prog_1_method_1_code 16 = .ok (.aload_n 1, 1) := by decide +kernel
theorem d1_17 : decode prog_1_method_1_code 17 = .ok (.putfield 16, 3) := by decide +kernel
theorem d1_20 : decode prog_1_method_1_code 20 = .ok (.aload_n 0, 1) := by decide +kernel
theorem d1_21 : decode prog_1_method_1_code 21 = .ok (.aload_n 2, 1) := by decide +kernel
theorem d1_22 : decode prog_1_method_1_code 22 = .ok (.putfield 20, 3) := by decide +kernel
theorem d1_25 : decode prog_1_method_1_code 25 = .ok (.aload_n 0, 1) := by decide +kernel
theorem d1_26 : decode prog_1_method_1_code 26 = .ok (.lload_n 3, 1) := by decide +kernel
theorem d1_27 : decode prog_1_method_1_code 27 = .ok (.putfield 23, 3) := by decide +kernel
theorem d1_30 : decode prog_1_method_1_code 30 = .ok (.aload_n 0, 1) := by decide +kernel
theorem d1_31 : decode prog_1_method_1_code 31 = .ok (.lload 5, 2) := by decide +kernel
theorem d1_33 : decode prog_1_method_1_code 33 = .ok (.putfield 27, 3) := by decide +kernel
theorem d1_36 : decode prog_1_method_1_code 36 = .ok (.return_, 1) := by decide +kernel
theorem d3_0 : decode jdk_2620_method_3_code 0 = .ok (.aload_n 0, 1) := by decide +kernel
theorem d3_1 : decode jdk_2620_method_3_code 1 = .ok (.bipush 16, 2) := by decide +kernel
theorem d3_3 : decode jdk_2620_method_3_code 3 = .ok (.ldc 7, 2) := by decide +kernel
theorem d3_5 : decode jdk_2620_method_3_code 5 = .ok (.iconst 1, 1) := by decide +kernel
theorem d3_6 : decode jdk_2620_method_3_code 6 = .ok (.invokespecial 1, 3) := by decide +kernel
theorem d3_9 : decode jdk_2620_method_3_code 9 = .ok (.return_, 1) := by decide +kernel
theorem d4_0 : decode jdk_93_method_5_code 0 = .ok (.aload_n 0, 1) := by decide +kernel
theorem d4_1 : decode jdk_93_method_5_code 1 = .ok (.invokespecial 1, 3) := by decide +kernel
theorem d4_4 : decode jdk_93_method_5_code 4 = .ok (.aload_n 0, 1) := by decide +kernel
theorem d4_5 : decode jdk_93_method_5_code 5 = .ok (.new 42, 3) := by decide +kernel
theorem d4_8 : decode jdk_93_method_5_code 8 = .ok (.dup, 1) := by decide +kernel
theorem d4_9 : decode jdk_93_method_5_code 9 = .ok (.iload_n 1, 1) := by decide +kernel
theorem d4_10 : decode jdk_93_method_5_code 10 = .ok (.fload_n 2, 1) := by decide +kernel
theorem d4_11 : decode jdk_93_method_5_code 11 = .ok (.invokespecial 44, 3) := by decide +kernel
theorem d4_14 : decode jdk_93_method_5_code 14 = .ok (.putfield 10, 3) := by decide +kernel
theorem d4_17 : decode jdk_93_method_5_code 17 = .ok (.return_, 1) := by decide +kernel
theorem d5_0 : decode jdk_91_method_1_code 0 = .ok (.aload_n 0, 1) := by decide +kernel
theorem d5_1 : decode jdk_91_method_1_code 1 = .ok (.invokespecial 1, 3) := by decide +kernel
theorem d5_4 : decode jdk_91_method_1_code 4 = .ok (.return_, 1) := by decide +kernel
theorem d6_0 : decode jdk_22_method_1_code 0 = .ok (.aload_n 0, 1) := by decide +kernel
theorem d6_1 : decode jdk_22_method_1_code 1 = .ok (.invokespecial 1, 3) := by decide +kernel
theorem d6_4 : decode jdk_22_method_1_code 4 = .ok (.return_, 1) := by decide +kernel
theorem d7_0 : decode jdk_94_method_14_code 0 = .ok (.aload_n 0, 1) := by decide +kernel
theorem d7_1 : decode jdk_94_method_14_code 1 = .ok (.iload_n 1, 1) := by decide +kernel
theorem d7_2 : decode jdk_94_method_14_code 2 = .ok (.fload_n 2, 1) := by decide +kernel
theorem d7_3 : decode jdk_94_method_14_code 3 = .ok (.invokespecial 81, 3) := by decide +kernel
theorem d7_6 : decode jdk_94_method_14_code 6 = .ok (.aload_n 0, 1) := by decide +kernel
theorem d7_7 : decode jdk_94_method_14_code 7 = .ok (.iconst 0, 1) := by decide +kernel
theorem d7_8 : decode jdk_94_method_14_code 8 = .ok (.putfield 1, 3) := by decide +kernel
theorem d7_11 : decode jdk_94_method_14_code 11 = .ok (.aload_n 0, 1) := by decide +kernel
theorem d7_12 : decode jdk_94_method_14_code 12 = .ok (.iconst 0, 1) := by decide +kernel
theorem d7_13 : decode jdk_94_method_14_code 13 = .ok (.putfield 64, 3) := by decide +kernel
theorem d7_16 : decode jdk_94_method_14_code 16 = .ok (.return_, 1) := by decide +kernel
theorem d8_0 : decode jdk_69_method_5_code 0 = .ok (.aload_n 0, 1) := by decide +kernel
theorem d8_1 : decode jdk_69_method_5_code 1 = .ok (.invokespecial 43, 3) := by decide +kernel
theorem d8_4 : decode jdk_69_method_5_code 4 = .ok (.iload_n 1, 1) := by decide +kernel
theorem d8_5 : decode jdk_69_method_5_code 5 = .ok (.ifCond .ge 30, 3) := by decide +kernel
theorem d8_35 : decode jdk_69_method_5_code 35 = .ok (.iload_n 1, 1) := by decide +kernel
theorem d8_36 : decode jdk_69_method_5_code 36 = .ok (.ldc 42, 2) := by decide +kernel
theorem d8_38 : decode jdk_69_method_5_code 38 = .ok (.if_icmp .le 6, 3) := by decide +kernel
theorem d8_44 : decode jdk_69_method_5_code 44 = .ok (.fload_n 2, 1) := by decide +kernel
theorem d8_45 : decode jdk_69_method_5_code 45 = .ok (.fconst 0, 1) := by decide +kernel
theorem d8_46 : decode jdk_69_method_5_code 46 = .ok (.fcmp .g, 1) := by decide +kernel
theorem d8_47 : decode jdk_69_method_5_code 47 = .ok (.ifCond .le 10, 3) := by decide +kernel
theorem d8_50 : decode jdk_69_method_5_code 50 = .ok (.fload_n 2, 1) := by decide +kernel
theorem d8_51 : decode jdk_69_method_5_code 51 = .ok (.invokestatic 70, 3) := by decide +kernel
theorem d8_54 : decode jdk_69_method_5_code 54 = .ok (.ifCond .eq 30, 3) := by decide +kernel
theorem d8_84 : decode jdk_69_method_5_code 84 = .ok (.aload_n 0, 1) := by decide +kernel
theorem d8_85 : decode jdk_69_method_5_code 85 = .ok (.fload_n 2, 1) := by decide +kernel
theorem d8_86 : decode jdk_69_method_5_code 86 = .ok (.putfield 81, 3) := by decide +kernel
theorem d8_89 : decode jdk_69_method_5_code 89 = .ok (.aload_n 0, 1) := by decide +kernel
theorem d8_90 : decode jdk_69_method_5_code 90 = .ok (.iload_n 1, 1) := by decide +kernel
theorem d8_91 : decode jdk_69_method_5_code 91 = .ok (.invokestatic 85, 3) := by decide +kernel
theorem d8_94 : decode jdk_69_method_5_code 94 = .ok (.putfield 88, 3) := by decide +kernel
theorem d8_97 : decode jdk_69_method_5_code 97 = .ok (.return_, 1) := by decide +kernel
theorem d9_0 : decode jdk_71_method_1_code 0 = .ok (.aload_n 0, 1) := by decide +kernel
theorem d9_1 : decode jdk_71_method_1_code 1 = .ok (.invokespecial 1, 3) := by decide +kernel
theorem d9_4 : decode jdk_71_method_1_code 4 = .ok (.return_, 1) := by decide +kernel
theorem d10_0 : decode jdk_118_method_6_code 0 = .ok (.fload_n 0, 1) := by decide +kernel
theorem d10_1 : decode jdk_118_method_6_code 1 = .ok (.fload_n 0, 1) := by decide +kernel
theorem d10_2 : decode jdk_118_method_6_code 2 = .ok (.fcmp .l, 1) := by decide +kernel
theorem d10_3 : decode jdk_118_method_6_code 3 = .ok (.ifCond .eq 7, 3) := by decide +kernel
theorem d10_10 : decode jdk_118_method_6_code 10 = .ok (.iconst 0, 1) := by decide +kernel
theorem d10_11 : decode jdk_118_method_6_code 11 = .ok (.ireturn, 1) := by decide +kernel
theorem d11_0 : decode jdk_69_method_4_code 0 = .ok (.iconst (-1), 1) := by decide +kernel
theorem d11_1 : decode jdk_69_method_4_code 1 = .ok (.iload_n 0, 1) := by decide +kernel
theorem d11_2 : decode jdk_69_method_4_code 2 = .ok (.iconst 1, 1) := by decide +kernel
theorem d11_3 : decode jdk_69_method_4_code 3 = .ok (.isub, 1) := by decide +kernel
theorem d11_4 : decode jdk_69_method_4_code 4 = .ok (.invokestatic 34, 3) := by decide +kernel
theorem d11_7 : decode jdk_69_method_4_code 7 = .ok (.iushr, 1) := by decide +kernel
theorem d11_8 : decode jdk_69_method_4_code 8 = .ok (.istore_n 1, 1) := by decide +kernel
theorem d11_9 : decode jdk_69_method_4_code 9 = .ok (.iload_n 1, 1) := by decide +kernel
theorem d11_10 : decode jdk_69_method_4_code 10 = .ok (.ifCond .ge 7, 3) := by decide +kernel
theorem d11_17 : decode jdk_69_method_4_code 17 = .ok (.iload_n 1, 1) := by decide +kernel
theorem d11_18 : decode jdk_69_method_4_code 18 = .ok (.ldc 42, 2) := by decide +kernel
theorem d11_20 : decode jdk_69_method_4_code 20 = .ok (.if_icmp .lt 8, 3) := by decide +kernel
theorem d11_28 : decode jdk_69_method_4_code 28 = .ok (.iload_n 1, 1) := by decide +kernel
theorem d11_29 : decode jdk_69_method_4_code 29 = .ok (.iconst 1, 1) := by decide +kernel
theorem d11_30 : decode jdk_69_method_4_code 30 = .ok (.iadd, 1) := by decide +kernel
theorem d11_31 : decode jdk_69_method_4_code 31 = .ok (.ireturn, 1) := by decide +kernel
theorem d12_0 : decode jdk_33_method_47_code 0 = .ok (.iload_n 0, 1) := by decide +kernel
theorem d12_1 : decode jdk_33_method_47_code 1 = .ok (.ifCond .gt 14, 3) := by decide +kernel
theorem d12_15 : decode jdk_33_method_47_code 15 = .ok (.bipush 31, 2) := by decide +kernel
theorem d12_17 : decode jdk_33_method_47_code 17 = .ok (.istore_n 1, 1) := by decide +kernel
theorem d12_18 : decode jdk_33_method_47_code 18 = .ok (.iload_n 0, 1) := by decide +kernel
theorem d12_19 : decode jdk_33_method_47_code 19 = .ok (.ldc_w 264, 3) := by decide +kernel
theorem d12_22 : decode jdk_33_method_47_code 22 = .ok (.if_icmp .lt 11, 3) := by decide +kernel
theorem d12_33 : decode jdk_33_method_47_code 33 = .ok (.iload_n 0, 1) := by decide +kernel
theorem d12_34 : decode jdk_33_method_47_code 34 = .ok (.sipush 256, 3) := by decide +kernel
theorem d12_37 : decode jdk_33_method_47_code 37 = .ok (.if_icmp .lt 11, 3) := by decide +kernel
theorem d12_48 : decode jdk_33_method_47_code 48 = .ok (.iload_n 0, 1) := by decide +kernel
theorem d12_49 : decode jdk_33_method_47_code 49 = .ok (.bipush 16, 2) := by decide +kernel
theorem d12_51 : decode jdk_33_method_47_code 51 = .ok (.if_icmp .lt 10, 3) := by decide +kernel
theorem d12_61 : decode jdk_33_method_47_code 61 = .ok (.iload_n 0, 1) := by decide +kernel
theorem d12_62 : decode jdk_33_method_47_code 62 = .ok (.iconst 4, 1) := by decide +kernel
theorem d12_63 : decode jdk_33_method_47_code 63 = .ok (.if_icmp .lt 10, 3) := by decide +kernel
theorem d12_66 : decode jdk_33_method_47_code 66 = .ok (.iinc 1 (-2), 3) := by decide +kernel
theorem d12_69 : decode jdk_33_method_47_code 69 = .ok (.iload_n 0, 1) := by decide +kernel
theorem d12_70 : decode jdk_33_method_47_code 70 = .ok (.iconst 2, 1) := by decide +kernel
theorem d12_71 : decode jdk_33_method_47_code 71 = .ok (.iushr, 1) := by decide +kernel
theorem d12_72 : decode jdk_33_method_47_code 72 = .ok (.istore_n 0, 1) := by decide +kernel
theorem d12_73 : decode jdk_33_method_47_code 73 = .ok (.iload_n 1, 1) := by decide +kernel
theorem d12_74 : decode jdk_33_method_47_code 74 = .ok (.iload_n 0, 1) := by decide +kernel
theorem d12_75 : decode jdk_33_method_47_code 75 = .ok (.iconst 1, 1) := by decide +kernel
theorem d12_76 : decode jdk_33_method_47_code 76 = .ok (.iushr, 1) := by decide +kernel
theorem d12_77 : decode jdk_33_method_47_code 77 = .ok (.isub, 1) := by decide +kernel
theorem d12_78 : decode jdk_33_method_47_code 78 = .ok (.ireturn, 1) := by decide +kernel
theorem d13_0 : decode prog_1_method_9_code 0 = .ok (.aload_n 0, 1) := by decide +kernel
theorem d13_1 : decode prog_1_method_9_code 1 = .ok (.getfield 40, 3) := by decide +kernel
theorem d13_4 : decode prog_1_method_9_code 4 = .ok (.ifnull 7, 3) := by decide +kernel
theorem d13_7 : decode prog_1_method_9_code 7 = .ok (.iconst 1, 1) := by decide +kernel
theorem d13_8 : decode prog_1_method_9_code 8 = .ok (.goto 4, 3) := by decide +kernel
theorem d13_11 : decode prog_1_method_9_code 11 = .ok (.iconst 0, 1) := by decide +kernel
theorem d13_12 : decode prog_1_method_9_code 12 = .ok (.ireturn, 1) := by decide +kernel
theorem d14_0 : decode prog_1_method_15_code 0 = .ok (.aload_n 0, 1) := by decide +kernel
theorem d14_1 : decode prog_1_method_15_code 1 = .ok (.dup, 1) := by decide +kernel
theorem d14_2 : decode prog_1_method_15_code 2 = .ok (.getfield 58, 3) := by decide +kernel
theorem d14_5 : decode prog_1_method_15_code 5 = .ok (.iconst 1, 1) := by decide +kernel
theorem d14_6 : decode prog_1_method_15_code 6 = .ok (.iadd, 1) := by decide +kernel
theorem d14_7 : decode prog_1_method_15_code 7 = .ok (.putfield 58, 3) := by decide +kernel
theorem d14_10 : decode prog_1_method_15_code 10 = .ok (.aload_n 0, 1) := by decide +kernel
theorem d14_11 : decode prog_1_method_15_code 11 = .ok (.getfield 58, 3) := by decide +kernel
theorem d14_14 : decode prog_1_method_15_code 14 = .ok (.ireturn, 1) := by decide +kernel
theorem d15_0 : decode prog_1_method_14_code 0 = .ok (.aload_n 0, 1) := by decide +kernel
theorem d15_1 : decode prog_1_method_14_code 1 = .ok (.iconst 1, 1) := by decide +kernel
theorem d15_2 : decode prog_1_method_14_code 2 = .ok (.putfield 55, 3) := by decide +kernel
theorem d15_5 : decode prog_1_method_14_code 5 = .ok (.return_, 1) := by decide +kernel
theorem d16_0 : decode prog_1_method_17_code 0 = .ok (.aload_n 0, 1) := by decide +kernel
theorem d16_1 : decode prog_1_method_17_code 1 = .ok (.iload_n 1, 1) := by decide +kernel
theorem d16_2 : decode prog_1_method_17_code 2 = .ok (.putfield 36, 3) := by decide +kernel
theorem d16_5 : decode prog_1_method_17_code 5 = .ok (.aload_n 0, 1) := by decide +kernel
theorem d16_6 : decode prog_1_method_17_code 6 = .ok (.iload_n 2, 1) := by decide +kernel
theorem d16_7 : decode prog_1_method_17_code 7 = .ok (.putfield 58, 3) := by decide +kernel
theorem d16_10 : decode prog_1_method_17_code 10 = .ok (.return_, 1) := by decide +kernel
theorem d17_0 : decode prog_1_method_8_code 0 = .ok (.aload_n 0, 1) := by decide +kernel
theorem d17_1 : decode prog_1_method_8_code 1 = .ok (.iconst 1, 1) := by decide +kernel
theorem d17_2 : decode prog_1_method_8_code 2 = .ok (.putfield 36, 3) := by decide +kernel
theorem d17_5 : decode prog_1_method_8_code 5 = .ok (.return_, 1) := by decide +kernel
theorem d18_0 : decode prog_15_method_10_code 0 = .ok (.getstatic 77, 3) := by decide +kernel
theorem d18_3 : decode prog_15_method_10_code 3 = .ok (.aload_n 0, 1) := by decide +kernel
theorem d18_4 : decode prog_15_method_10_code 4 = .ok (.aconst_null, 1) := by decide +kernel
theorem d18_5 : decode prog_15_method_10_code 5 = .ok (.aload_n 1, 1) := by decide +kernel
theorem d18_6 : decode prog_15_method_10_code 6 = .ok (.ldc 64, 2) := by decide +kernel
theorem d18_8 : decode prog_15_method_10_code 8 = .ok (.invokestatic 40, 3) := by decide +kernel
theorem d18_11 : decode prog_15_method_10_code 11 = .ok (.checkcast 56, 3) := by decide +kernel
theorem d18_14 : decode prog_15_method_10_code 14 = .ok (.invokestatic 57, 3) := by decide +kernel
theorem d18_17 : decode prog_15_method_10_code 17 = .ok (.areturn, 1) := by decide +kernel
theorem d19_0 : decode jdk_31_method_11_code 0 = .ok (.aload_n 0, 1) := by decide +kernel
theorem d19_1 : decode jdk_31_method_11_code 1 = .ok (.ifnonnull 12, 3) := by decide +kernel
theorem d19_13 : decode jdk_31_method_11_code 13 = .ok (.aload_n 0, 1) := by decide +kernel
theorem d19_14 : decode jdk_31_method_11_code 14 = .ok (.areturn, 1) := by decide +kernel
theorem d20_0 : decode prog_15_method_12_code 0 = .ok (.aload_n 1, 1) := by decide +kernel
theorem d20_1 : decode prog_15_method_12_code 1 = .ok (.ldc 88, 2) := by decide +kernel
theorem d20_3 : decode prog_15_method_12_code 3 = .ok (.invokestatic 40, 3) := by decide +kernel
theorem d20_6 : decode prog_15_method_12_code 6 = .ok (.checkcast 56, 3) := by decide +kernel
theorem d20_9 : decode prog_15_method_12_code 9 = .ok (.invokestatic 89, 3) := by decide +kernel
theorem d20_12 : decode prog_15_method_12_code 12 = .ok (.new 8, 3) := by decide +kernel
theorem d20_15 : decode prog_15_method_12_code 15 = .ok (.dup, 1) := by decide +kernel
theorem d20_16 : decode prog_15_method_12_code 16 = .ok (.aload_n 0, 1) := by decide +kernel
theorem d20_17 : decode prog_15_method_12_code 17 = .ok (.aload_n 1, 1) := by decide +kernel
theorem d20_18 : decode prog_15_method_12_code 18 = .ok (.aconst_null, 1) := by decide +kernel
theorem d20_19 : decode prog_15_method_12_code 19 = .ok (.aload_n 2, 1) := by decide +kernel
theorem d20_20 : decode prog_15_method_12_code 20 = .ok (.aload_n 3, 1) := by decide +kernel
theorem d20_21 : decode prog_15_method_12_code 21 = .ok (.invokespecial 33, 3) := by decide +kernel
theorem d20_24 : decode prog_15_method_12_code 24 = .ok (.areturn, 1) := by decide +kernel
theorem d21_0 : decode prog_15_method_13_code 0 = .ok (.aload_n 0, 1) := by decide +kernel
theorem d21_1 : decode prog_15_method_13_code 1 = .ok (.invokestatic 93, 3) := by decide +kernel
theorem d21_4 : decode prog_15_method_13_code 4 = .ok (.ifCond .ne 15, 3) := by decide +kernel
theorem d21_19 : decode prog_15_method_13_code 19 = .ok (.return_, 1) := by decide +kernel
theorem d22_0 : decode prog_15_method_24_code 0 = .ok (.aload_n 0, 1) := by decide +kernel
theorem d22_1 : decode prog_15_method_24_code 1 = .ok (.arraylength, 1) := by decide +kernel
theorem d22_2 : decode prog_15_method_24_code 2 = .ok (.iconst 1, 1) := by decide +kernel
theorem d22_3 : decode prog_15_method_24_code 3 = .ok (.if_icmp .lt 15, 3) := by decide +kernel
theorem d22_6 : decode prog_15_method_24_code 6 = .ok (.aload_n 0, 1) := by decide +kernel
theorem d22_7 : decode prog_15_method_24_code 7 = .ok (.arraylength, 1) := by decide +kernel
theorem d22_8 : decode prog_15_method_24_code 8 = .ok (.sipush 255, 3) := by decide +kernel
theorem d22_11 : decode prog_15_method_24_code 11 = .ok (.if_icmp .gt 7, 3) := by decide +kernel
theorem d22_14 : decode prog_15_method_24_code 14 = .ok (.iconst 1, 1) := by decide +kernel
theorem d22_15 : decode prog_15_method_24_code 15 = .ok (.goto 4, 3) := by decide +kernel
theorem d22_19 : decode prog_15_method_24_code 19 = .ok (.ireturn, 1) := by decide +kernel
theorem d23_0 : decode prog_15_method_1_code 0 = .ok (.aload_n 0, 1) := by decide +kernel
theorem d23_1 : decode prog_15_method_1_code 1 = .ok (.invokespecial 1, 3) := by decide +kernel
theorem d23_4 : decode prog_15_method_1_code 4 = .ok (.aload_n 0, 1) := by decide +kernel
theorem d23_5 : decode prog_15_method_1_code 5 = .ok (.aload_n 1, 1) := by decide +kernel
theorem d23_6 : decode prog_15_method_1_code 6 = .ok (.putfield 7, 3) := by decide +kernel
theorem d23_9 : decode prog_15_method_1_code 9 = .ok (.aload_n 0, 1) := by decide +kernel
theorem d23_10 : decode prog_15_method_1_code 10 = .ok (.aload_n 2, 1) := by decide +kernel
theorem d23_11 : decode prog_15_method_1_code 11 = .ok (.putfield 13, 3) := by decide +kernel
theorem d23_14 : decode prog_15_method_1_code 14 = .ok (.aload_n 0, 1) := by decide +kernel
theorem d23_15 : decode prog_15_method_1_code 15 = .ok (.aload_n 3, 1) := by decide +kernel
theorem d23_16 : decode prog_15_method_1_code 16 = .ok (.putfield 17, 3) := by decide +kernel
theorem d23_19 : decode prog_15_method_1_code 19 = .ok (.aload_n 0, 1) := by decide +kernel
theorem d23_20 : decode prog_15_method_1_code 20 = .ok (.aload 4, 2) := by decide +kernel
theorem d23_22 : decode prog_15_method_1_code 22 = .ok (.putfield 21, 3) := by decide +kernel
theorem d23_25 : decode prog_15_method_1_code 25 = .ok (.aload_n 0, 1) := by decide +kernel
theorem d23_26 : decode prog_15_method_1_code 26 = .ok (.aload 5, 2) := by decide +kernel
theorem d23_28 : decode prog_15_method_1_code 28 = .ok (.putfield 25, 3) := by decide +kernel
theorem d23_31 : decode prog_15_method_1_code 31 = .ok (.return_, 1) := by decide +kernel
theorem d24_0 : decode prog_1_method_12_code 0 = .ok (.aload_n 0, 1) := by decide +kernel
theorem d24_1 : decode prog_1_method_12_code 1 = .ok (.aload_n 1, 1) := by decide +kernel
theorem d24_2 : decode prog_1_method_12_code 2 = .ok (.putfield 40, 3) := by decide +kernel
theorem d24_5 : decode prog_1_method_12_code 5 = .ok (.aload_n 0, 1) := by decide +kernel
theorem d24_6 : decode prog_1_method_12_code 6 = .ok (.lload_n 2, 1) := by decide +kernel
theorem d24_7 : decode prog_1_method_12_code 7 = .ok (.putfield 44, 3) := by decide +kernel
theorem d24_10 : decode prog_1_method_12_code 10 = .ok (.aload_n 0, 1) := by decide +kernel
theorem d24_11 : decode prog_1_method_12_code 11 = .ok (.aconst_null, 1) := by decide +kernel
theorem d24_12 : decode prog_1_method_12_code 12 = .ok (.putfield 20, 3) := by decide +kernel
theorem d24_15 : decode prog_1_method_12_code 15 = .ok (.new 47, 3) := by decide +kernel
theorem d24_18 : decode prog_1_method_12_code 18 = .ok (.dup, 1) := by decide +kernel
theorem d24_19 : decode prog_1_method_12_code 19 = .ok (.aload_n 0, 1) := by decide +kernel
theorem d24_20 : decode prog_1_method_12_code 20 = .ok (.getfield 10, 3) := by decide +kernel
theorem d24_23 : decode prog_1_method_12_code 23 = .ok (.invokespecial 49, 3) := by decide +kernel
theorem d24_26 : decode prog_1_method_12_code 26 = .ok (.astore 4, 2) := by decide +kernel
theorem d24_28 : decode prog_1_method_12_code 28 = .ok (.aload_n 0, 1) := by decide +kernel
theorem d24_29 : decode prog_1_method_12_code 29 = .ok (.getfield 10, 3) := by decide +kernel
theorem d24_32 : decode prog_1_method_12_code 32 = .ok (.invokeinterface 52 1, 5) := by decide +kernel
theorem d24_37 : decode prog_1_method_12_code 37 = .ok (.aload 4, 2) := by decide +kernel
theorem d24_39 : decode prog_1_method_12_code 39 = .ok (.areturn, 1) := by decide +kernel
theorem d25_0 : decode jdk_38_method_3_code 0 = .ok (.aload_n 0, 1) := by decide +kernel
theorem d25_1 : decode jdk_38_method_3_code 1 = .ok (.invokespecial 1, 3) := by decide +kernel
theorem d25_4 : decode jdk_38_method_3_code 4 = .ok (.aload_n 1, 1) := by decide +kernel
theorem d25_5 : decode jdk_38_method_3_code 5 = .ok (.invokeinterface 42 1, 5) := by decide +kernel
theorem d25_10 : decode jdk_38_method_3_code 10 = .ok (.astore_n 2, 1) := by decide +kernel
theorem d25_11 : decode jdk_38_method_3_code 11 = .ok (.aload_n 0, 1) := by decide +kernel
theorem d25_12 : decode jdk_38_method_3_code 12 = .ok (.aload_n 2, 1) := by decide +kernel
theorem d25_13 : decode jdk_38_method_3_code 13 = .ok (.arraylength, 1) := by decide +kernel
theorem d25_14 : decode jdk_38_method_3_code 14 = .ok (.dup_x1, 1) := by decide +kernel
theorem d25_15 : decode jdk_38_method_3_code 15 = .ok (.putfield 48, 3) := by decide +kernel
theorem d25_18 : decode jdk_38_method_3_code 18 = .ok (.ifCond .eq 39, 3) := by decide +kernel
theorem d25_57 : decode jdk_38_method_3_code 57 = .ok (.aload_n 0, 1) := by decide +kernel
theorem d25_58 : decode jdk_38_method_3_code 58 = .ok (.getstatic 15, 3) := by decide +kernel
theorem d25_61 : decode jdk_38_method_3_code 61 = .ok (.putfield 9, 3) := by decide +kernel
theorem d25_64 : decode jdk_38_method_3_code 64 = .ok (.return_, 1) := by decide +kernel
theorem d26_0 : decode jdk_39_method_1_code 0 = .ok (.aload_n 0, 1) := by decide +kernel
theorem d26_1 : decode jdk_39_method_1_code 1 = .ok (.invokespecial 1, 3) := by decide +kernel
theorem d26_4 : decode jdk_39_method_1_code 4 = .ok (.aload_n 0, 1) := by decide +kernel
theorem d26_5 : decode jdk_39_method_1_code 5 = .ok (.iconst 0, 1) := by decide +kernel
theorem d26_6 : decode jdk_39_method_1_code 6 = .ok (.putfield 7, 3) := by decide +kernel
theorem d26_9 : decode jdk_39_method_1_code 9 = .ok (.return_, 1) := by decide +kernel
theorem d27_0 : decode jdk_93_method_17_code 0 = .ok (.aload_n 0, 1) := by decide +kernel
theorem d27_1 : decode jdk_93_method_17_code 1 = .ok (.getfield 10, 3) := by decide +kernel
theorem d27_4 : decode jdk_93_method_17_code 4 = .ok (.aload_n 0, 1) := by decide +kernel
theorem d27_5 : decode jdk_93_method_17_code 5 = .ok (.getfield 10, 3) := by decide +kernel
theorem d27_8 : decode jdk_93_method_17_code 8 = .ok (.invokevirtual 55, 3) := by decide +kernel
theorem d27_11 : decode jdk_93_method_17_code 11 = .ok (.anewarray 80, 3) := by decide +kernel
theorem d27_14 : decode jdk_93_method_17_code 14 = .ok (.invokevirtual 209, 3) := by decide +kernel
theorem d27_17 : decode jdk_93_method_17_code 17 = .ok (.areturn, 1) := by decide +kernel
theorem d28_0 : decode jdk_69_method_10_code 0 = .ok (.aload_n 0, 1) := by decide +kernel
theorem d28_1 : decode jdk_69_method_10_code 1 = .ok (.getfield 156, 3) := by decide +kernel
theorem d28_4 : decode jdk_69_method_10_code 4 = .ok (.ireturn, 1) := by decide +kernel
theorem d29_0 : decode jdk_94_method_27_code 0 = .ok (.aload_n 0, 1) := by decide +kernel
theorem d29_1 : decode jdk_94_method_27_code 1 = .ok (.aload_n 1, 1) := by decide +kernel
theorem d29_2 : decode jdk_94_method_27_code 2 = .ok (.iconst 0, 1) := by decide +kernel
theorem d29_3 : decode jdk_94_method_27_code 3 = .ok (.invokevirtual 131, 3) := by decide +kernel
theorem d29_6 : decode jdk_94_method_27_code 6 = .ok (.areturn, 1) := by decide +kernel
theorem d30_0 : decode jdk_94_method_28_code 0 = .ok (.aload_n 1, 1) := by decide +kernel
theorem d30_1 : decode jdk_94_method_28_code 1 = .ok (.astore_n 3, 1) := by decide +kernel
theorem d30_2 : decode jdk_94_method_28_code 2 = .ok (.iconst 0, 1) := by decide +kernel
theorem d30_3 : decode jdk_94_method_28_code 3 = .ok (.istore 4, 2) := by decide +kernel
theorem d30_5 : decode jdk_94_method_28_code 5 = .ok (.iload_n 2, 1) := by decide +kernel
theorem d30_6 : decode jdk_94_method_28_code 6 = .ok (.ifCond .eq 39, 3) := by decide +kernel
theorem d30_45 : decode jdk_94_method_28_code 45 = .ok (.aload_n 0, 1) := by decide +kernel
theorem d30_46 : decode jdk_94_method_28_code 46 = .ok (.getfield 7, 3) := by decide +kernel
theorem d30_49 : decode jdk_94_method_28_code 49 = .ok (.astore 5, 2) := by decide +kernel
theorem d30_51 : decode jdk_94_method_28_code 51 = .ok (.aload 5, 2) := by decide +kernel
theorem d30_53 : decode jdk_94_method_28_code 53 = .ok (.ifnull 25, 3) := by decide +kernel
theorem d30_78 : decode jdk_94_method_28_code 78 = .ok (.aload_n 1, 1) := by decide +kernel
theorem d30_79 : decode jdk_94_method_28_code 79 = .ok (.areturn, 1) := by decide +kernel
theorem d31_0 : decode jdk_93_method_12_code 0 = .ok (.aload_n 0, 1) := by decide +kernel
theorem d31_1 : decode jdk_93_method_12_code 1 = .ok (.getfield 10, 3) := by decide +kernel
theorem d31_4 : decode jdk_93_method_12_code 4 = .ok (.invokevirtual 76, 3) := by decide +kernel
theorem d31_7 : decode jdk_93_method_12_code 7 = .ok (.return_, 1) := by decide +kernel
theorem d32_0 : decode jdk_94_method_22_code 0 = .ok (.aload_n 0, 1) := by decide +kernel
theorem d32_1 : decode jdk_94_method_22_code 1 = .ok (.invokespecial 110, 3) := by decide +kernel
theorem d32_4 : decode jdk_94_method_22_code 4 = .ok (.aload_n 0, 1) := by decide +kernel
theorem d32_5 : decode jdk_94_method_22_code 5 = .ok (.aload_n 0, 1) := by decide +kernel
theorem d32_6 : decode jdk_94_method_22_code 6 = .ok (.aconst_null, 1) := by decide +kernel
theorem d32_7 : decode jdk_94_method_22_code 7 = .ok (.dup_x1, 1) := by decide +kernel
theorem d32_8 : decode jdk_94_method_22_code 8 = .ok (.putfield 11, 3) := by decide +kernel
theorem d32_11 : decode jdk_94_method_22_code 11 = .ok (.putfield 7, 3) := by decide +kernel
theorem d32_14 : decode jdk_94_method_22_code 14 = .ok (.return_, 1) := by decide +kernel
theorem d33_0 : decode jdk_69_method_22_code 0 = .ok (.aload_n 0, 1) := by decide +kernel
theorem d33_1 : decode jdk_69_method_22_code 1 = .ok (.dup, 1) := by decide +kernel
theorem d33_2 : decode jdk_69_method_22_code 2 = .ok (.getfield 202, 3) := by decide +kernel
theorem d33_5 : decode jdk_69_method_22_code 5 = .ok (.iconst 1, 1) := by decide +kernel
theorem d33_6 : decode jdk_69_method_22_code 6 = .ok (.iadd, 1) := by decide +kernel
theorem d33_7 : decode jdk_69_method_22_code 7 = .ok (.putfield 202, 3) := by decide +kernel
theorem d33_10 : decode jdk_69_method_22_code 10 = .ok (.aload_n 0, 1) := by decide +kernel
theorem d33_11 : decode jdk_69_method_22_code 11 = .ok (.getfield 105, 3) := by decide +kernel
theorem d33_14 : decode jdk_69_method_22_code 14 = .ok (.dup, 1) := by decide +kernel
theorem d33_15 : decode jdk_69_method_22_code 15 = .ok (.astore_n 1, 1) := by decide +kernel
theorem d33_16 : decode jdk_69_method_22_code 16 = .ok (.ifnull 33, 3) := by decide +kernel
theorem d33_49 : decode jdk_69_method_22_code 49 = .ok (.return_, 1) := by decide +kernel
theorem d34_0 : decode prog_1_method_10_code 0 = .ok (.aload_n 0, 1) := by decide +kernel
theorem d34_1 : decode prog_1_method_10_code 1 = .ok (.getfield 40, 3) := by decide +kernel
theorem d34_4 : decode prog_1_method_10_code 4 = .ok (.areturn, 1) := by decide +kernel
theorem d35_0 : decode prog_15_method_11_code 0 = .ok (.getstatic 80, 3) := by decide +kernel
theorem d35_3 : decode prog_15_method_11_code 3 = .ok (.aload_n 0, 1) := by decide +kernel
theorem d35_4 : decode prog_15_method_11_code 4 = .ok (.aload_n 1, 1) := by decide +kernel
theorem d35_5 : decode prog_15_method_11_code 5 = .ok (.ldc 83, 2) := by decide +kernel
theorem d35_7 : decode prog_15_method_11_code 7 = .ok (.invokestatic 40, 3) := by decide +kernel
theorem d35_10 : decode prog_15_method_11_code 10 = .ok (.checkcast 84, 3) := by decide +kernel
theorem d35_13 : decode prog_15_method_11_code 13 = .ok (.aload_n 2, 1) := by decide +kernel
theorem d35_14 : decode prog_15_method_11_code 14 = .ok (.ldc 86, 2) := by decide +kernel
theorem d35_16 : decode prog_15_method_11_code 16 = .ok (.invokestatic 40, 3) := by decide +kernel
theorem d35_19 : decode prog_15_method_11_code 19 = .ok (.checkcast 56, 3) := by decide +kernel
theorem d35_22 : decode prog_15_method_11_code 22 = .ok (.invokestatic 57, 3) := by decide +kernel
theorem d35_25 : decode prog_15_method_11_code 25 = .ok (.areturn, 1) := by decide +kernel
theorem pd_0 : parseMethodDescriptor "()V" = some ⟨[], none⟩ := by decide +kernel
theorem pd_1 : parseMethodDescriptor "(I)I" = some ⟨[.int], some .int⟩ := by decide +kernel
theorem pd_2 : parseMethodDescriptor "(F)Z" = some ⟨[.float], some .boolean⟩ := by decide +kernel
theorem pd_3 : parseMethodDescriptor "(IF)V" = some ⟨[.int, .float], none⟩ := by decide +kernel
theorem pd_4 : parseMethodDescriptor "(IFZ)V" = some ⟨[.int, .float, .boolean], none⟩ := by decide +kernel
theorem pd_5 : parseMethodDescriptor "([Ljava/lang/Object;Z)[Ljava/lang/Object;" = some ⟨[(.array (.object "java/lang/Object")), .boolean], some (.array (.object "java/lang/Object"))⟩ := by decide +kernel
theorem pd_6 : parseMethodDescriptor "()I" = some ⟨[], some .int⟩ := by decide +kernel
theorem pd_7 : parseMethodDescriptor "([Ljava/lang/Object;)[Ljava/lang/Object;" = some ⟨[(.array (.object "java/lang/Object"))], some (.array (.object "java/lang/Object"))⟩ := by decide +kernel
theorem pd_8 : parseMethodDescriptor "()[Ljava/lang/Object;" = some ⟨[], some (.array (.object "java/lang/Object"))⟩ := by decide +kernel
theorem pd_9 : parseMethodDescriptor "(Ljava/util/Collection;)V" = some ⟨[(.object "java/util/Collection")], none⟩ := by decide +kernel
theorem pd_10 : parseMethodDescriptor "([B)Z" = some ⟨[(.array .byte)], some .boolean⟩ := by decide +kernel
theorem pd_11 : parseMethodDescriptor "(Ljava/lang/Object;Ljava/lang/String;)Ljava/lang/Object;" = some ⟨[(.object "java/lang/Object"), (.object "java/lang/String")], some (.object "java/lang/Object")⟩ := by decide +kernel
theorem pd_12 : parseMethodDescriptor "([B)V" = some ⟨[(.array .byte)], none⟩ := by decide +kernel
theorem pd_13 : parseMethodDescriptor "(Lcom/example/lively_broker/livelybroker/wire/Command;[BLcom/example/lively_broker/livelybroker/wire/WorkerState;Lcom/example/lively_broker/livelybroker/wire/FailureReason;[B)V" = some ⟨[(.object "com/example/lively_broker/livelybroker/wire/Command"), (.array .byte), (.object "com/example/lively_broker/livelybroker/wire/WorkerState"), (.object "com/example/lively_broker/livelybroker/wire/FailureReason"), (.array .byte)], none⟩ := by decide +kernel
theorem pd_14 : parseMethodDescriptor "(Lcom/example/lively_broker/livelybroker/wire/Command;[BLcom/example/lively_broker/livelybroker/wire/FailureReason;[B)Lcom/example/lively_broker/livelybroker/wire/Message;" = some ⟨[(.object "com/example/lively_broker/livelybroker/wire/Command"), (.array .byte), (.object "com/example/lively_broker/livelybroker/wire/FailureReason"), (.array .byte)], some (.object "com/example/lively_broker/livelybroker/wire/Message")⟩ := by decide +kernel
theorem pd_15 : parseMethodDescriptor "(Lcom/example/lively_broker/livelybroker/wire/Message;J)Ljava/util/List;" = some ⟨[(.object "com/example/lively_broker/livelybroker/wire/Message"), .long], some (.object "java/util/List")⟩ := by decide +kernel
theorem pd_16 : parseMethodDescriptor "()Z" = some ⟨[], some .boolean⟩ := by decide +kernel
theorem pd_17 : parseMethodDescriptor "()Lcom/example/lively_broker/livelybroker/wire/Message;" = some ⟨[], some (.object "com/example/lively_broker/livelybroker/wire/Message")⟩ := by decide +kernel
theorem pd_18 : parseMethodDescriptor "([B[B)Lcom/example/lively_broker/livelybroker/wire/Message;" = some ⟨[(.array .byte), (.array .byte)], some (.object "com/example/lively_broker/livelybroker/wire/Message")⟩ := by decide +kernel
theorem pd_19 : parseMethodDescriptor "([BLcom/example/lively_broker/livelybroker/wire/FailureReason;[B)Lcom/example/lively_broker/livelybroker/wire/Message;" = some ⟨[(.array .byte), (.object "com/example/lively_broker/livelybroker/wire/FailureReason"), (.array .byte)], some (.object "com/example/lively_broker/livelybroker/wire/Message")⟩ := by decide +kernel
theorem pd_20 : parseMethodDescriptor "([B[BJJ)V" = some ⟨[(.array .byte), (.array .byte), .long, .long], none⟩ := by decide +kernel
theorem pd_21 : parseMethodDescriptor "(ZI)V" = some ⟨[.boolean, .int], none⟩ := by decide +kernel
theorem pn_0 : plainName "java/util/AbstractCollection" = true := by first | (simp [plainName, overriddenIn]; done) | decide +kernel
theorem pn_1 : plainName "java/util/AbstractSet" = true := by first | (simp [plainName, overriddenIn]; done) | decide +kernel
theorem pn_2 : plainName "java/util/AbstractMap" = true := by first | (simp [plainName, overriddenIn]; done) | decide +kernel
theorem pn_3 : plainName "java/lang/Integer" = true := by first | (simp [plainName, overriddenIn]; done) | decide +kernel
theorem pn_4 : plainName "java/util/HashMap" = true := by first | (simp [plainName, overriddenIn]; done) | decide +kernel
theorem pn_5 : plainName "java/util/LinkedHashMap" = true := by first | (simp [plainName, overriddenIn]; done) | decide +kernel
theorem pn_6 : plainName "java/util/HashSet" = true := by first | (simp [plainName, overriddenIn]; done) | decide +kernel
theorem pn_7 : plainName "java/util/LinkedHashSet" = true := by first | (simp [plainName, overriddenIn]; done) | decide +kernel
theorem pn_8 : plainName "com/example/lively_broker/livelybroker/broker/Job" = true := by first | (simp [plainName, overriddenIn]; done) | decide +kernel
theorem pn_9 : plainName "java/util/AbstractList" = true := by first | (simp [plainName, overriddenIn]; done) | decide +kernel
theorem pn_10 : plainName "java/util/ArrayList" = true := by first | (simp [plainName, overriddenIn]; done) | decide +kernel
theorem pn_11 : plainName "java/util/Objects" = true := by first | (simp [plainName, overriddenIn]; done) | decide +kernel
theorem pn_12 : plainName "com/example/lively_broker/livelybroker/wire/Message" = true := by first | (simp [plainName, overriddenIn]; done) | decide +kernel
theorem pn_13 : plainName "com/example/lively_broker/livelybroker/broker/JobAnsweredPinLaw" = true := by first | (simp [plainName, overriddenIn]; done) | decide +kernel
theorem ef_ac (x0 : Addr) (m : MethodId) : entryFrame m #[(.ref x0)] 1 = mkF m 0 #[.val (.ref x0)] [] := by first | (simp [entryFrame, mkF, argsToLocals, Value.category]; done) | rfl
theorem ef_as (x0 : Addr) (m : MethodId) : entryFrame m #[(.ref x0)] 1 = mkF m 0 #[.val (.ref x0)] [] := by first | (simp [entryFrame, mkF, argsToLocals, Value.category]; done) | rfl
theorem ef_am (x0 : Addr) (m : MethodId) : entryFrame m #[(.ref x0)] 1 = mkF m 0 #[.val (.ref x0)] [] := by first | (simp [entryFrame, mkF, argsToLocals, Value.category]; done) | rfl
theorem ef_nan (x0 : UInt32) (m : MethodId) : entryFrame m #[(.float x0)] 1 = mkF m 0 #[.val (.float x0)] [] := by first | (simp [entryFrame, mkF, argsToLocals, Value.category]; done) | rfl
theorem ef_nlz (x0 : Int32) (m : MethodId) : entryFrame m #[(.int x0)] 2 = mkF m 0 #[.val (.int x0), .unset] [] := by first | (simp [entryFrame, mkF, argsToLocals, Value.category]; done) | rfl
theorem ef_tsf (x0 : Int32) (m : MethodId) : entryFrame m #[(.int x0)] 2 = mkF m 0 #[.val (.int x0), .unset] [] := by first | (simp [entryFrame, mkF, argsToLocals, Value.category]; done) | rfl
theorem ef_hm (x0 : Addr) (x1 : Int32) (x2 : UInt32) (m : MethodId) : entryFrame m #[(.ref x0), (.int x1), (.float x2)] 3 = mkF m 0 #[.val (.ref x0), .val (.int x1), .val (.float x2)] [] := by first | (simp [entryFrame, mkF, argsToLocals, Value.category]; done) | rfl
theorem ef_lm (x0 : Addr) (x1 : Int32) (x2 : UInt32) (m : MethodId) : entryFrame m #[(.ref x0), (.int x1), (.float x2)] 3 = mkF m 0 #[.val (.ref x0), .val (.int x1), .val (.float x2)] [] := by first | (simp [entryFrame, mkF, argsToLocals, Value.category]; done) | rfl
theorem ef_hs (x0 : Addr) (x1 : Int32) (x2 : UInt32) (x3 : Int32) (m : MethodId) : entryFrame m #[(.ref x0), (.int x1), (.float x2), (.int x3)] 4 = mkF m 0 #[.val (.ref x0), .val (.int x1), .val (.float x2), .val (.int x3)] [] := by first | (simp [entryFrame, mkF, argsToLocals, Value.category]; done) | rfl
theorem ef_ls (x0 : Addr) (m : MethodId) : entryFrame m #[(.ref x0)] 1 = mkF m 0 #[.val (.ref x0)] [] := by first | (simp [entryFrame, mkF, argsToLocals, Value.category]; done) | rfl
theorem ef_job (a ia : Addr) (pl : Value) (hpl : pl.isRef = true) (ac nu : Int64) (m : MethodId) : entryFrame m #[(.ref a), (.ref ia), pl, (.long ac), (.long nu)] 7 = mkF m 0 #[.val (.ref a), .val (.ref ia), .val pl, .val (.long ac), .second, .val (.long nu), .second] [] := by
  rcases ref_cases hpl with rfl | ⟨b, rfl⟩ <;> first | (simp [entryFrame, mkF, argsToLocals, Value.category]; done) | rfl
theorem ef_mp (x0 : Addr) (m : MethodId) : entryFrame m #[(.ref x0)] 1 = mkF m 0 #[.val (.ref x0)] [] := by first | (simp [entryFrame, mkF, argsToLocals, Value.category]; done) | rfl
theorem ef_mt (x0 : Addr) (m : MethodId) : entryFrame m #[(.ref x0)] 1 = mkF m 0 #[.val (.ref x0)] [] := by first | (simp [entryFrame, mkF, argsToLocals, Value.category]; done) | rfl
theorem ef_cl (x0 : Addr) (m : MethodId) : entryFrame m #[(.ref x0)] 1 = mkF m 0 #[.val (.ref x0)] [] := by first | (simp [entryFrame, mkF, argsToLocals, Value.category]; done) | rfl
theorem ef_rp (x0 : Addr) (x1 : Int32) (x2 : Int32) (m : MethodId) : entryFrame m #[(.ref x0), (.int x1), (.int x2)] 3 = mkF m 0 #[.val (.ref x0), .val (.int x1), .val (.int x2)] [] := by first | (simp [entryFrame, mkF, argsToLocals, Value.category]; done) | rfl
theorem ef_an (x0 : Addr) (m : MethodId) : entryFrame m #[(.ref x0)] 1 = mkF m 0 #[.val (.ref x0)] [] := by first | (simp [entryFrame, mkF, argsToLocals, Value.category]; done) | rfl
theorem ef_aw (x0 : Addr) (m : MethodId) : entryFrame m #[(.ref x0)] 1 = mkF m 0 #[.val (.ref x0)] [] := by first | (simp [entryFrame, mkF, argsToLocals, Value.category]; done) | rfl
theorem ef_hsz (x0 : Addr) (m : MethodId) : entryFrame m #[(.ref x0)] 1 = mkF m 0 #[.val (.ref x0)] [] := by first | (simp [entryFrame, mkF, argsToLocals, Value.category]; done) | rfl
theorem ef_k2 (x0 : Addr) (x1 : Addr) (x2 : Int32) (m : MethodId) : entryFrame m #[(.ref x0), (.ref x1), (.int x2)] 6 = mkF m 0 #[.val (.ref x0), .val (.ref x1), .val (.int x2), .unset, .unset, .unset] [] := by first | (simp [entryFrame, mkF, argsToLocals, Value.category]; done) | rfl
theorem ef_k1 (x0 : Addr) (x1 : Addr) (m : MethodId) : entryFrame m #[(.ref x0), (.ref x1)] 2 = mkF m 0 #[.val (.ref x0), .val (.ref x1)] [] := by first | (simp [entryFrame, mkF, argsToLocals, Value.category]; done) | rfl
theorem ef_ta (x0 : Addr) (m : MethodId) : entryFrame m #[(.ref x0)] 1 = mkF m 0 #[.val (.ref x0)] [] := by first | (simp [entryFrame, mkF, argsToLocals, Value.category]; done) | rfl
theorem ef_abl (x0 : Addr) (m : MethodId) : entryFrame m #[(.ref x0)] 1 = mkF m 0 #[.val (.ref x0)] [] := by first | (simp [entryFrame, mkF, argsToLocals, Value.category]; done) | rfl
theorem ef_alc (x0 : Addr) (x1 : Addr) (m : MethodId) : entryFrame m #[(.ref x0), (.ref x1)] 3 = mkF m 0 #[.val (.ref x0), .val (.ref x1), .unset] [] := by first | (simp [entryFrame, mkF, argsToLocals, Value.category]; done) | rfl
theorem ef_hc (x0 : Addr) (m : MethodId) : entryFrame m #[(.ref x0)] 3 = mkF m 0 #[.val (.ref x0), .unset, .unset] [] := by first | (simp [entryFrame, mkF, argsToLocals, Value.category]; done) | rfl
theorem ef_lc (x0 : Addr) (m : MethodId) : entryFrame m #[(.ref x0)] 1 = mkF m 0 #[.val (.ref x0)] [] := by first | (simp [entryFrame, mkF, argsToLocals, Value.category]; done) | rfl
theorem ef_sc (x0 : Addr) (m : MethodId) : entryFrame m #[(.ref x0)] 1 = mkF m 0 #[.val (.ref x0)] [] := by first | (simp [entryFrame, mkF, argsToLocals, Value.category]; done) | rfl
theorem ef_ma (x0 : Addr) (x1 : Addr) (x2 : Int64) (m : MethodId) : entryFrame m #[(.ref x0), (.ref x1), (.long x2)] 5 = mkF m 0 #[.val (.ref x0), .val (.ref x1), .val (.long x2), .second, .unset] [] := by first | (simp [entryFrame, mkF, argsToLocals, Value.category]; done) | rfl
theorem ef_rq (x0 : Addr) (x1 : Addr) (m : MethodId) : entryFrame m #[(.ref x0), (.ref x1)] 2 = mkF m 0 #[.val (.ref x0), .val (.ref x1)] [] := by first | (simp [entryFrame, mkF, argsToLocals, Value.category]; done) | rfl
theorem ef_ij (x0 : Addr) (m : MethodId) : entryFrame m #[(.ref x0)] 1 = mkF m 0 #[.val (.ref x0)] [] := by first | (simp [entryFrame, mkF, argsToLocals, Value.category]; done) | rfl
theorem ef_cj (x0 : Addr) (m : MethodId) : entryFrame m #[(.ref x0)] 1 = mkF m 0 #[.val (.ref x0)] [] := by first | (simp [entryFrame, mkF, argsToLocals, Value.category]; done) | rfl
theorem ef_miN (x0 : Addr) (x1 : Addr) (x2 : Addr) (x5 : Addr) (m : MethodId) : entryFrame m #[(.ref x0), (.ref x1), (.ref x2), .null, .null, (.ref x5)] 6 = mkF m 0 #[.val (.ref x0), .val (.ref x1), .val (.ref x2), .val .null, .val .null, .val (.ref x5)] [] := by first | (simp [entryFrame, mkF, argsToLocals, Value.category]; done) | rfl
theorem ef_fjN (x0 : Addr) (x1 : Addr) (x3 : Addr) (m : MethodId) : entryFrame m #[(.ref x0), (.ref x1), .null, (.ref x3)] 4 = mkF m 0 #[.val (.ref x0), .val (.ref x1), .val .null, .val (.ref x3)] [] := by first | (simp [entryFrame, mkF, argsToLocals, Value.category]; done) | rfl
theorem ef_miA (x0 : Addr) (x1 : Addr) (x2 : Addr) (x4 : Addr) (x5 : Addr) (m : MethodId) : entryFrame m #[(.ref x0), (.ref x1), (.ref x2), .null, (.ref x4), (.ref x5)] 6 = mkF m 0 #[.val (.ref x0), .val (.ref x1), .val (.ref x2), .val .null, .val (.ref x4), .val (.ref x5)] [] := by first | (simp [entryFrame, mkF, argsToLocals, Value.category]; done) | rfl
theorem ef_fjA (x0 : Addr) (x1 : Addr) (x2 : Addr) (x3 : Addr) (m : MethodId) : entryFrame m #[(.ref x0), (.ref x1), (.ref x2), (.ref x3)] 4 = mkF m 0 #[.val (.ref x0), .val (.ref x1), .val (.ref x2), .val (.ref x3)] [] := by first | (simp [entryFrame, mkF, argsToLocals, Value.category]; done) | rfl
theorem ef_dn (x0 : Addr) (x1 : Addr) (m : MethodId) : entryFrame m #[(.ref x0), (.ref x1)] 2 = mkF m 0 #[.val (.ref x0), .val (.ref x1)] [] := by first | (simp [entryFrame, mkF, argsToLocals, Value.category]; done) | rfl
theorem ef_fd (x0 : Addr) (x1 : Addr) (x2 : Addr) (m : MethodId) : entryFrame m #[(.ref x0), (.ref x1), (.ref x2)] 3 = mkF m 0 #[.val (.ref x0), .val (.ref x1), .val (.ref x2)] [] := by first | (simp [entryFrame, mkF, argsToLocals, Value.category]; done) | rfl
theorem ef_0 (x0 : Int32) (x1 : Int64) (x2 : Int64) (x3 : Int64) (x4 : Int32) (x5 : Int32) (m : MethodId) : entryFrame m #[(.int x0), (.long x1), (.long x2), (.long x3), (.int x4), (.int x5)] maxLocals = mkF m 0 #[.val (.int x0), .val (.long x1), .second, .val (.long x2), .second, .val (.long x3), .second, .val (.int x4), .val (.int x5), .unset, .unset, .unset, .unset, .unset, .unset, .unset] [] := by first | (simp [entryFrame, mkF, argsToLocals, Value.category, maxLocals]; done) | rfl
set_option maxRecDepth 65536 in
set_option maxHeartbeats 40000000 in
theorem ac_ct {l : Launch} {Z : State} {a0 : Array Value} (hw : ∀ d ∈ tables_1, d.before a0 Z = true) (a : Addr) (h0 : Heap) (n0 : Nat) :
    Ct l Z (⟨"java/util/AbstractCollection", "<init>", "()V"⟩ : MethodName) jdk_22_method_1_code 1 none ({ frames := 1, cells := 0, slots := 0, locals := 12 } : Room) n0 #[(.ref a)] h0 (fun v h' => v = none ∧ h' = h0) := by
  refine Ct.of (plainFor_of_name pn_0) (fun m => ef_ac a m) ?_
  intro W V H r0
  have r1 : W h0 0 0 1 #[.val (.ref a)] [(.ref a)] := (H.aloadN d6_0 r0 rfl rfl)
  have r2 : W h0 0 0 4 #[.val (.ref a)] [] := H.initO (w := 0) (hw _ (List.mem_of_getElem? (i := 35) rfl)) (hw _ (List.mem_of_getElem? (i := 8) rfl)) (hw _ (List.mem_of_getElem? (i := 9) rfl)) rfl (by decide) (Nat.le_of_eq rfl) (by decide) d6_1 r1
  exact ⟨_, _, H.retN rfl (Nat.le_refl _) (Nat.le_refl _) d6_4 r2, rfl, rfl⟩
set_option maxRecDepth 65536 in
set_option maxHeartbeats 40000000 in
theorem as_ct {l : Launch} {Z : State} {a0 : Array Value} (hw : ∀ d ∈ tables_1, d.before a0 Z = true) (a : Addr) (h0 : Heap) (n0 : Nat) :
    Ct l Z (⟨"java/util/AbstractSet", "<init>", "()V"⟩ : MethodName) jdk_91_method_1_code 1 none ({ frames := 2, cells := 0, slots := 0, locals := 24 } : Room) n0 #[(.ref a)] h0 (fun v h' => v = none ∧ h' = h0) := by
  refine Ct.of (plainFor_of_name pn_1) (fun m => ef_as a m) ?_
  intro W V H r0
  have r3 : W h0 0 0 1 #[.val (.ref a)] [(.ref a)] := (H.aloadN d5_0 r0 rfl rfl)
  obtain ⟨_, hn1, ⟨rfl, eh1⟩, r4⟩ := H.callI (w := 0) (argsL := []) (rest := []) rfl (hw _ (List.mem_of_getElem? (i := 29) rfl)) (hw _ (List.mem_of_getElem? (i := 30) rfl)) (hw _ (List.mem_of_getElem? (i := 33) rfl)) (hw _ (List.mem_of_getElem? (i := 34) rfl)) (by decide) pd_0 (by decide) (by decide) (by decide) (by decide) (ac_ct hw a h0 n0) rfl rfl (Nat.le_of_eq rfl) rfl d5_1 r3
  replace r4 : W hn1 0 0 4 #[.val (.ref a)] [] := r4
  rw [eh1] at r4
  exact ⟨_, _, H.retN rfl (Nat.le_refl _) (Nat.le_refl _) d5_4 r4, rfl, rfl⟩
set_option maxRecDepth 65536 in
set_option maxHeartbeats 40000000 in
theorem am_ct {l : Launch} {Z : State} {a0 : Array Value} (hw : ∀ d ∈ tables_1, d.before a0 Z = true) (a : Addr) (h0 : Heap) (n0 : Nat) :
    Ct l Z (⟨"java/util/AbstractMap", "<init>", "()V"⟩ : MethodName) jdk_71_method_1_code 1 none ({ frames := 1, cells := 0, slots := 0, locals := 12 } : Room) n0 #[(.ref a)] h0 (fun v h' => v = none ∧ h' = h0) := by
  refine Ct.of (plainFor_of_name pn_2) (fun m => ef_am a m) ?_
  intro W V H r0
  have r5 : W h0 0 0 1 #[.val (.ref a)] [(.ref a)] := (H.aloadN d9_0 r0 rfl rfl)
  have r6 : W h0 0 0 4 #[.val (.ref a)] [] := H.initO (w := 0) (hw _ (List.mem_of_getElem? (i := 55) rfl)) (hw _ (List.mem_of_getElem? (i := 8) rfl)) (hw _ (List.mem_of_getElem? (i := 9) rfl)) rfl (by decide) (Nat.le_of_eq rfl) (by decide) d9_1 r5
  exact ⟨_, _, H.retN rfl (Nat.le_refl _) (Nat.le_refl _) d9_4 r6, rfl, rfl⟩
set_option maxRecDepth 65536 in
set_option maxHeartbeats 40000000 in
theorem nan_ct {l : Launch} {Z : State} {a0 : Array Value} (hw : ∀ d ∈ tables_1, d.before a0 Z = true) (h0 : Heap) (n0 : Nat) :
    Ct l Z (⟨"java/lang/Float", "isNaN", "(F)Z"⟩ : MethodName) jdk_118_method_6_code 1 (some .boolean) ({ frames := 0, cells := 0, slots := 0, locals := 0 } : Room) n0 #[(.float (1061158912 : UInt32))] h0 (fun v h' => v = some (.int (0 : Int32)) ∧ h' = h0) := by
  refine Ct.of (by decide +kernel) (fun m => ef_nan (1061158912 : UInt32) m) ?_
  intro W V H r0
  have r7 : W h0 0 0 2 #[.val (.float (1061158912 : UInt32))] [(.float (1061158912 : UInt32)), (.float (1061158912 : UInt32))] := (H.floadN d10_1 (H.floadN d10_0 r0 rfl) rfl)
  have r8 : W h0 0 0 3 #[.val (.float (1061158912 : UInt32))] [(.int (0 : Int32))] := H.fcmp (v := (0 : Int32)) d10_2 r7 (by decide +kernel)
  have r9 : W h0 0 0 10 #[.val (.float (1061158912 : UInt32))] [] := (H.ifYes (pc' := 10) d10_3 r8 (by decide) (by decide) (teq (rfl : (0 : Int32) = 0)).1)
  have r10 : W h0 0 0 11 #[.val (.float (1061158912 : UInt32))] [(.int (0 : Int32))] := (H.iconst (z := (0 : Int32)) d10_10 r9 rfl)
  exact ⟨_, _, H.retZ rfl rfl (Nat.le_refl _) (Nat.le_refl _) d10_11 r10, rfl, rfl⟩
set_option maxRecDepth 65536 in
set_option maxHeartbeats 40000000 in
theorem nlz_ct {l : Launch} {Z : State} {a0 : Array Value} (hw : ∀ d ∈ tables_1, d.before a0 Z = true) (h0 : Heap) (n0 : Nat) :
    Ct l Z (⟨"java/lang/Integer", "numberOfLeadingZeros", "(I)I"⟩ : MethodName) jdk_33_method_47_code 2 (some .int) ({ frames := 0, cells := 0, slots := 0, locals := 0 } : Room) n0 #[(.int (15 : Int32))] h0 (fun v h' => v = some (.int (28 : Int32)) ∧ h' = h0) := by
  refine Ct.of (plainFor_of_name pn_3) (fun m => ef_nlz (15 : Int32) m) ?_
  intro W V H r0
  have r11 : W h0 0 0 15 #[.val (.int (15 : Int32)), .unset] [] := (H.ifYes (pc' := 15) d12_1 (H.iloadN d12_0 r0 rfl) (by decide) (by decide) (tlt (by decide +kernel)).2.2.1)
  have r12 : W h0 0 0 18 #[.val (.int (15 : Int32)), .val (.int (31 : Int32))] [] := (H.istoreN d12_17 (H.bipush (z := (31 : Int32)) d12_15 r11 rfl) rfl)
  have r13 : W h0 0 0 33 #[.val (.int (15 : Int32)), .val (.int (31 : Int32))] [] := (H.icmpYes (pc' := 33) d12_22 (H.ldcWInt d12_19 (H.iloadN d12_18 r12 rfl) (hw _ (List.mem_of_getElem? (i := 70) rfl))) (by decide) (by decide) (tlt (by decide +kernel)).1)
  have r14 : W h0 0 0 48 #[.val (.int (15 : Int32)), .val (.int (31 : Int32))] [] := (H.icmpYes (pc' := 48) d12_37 (H.sipush (z := (256 : Int32)) d12_34 (H.iloadN d12_33 r13 rfl) rfl) (by decide) (by decide) (tlt (by decide +kernel)).1)
  have r15 : W h0 0 0 61 #[.val (.int (15 : Int32)), .val (.int (31 : Int32))] [] := (H.icmpYes (pc' := 61) d12_51 (H.bipush (z := (16 : Int32)) d12_49 (H.iloadN d12_48 r14 rfl) rfl) (by decide) (by decide) (tlt (by decide +kernel)).1)
  have r16 : W h0 0 0 66 #[.val (.int (15 : Int32)), .val (.int (31 : Int32))] [] := (H.icmpNo d12_63 (H.iconst (z := (4 : Int32)) d12_62 (H.iloadN d12_61 r15 rfl) rfl) (flt (by decide +kernel)).1)
  have r17 : W h0 0 0 69 #[.val (.int (15 : Int32)), .val (.int ((31 : Int32) + (-2 : Int32)))] [] := (H.iinc (z := ((31 : Int32) + (-2 : Int32))) d12_66 r16 rfl rfl rfl)
  have r18 : W h0 0 0 73 #[.val (.int (((15 : Int32).toUInt32 >>> ((2 : Int32) &&& 31).toUInt32).toInt32)), .val (.int ((31 : Int32) + (-2 : Int32)))] [] := (H.istoreN d12_72 (H.iushr d12_71 (H.iconst (z := (2 : Int32)) d12_70 (H.iloadN d12_69 r17 rfl) rfl)) rfl)
  have r19 : W h0 0 0 78 #[.val (.int (((15 : Int32).toUInt32 >>> ((2 : Int32) &&& 31).toUInt32).toInt32)), .val (.int ((31 : Int32) + (-2 : Int32)))] [(.int (((31 : Int32) + (-2 : Int32)) - (((((15 : Int32).toUInt32 >>> ((2 : Int32) &&& 31).toUInt32).toInt32).toUInt32 >>> ((1 : Int32) &&& 31).toUInt32).toInt32)))] := (H.isub d12_77 (H.iushr d12_76 (H.iconst (z := (1 : Int32)) d12_75 (H.iloadN d12_74 (H.iloadN d12_73 r18 rfl) rfl) rfl)))
  exact ⟨_, _, H.retI rfl (Nat.le_refl _) (Nat.le_refl _) d12_78 r19, by first | rfl | decide +kernel, rfl⟩
set_option maxRecDepth 65536 in
set_option maxHeartbeats 40000000 in
theorem tsf_ct {l : Launch} {Z : State} {a0 : Array Value} (hw : ∀ d ∈ tables_1, d.before a0 Z = true) (h0 : Heap) (n0 : Nat) :
    Ct l Z (⟨"java/util/HashMap", "tableSizeFor", "(I)I"⟩ : MethodName) jdk_69_method_4_code 2 (some .int) ({ frames := 1, cells := 0, slots := 0, locals := 14 } : Room) n0 #[(.int (16 : Int32))] h0 (fun v h' => v = some (.int (16 : Int32)) ∧ h' = h0) := by
  refine Ct.of (plainFor_of_name pn_4) (fun m => ef_tsf (16 : Int32) m) ?_
  intro W V H r0
  have r20 : W h0 0 0 4 #[.val (.int (16 : Int32)), .unset] [(.int ((16 : Int32) - (1 : Int32))), (.int (-1 : Int32))] := (H.isub d11_3 (H.iconst (z := (1 : Int32)) d11_2 (H.iloadN d11_1 (H.iconst (z := (-1 : Int32)) d11_0 r0 rfl) rfl) rfl))
  replace r20 : W h0 0 0 4 #[.val (.int (16 : Int32)), .unset] [(.int (15 : Int32)), (.int (-1 : Int32))] := r20
  have r21 : W h0 0 0 7 #[.val (.int (16 : Int32)), .unset] [(.int (28 : Int32)), (.int (-1 : Int32))] := H.callSP (w := 1) (argsL := [(.int (15 : Int32))]) (rest := [(.int (-1 : Int32))]) (hw _ (List.mem_of_getElem? (i := 66) rfl)) (hw _ (List.mem_of_getElem? (i := 67) rfl)) (hw _ (List.mem_of_getElem? (i := 68) rfl)) (hw _ (List.mem_of_getElem? (i := 69) rfl)) (by decide) pd_1 (by decide) (by decide) (by decide) (by decide) (nlz_ct hw h0 n0) rfl rfl (Nat.le_of_eq rfl) rfl d11_4 r20
  have r22 : W h0 0 0 9 #[.val (.int (16 : Int32)), .val (.int (((-1 : Int32).toUInt32 >>> ((28 : Int32) &&& 31).toUInt32).toInt32))] [] := (H.istoreN d11_8 (H.iushr d11_7 r21) rfl)
  have r23 : W h0 0 0 17 #[.val (.int (16 : Int32)), .val (.int (((-1 : Int32).toUInt32 >>> ((28 : Int32) &&& 31).toUInt32).toInt32))] [] := (H.ifYes (pc' := 17) d11_10 (H.iloadN d11_9 r22 rfl) (by decide) (by decide) (flt (by decide +kernel)).2.1)
  have r24 : W h0 0 0 28 #[.val (.int (16 : Int32)), .val (.int (((-1 : Int32).toUInt32 >>> ((28 : Int32) &&& 31).toUInt32).toInt32))] [] := (H.icmpYes (pc' := 28) d11_20 (H.ldcInt d11_18 (H.iloadN d11_17 r23 rfl) (hw _ (List.mem_of_getElem? (i := 56) rfl))) (by decide) (by decide) (tlt (by decide +kernel)).1)
  have r25 : W h0 0 0 31 #[.val (.int (16 : Int32)), .val (.int (((-1 : Int32).toUInt32 >>> ((28 : Int32) &&& 31).toUInt32).toInt32))] [(.int ((((-1 : Int32).toUInt32 >>> ((28 : Int32) &&& 31).toUInt32).toInt32) + (1 : Int32)))] := (H.iadd d11_30 (H.iconst (z := (1 : Int32)) d11_29 (H.iloadN d11_28 r24 rfl) rfl))
  exact ⟨_, _, H.retI rfl (Nat.le_refl _) (Nat.le_refl _) d11_31 r25, by first | rfl | decide +kernel, rfl⟩
set_option maxRecDepth 65536 in
set_option maxHeartbeats 40000000 in
theorem hm_ct {l : Launch} {Z : State} {a0 : Array Value} (hw : ∀ d ∈ tables_1, d.before a0 Z = true) (a : Addr) (h0 : Heap) (n0 : Nat) (Z0 : n0 ≤ h0.size) (N0 : n0 ≤ a) (X0 : Exa Z h0 a "java/util/LinkedHashMap") (F1 : Fld Z h0 a "java/util/HashMap" "loadFactor" "F" (.float 0)) (F2 : Fld Z h0 a "java/util/HashMap" "threshold" "I" (.int 0)) (F3 : Fld Z h0 a "java/util/LinkedHashMap" "putMode" "I" (.int 0)) (F4 : Fld Z h0 a "java/util/LinkedHashMap" "accessOrder" "Z" (.int 0)) (E_size : Fld Z h0 a "java/util/HashMap" "size" "I" (.int 0)) (E_modCount : Fld Z h0 a "java/util/HashMap" "modCount" "I" (.int 0)) (E_table : Fld Z h0 a "java/util/HashMap" "table" "[Ljava/util/HashMap$Node;" (.null)) (E_head : Fld Z h0 a "java/util/LinkedHashMap" "head" "Ljava/util/LinkedHashMap$Entry;" (.null)) (E_tail : Fld Z h0 a "java/util/LinkedHashMap" "tail" "Ljava/util/LinkedHashMap$Entry;" (.null)) :
    Ct l Z (⟨"java/util/HashMap", "<init>", "(IF)V"⟩ : MethodName) jdk_69_method_5_code 3 none ({ frames := 2, cells := 0, slots := 0, locals := 28 } : Room) n0 #[(.ref a), (.int (16 : Int32)), (.float (1061158912 : UInt32))] h0 (fun v h' => v = none ∧ Keep h0 h' [a] ∧ Exa Z h' a "java/util/LinkedHashMap" ∧ Fld Z h' a "java/util/LinkedHashMap" "putMode" "I" (.int 0) ∧ Fld Z h' a "java/util/LinkedHashMap" "accessOrder" "Z" (.int 0) ∧ Fld Z h' a "java/util/HashMap" "size" "I" (.int 0) ∧ Fld Z h' a "java/util/HashMap" "modCount" "I" (.int 0) ∧ Fld Z h' a "java/util/HashMap" "table" "[Ljava/util/HashMap$Node;" (.null) ∧ Fld Z h' a "java/util/LinkedHashMap" "head" "Ljava/util/LinkedHashMap$Entry;" (.null) ∧ Fld Z h' a "java/util/LinkedHashMap" "tail" "Ljava/util/LinkedHashMap$Entry;" (.null)) := by
  refine Ct.of (plainFor_of_name pn_4) (fun m => ef_hm a (16 : Int32) (1061158912 : UInt32) m) ?_
  intro W V H r0
  have r26 : W h0 0 0 1 #[.val (.ref a), .val (.int (16 : Int32)), .val (.float (1061158912 : UInt32))] [(.ref a)] := (H.aloadN d8_0 r0 rfl rfl)
  obtain ⟨_, hn1, ⟨rfl, eh1⟩, r27⟩ := H.callI (w := 0) (argsL := []) (rest := []) rfl (hw _ (List.mem_of_getElem? (i := 49) rfl)) (hw _ (List.mem_of_getElem? (i := 50) rfl)) (hw _ (List.mem_of_getElem? (i := 53) rfl)) (hw _ (List.mem_of_getElem? (i := 54) rfl)) (by decide) pd_0 (by decide) (by decide) (by decide) (by decide) (am_ct hw a h0 n0) rfl rfl (Nat.le_of_eq rfl) rfl d8_1 r26
  replace r27 : W hn1 0 0 4 #[.val (.ref a), .val (.int (16 : Int32)), .val (.float (1061158912 : UInt32))] [] := r27
  rw [eh1] at r27
  have r28 : W h0 0 0 35 #[.val (.ref a), .val (.int (16 : Int32)), .val (.float (1061158912 : UInt32))] [] := (H.ifYes (pc' := 35) d8_5 (H.iloadN d8_4 r27 rfl) (by decide) (by decide) (flt (by decide +kernel)).2.1)
  have r29 : W h0 0 0 44 #[.val (.ref a), .val (.int (16 : Int32)), .val (.float (1061158912 : UInt32))] [] := (H.icmpYes (pc' := 44) d8_38 (H.ldcInt d8_36 (H.iloadN d8_35 r28 rfl) (hw _ (List.mem_of_getElem? (i := 56) rfl))) (by decide) (by decide) (flt (by decide +kernel)).2.2.2)
  have r30 : W h0 0 0 45 #[.val (.ref a), .val (.int (16 : Int32)), .val (.float (1061158912 : UInt32))] [(.float (1061158912 : UInt32))] := (H.floadN d8_44 r29 rfl)
  have r31 : W h0 0 0 46 #[.val (.ref a), .val (.int (16 : Int32)), .val (.float (1061158912 : UInt32))] [(.float (0 : UInt32)), (.float (1061158912 : UInt32))] := H.fconst0 (v := (0 : UInt32)) d8_45 r30 (by decide +kernel)
  have r32 : W h0 0 0 47 #[.val (.ref a), .val (.int (16 : Int32)), .val (.float (1061158912 : UInt32))] [(.int (1 : Int32))] := H.fcmp (v := (1 : Int32)) d8_46 r31 (by decide +kernel)
  have r33 : W h0 0 0 50 #[.val (.ref a), .val (.int (16 : Int32)), .val (.float (1061158912 : UInt32))] [] := (H.ifNo d8_47 r32 (tlt (by decide)).2.2.2)
  have r34 : W h0 0 0 51 #[.val (.ref a), .val (.int (16 : Int32)), .val (.float (1061158912 : UInt32))] [(.float (1061158912 : UInt32))] := (H.floadN d8_50 r33 rfl)
  have r35 : W h0 0 0 54 #[.val (.ref a), .val (.int (16 : Int32)), .val (.float (1061158912 : UInt32))] [(.int (0 : Int32))] := H.callSP (w := 0) (argsL := [(.float (1061158912 : UInt32))]) (rest := []) (hw _ (List.mem_of_getElem? (i := 57) rfl)) (hw _ (List.mem_of_getElem? (i := 58) rfl)) (hw _ (List.mem_of_getElem? (i := 59) rfl)) (hw _ (List.mem_of_getElem? (i := 60) rfl)) (by decide) pd_2 (by decide) (by decide) (by decide) (by decide) (nan_ct hw h0 n0) rfl rfl (Nat.le_of_eq rfl) rfl d8_51 r34
  have r36 : W h0 0 0 84 #[.val (.ref a), .val (.int (16 : Int32)), .val (.float (1061158912 : UInt32))] [] := (H.ifYes (pc' := 84) d8_54 r35 (by decide) (by decide) (teq (rfl : (0 : Int32) = 0)).1)
  have r37 : W h0 0 0 86 #[.val (.ref a), .val (.int (16 : Int32)), .val (.float (1061158912 : UInt32))] [(.float (1061158912 : UInt32)), (.ref a)] := (H.floadN d8_85 (H.aloadN d8_84 r36 rfl rfl) rfl)
  obtain ⟨h38, w39, r40⟩ := H.putF (ty := .float) (host := "") (Or.inl (hw _ (List.mem_of_getElem? (i := 61) rfl))) Via.refl F1 X0 (Or.inr ⟨(hw _ (List.mem_of_getElem? (i := 62) rfl)), rfl, rfl⟩) (hw _ (List.mem_of_getElem? (i := 37) rfl)) (by decide +kernel) rfl rfl N0 d8_86 r37
  have Z41 : n0 ≤ h38.size := by rw [w39.size]; exact Z0
  have G42 : Fld Z h38 a "java/util/HashMap" "loadFactor" "F" (.float (1061158912 : UInt32)) := F1.same w39
  replace r40 : W h38 0 0 89 #[.val (.ref a), .val (.int (16 : Int32)), .val (.float (1061158912 : UInt32))] [] := r40
  have r43 : W h38 0 0 91 #[.val (.ref a), .val (.int (16 : Int32)), .val (.float (1061158912 : UInt32))] [(.int (16 : Int32)), (.ref a)] := (H.iloadN d8_90 (H.aloadN d8_89 r40 rfl rfl) rfl)
  have r44 : W h38 0 0 94 #[.val (.ref a), .val (.int (16 : Int32)), .val (.float (1061158912 : UInt32))] [(.int (16 : Int32)), (.ref a)] := H.callSP (w := 1) (argsL := [(.int (16 : Int32))]) (rest := [(.ref a)]) (hw _ (List.mem_of_getElem? (i := 63) rfl)) (hw _ (List.mem_of_getElem? (i := 64) rfl)) (hw _ (List.mem_of_getElem? (i := 47) rfl)) (hw _ (List.mem_of_getElem? (i := 65) rfl)) (by decide) pd_1 (by decide) (by decide) (by decide) (by decide) (tsf_ct hw h38 n0) rfl rfl (Nat.le_of_eq rfl) rfl d8_91 r43
  have F45 := Fld.other w39 F2 (Or.inr (slot_ne (a0 := a0) (C := "java/util/LinkedHashMap") (Or.inl (hw _ (List.mem_of_getElem? (i := 72) rfl))) (Or.inr (hw _ (List.mem_of_getElem? (i := 62) rfl))) (by decide) (t := .int) (t' := .float) (by decide +kernel) (by decide +kernel)))
  have F46 := Exa.wr w39 X0
  obtain ⟨h47, w48, r49⟩ := H.putF (ty := .int) (host := "") (Or.inl (hw _ (List.mem_of_getElem? (i := 71) rfl))) Via.refl F45 F46 (Or.inl (hw _ (List.mem_of_getElem? (i := 72) rfl))) (hw _ (List.mem_of_getElem? (i := 37) rfl)) (by decide +kernel) rfl rfl N0 d8_94 r44
  have Z50 : n0 ≤ h47.size := by rw [w48.size]; exact Z41
  have G51 : Fld Z h47 a "java/util/HashMap" "threshold" "I" (.int (16 : Int32)) := F45.same w48
  replace r49 : W h47 0 0 97 #[.val (.ref a), .val (.int (16 : Int32)), .val (.float (1061158912 : UInt32))] [] := r49
  have F52 := Exa.wr w48 F46
  have F53 := Fld.other w39 F3 (Or.inr (slot_ne (a0 := a0) (C := "java/util/LinkedHashMap") (Or.inl (hw _ (List.mem_of_getElem? (i := 74) rfl))) (Or.inr (hw _ (List.mem_of_getElem? (i := 62) rfl))) (by decide) (t := .int) (t' := .float) (by decide +kernel) (by decide +kernel)))
  have F54 := Fld.other w48 F53 (Or.inr (slot_ne (a0 := a0) (C := "java/util/LinkedHashMap") (Or.inl (hw _ (List.mem_of_getElem? (i := 74) rfl))) (Or.inl (hw _ (List.mem_of_getElem? (i := 72) rfl))) (by decide) (t := .int) (t' := .int) (by decide +kernel) (by decide +kernel)))
  have F55 := Fld.other w39 F4 (Or.inr (slot_ne (a0 := a0) (C := "java/util/LinkedHashMap") (Or.inr (hw _ (List.mem_of_getElem? (i := 76) rfl))) (Or.inr (hw _ (List.mem_of_getElem? (i := 62) rfl))) (by decide) (t := .boolean) (t' := .float) (by decide +kernel) (by decide +kernel)))
  have F56 := Fld.other w48 F55 (Or.inr (slot_ne (a0 := a0) (C := "java/util/LinkedHashMap") (Or.inr (hw _ (List.mem_of_getElem? (i := 76) rfl))) (Or.inl (hw _ (List.mem_of_getElem? (i := 72) rfl))) (by decide) (t := .boolean) (t' := .int) (by decide +kernel) (by decide +kernel)))
  have F57 := Fld.other w39 E_size (Or.inr (slot_ne (a0 := a0) (C := "java/util/LinkedHashMap") (Or.inl (hw _ (List.mem_of_getElem? (i := 206) rfl))) (Or.inr (hw _ (List.mem_of_getElem? (i := 62) rfl))) (by decide) (t := .int) (t' := .float) (by decide +kernel) (by decide +kernel)))
  have F58 := Fld.other w48 F57 (Or.inr (slot_ne (a0 := a0) (C := "java/util/LinkedHashMap") (Or.inl (hw _ (List.mem_of_getElem? (i := 206) rfl))) (Or.inl (hw _ (List.mem_of_getElem? (i := 72) rfl))) (by decide) (t := .int) (t' := .int) (by decide +kernel) (by decide +kernel)))
  have F59 := Fld.other w39 E_modCount (Or.inr (slot_ne (a0 := a0) (C := "java/util/LinkedHashMap") (Or.inl (hw _ (List.mem_of_getElem? (i := 246) rfl))) (Or.inr (hw _ (List.mem_of_getElem? (i := 62) rfl))) (by decide) (t := .int) (t' := .float) (by decide +kernel) (by decide +kernel)))
  have F60 := Fld.other w48 F59 (Or.inr (slot_ne (a0 := a0) (C := "java/util/LinkedHashMap") (Or.inl (hw _ (List.mem_of_getElem? (i := 246) rfl))) (Or.inl (hw _ (List.mem_of_getElem? (i := 72) rfl))) (by decide) (t := .int) (t' := .int) (by decide +kernel) (by decide +kernel)))
  have F61 := Fld.other w39 E_table (Or.inr (slot_ne (a0 := a0) (C := "java/util/LinkedHashMap") (Or.inl (hw _ (List.mem_of_getElem? (i := 248) rfl))) (Or.inr (hw _ (List.mem_of_getElem? (i := 62) rfl))) (by decide) (t := (.array (.object "java/util/HashMap$Node"))) (t' := .float) (by decide +kernel) (by decide +kernel)))
  have F62 := Fld.other w48 F61 (Or.inr (slot_ne (a0 := a0) (C := "java/util/LinkedHashMap") (Or.inl (hw _ (List.mem_of_getElem? (i := 248) rfl))) (Or.inl (hw _ (List.mem_of_getElem? (i := 72) rfl))) (by decide) (t := (.array (.object "java/util/HashMap$Node"))) (t' := .int) (by decide +kernel) (by decide +kernel)))
  have F63 := Fld.other w39 E_head (Or.inr (slot_ne (a0 := a0) (C := "java/util/LinkedHashMap") (Or.inl (hw _ (List.mem_of_getElem? (i := 221) rfl))) (Or.inr (hw _ (List.mem_of_getElem? (i := 62) rfl))) (by decide) (t := (.object "java/util/LinkedHashMap$Entry")) (t' := .float) (by decide +kernel) (by decide +kernel)))
  have F64 := Fld.other w48 F63 (Or.inr (slot_ne (a0 := a0) (C := "java/util/LinkedHashMap") (Or.inl (hw _ (List.mem_of_getElem? (i := 221) rfl))) (Or.inl (hw _ (List.mem_of_getElem? (i := 72) rfl))) (by decide) (t := (.object "java/util/LinkedHashMap$Entry")) (t' := .int) (by decide +kernel) (by decide +kernel)))
  have F65 := Fld.other w39 E_tail (Or.inr (slot_ne (a0 := a0) (C := "java/util/LinkedHashMap") (Or.inl (hw _ (List.mem_of_getElem? (i := 250) rfl))) (Or.inr (hw _ (List.mem_of_getElem? (i := 62) rfl))) (by decide) (t := (.object "java/util/LinkedHashMap$Entry")) (t' := .float) (by decide +kernel) (by decide +kernel)))
  have F66 := Fld.other w48 F65 (Or.inr (slot_ne (a0 := a0) (C := "java/util/LinkedHashMap") (Or.inl (hw _ (List.mem_of_getElem? (i := 250) rfl))) (Or.inl (hw _ (List.mem_of_getElem? (i := 72) rfl))) (by decide) (t := (.object "java/util/LinkedHashMap$Entry")) (t' := .int) (by decide +kernel) (by decide +kernel)))
  exact ⟨_, _, H.retN rfl (Nat.le_refl _) (Nat.le_refl _) d8_97 r49, rfl, (((Keep.refl _ _).wr w39 (Or.inl (List.mem_of_getElem? (i := 0) rfl))).wr w48 (Or.inl (List.mem_of_getElem? (i := 0) rfl))), F52, F54, F56, F58, F60, F62, F64, F66⟩
set_option maxRecDepth 65536 in
set_option maxHeartbeats 40000000 in
theorem lm_ct {l : Launch} {Z : State} {a0 : Array Value} (hw : ∀ d ∈ tables_1, d.before a0 Z = true) (a : Addr) (h0 : Heap) (n0 : Nat) (Z0 : n0 ≤ h0.size) (N0 : n0 ≤ a) (X0 : Exa Z h0 a "java/util/LinkedHashMap") (F1 : Fld Z h0 a "java/util/HashMap" "loadFactor" "F" (.float 0)) (F2 : Fld Z h0 a "java/util/HashMap" "threshold" "I" (.int 0)) (F3 : Fld Z h0 a "java/util/LinkedHashMap" "putMode" "I" (.int 0)) (F4 : Fld Z h0 a "java/util/LinkedHashMap" "accessOrder" "Z" (.int 0)) (E_size : Fld Z h0 a "java/util/HashMap" "size" "I" (.int 0)) (E_modCount : Fld Z h0 a "java/util/HashMap" "modCount" "I" (.int 0)) (E_table : Fld Z h0 a "java/util/HashMap" "table" "[Ljava/util/HashMap$Node;" (.null)) (E_head : Fld Z h0 a "java/util/LinkedHashMap" "head" "Ljava/util/LinkedHashMap$Entry;" (.null)) (E_tail : Fld Z h0 a "java/util/LinkedHashMap" "tail" "Ljava/util/LinkedHashMap$Entry;" (.null)) :
    Ct l Z (⟨"java/util/LinkedHashMap", "<init>", "(IF)V"⟩ : MethodName) jdk_94_method_14_code 3 none ({ frames := 3, cells := 0, slots := 0, locals := 42 } : Room) n0 #[(.ref a), (.int (16 : Int32)), (.float (1061158912 : UInt32))] h0 (fun v h' => v = none ∧ Keep h0 h' [a] ∧ Exa Z h' a "java/util/LinkedHashMap" ∧ Fld Z h' a "java/util/HashMap" "size" "I" (.int 0) ∧ Fld Z h' a "java/util/HashMap" "modCount" "I" (.int 0) ∧ Fld Z h' a "java/util/HashMap" "table" "[Ljava/util/HashMap$Node;" (.null) ∧ Fld Z h' a "java/util/LinkedHashMap" "head" "Ljava/util/LinkedHashMap$Entry;" (.null) ∧ Fld Z h' a "java/util/LinkedHashMap" "tail" "Ljava/util/LinkedHashMap$Entry;" (.null)) := by
  refine Ct.of (plainFor_of_name pn_5) (fun m => ef_lm a (16 : Int32) (1061158912 : UInt32) m) ?_
  intro W V H r0
  have r67 : W h0 0 0 3 #[.val (.ref a), .val (.int (16 : Int32)), .val (.float (1061158912 : UInt32))] [(.float (1061158912 : UInt32)), (.int (16 : Int32)), (.ref a)] := (H.floadN d7_2 (H.iloadN d7_1 (H.aloadN d7_0 r0 rfl rfl) rfl) rfl)
  obtain ⟨_, hc1, ⟨rfl, K1, X1, G3, G4, D_size, D_modCount, D_table, D_head, D_tail⟩, r68⟩ := H.callI (w := 0) (argsL := [(.int (16 : Int32)), (.float (1061158912 : UInt32))]) (rest := []) rfl (hw _ (List.mem_of_getElem? (i := 43) rfl)) (hw _ (List.mem_of_getElem? (i := 44) rfl)) (hw _ (List.mem_of_getElem? (i := 47) rfl)) (hw _ (List.mem_of_getElem? (i := 48) rfl)) (by decide) pd_3 (by decide) (by decide) (by decide) (by decide) (hm_ct hw a h0 n0 Z0 N0 X0 F1 F2 F3 F4 E_size E_modCount E_table E_head E_tail) rfl rfl (Nat.le_of_eq rfl) rfl d7_3 r67
  have Z69 : n0 ≤ hc1.size := Nat.le_trans Z0 K1.1
  replace r68 : W hc1 0 0 6 #[.val (.ref a), .val (.int (16 : Int32)), .val (.float (1061158912 : UInt32))] [] := r68
  have r70 : W hc1 0 0 8 #[.val (.ref a), .val (.int (16 : Int32)), .val (.float (1061158912 : UInt32))] [(.int (0 : Int32)), (.ref a)] := (H.iconst (z := (0 : Int32)) d7_7 (H.aloadN d7_6 r68 rfl rfl) rfl)
  obtain ⟨h71, w72, r73⟩ := H.putF (ty := .int) (host := "") (Or.inl (hw _ (List.mem_of_getElem? (i := 73) rfl))) Via.refl G3 X1 (Or.inl (hw _ (List.mem_of_getElem? (i := 74) rfl))) (hw _ (List.mem_of_getElem? (i := 37) rfl)) (by decide +kernel) rfl rfl N0 d7_8 r70
  have Z74 : n0 ≤ h71.size := by rw [w72.size]; exact Z69
  have G75 : Fld Z h71 a "java/util/LinkedHashMap" "putMode" "I" (.int (0 : Int32)) := G3.same w72
  replace r73 : W h71 0 0 11 #[.val (.ref a), .val (.int (16 : Int32)), .val (.float (1061158912 : UInt32))] [] := r73
  have r76 : W h71 0 0 13 #[.val (.ref a), .val (.int (16 : Int32)), .val (.float (1061158912 : UInt32))] [(.int (0 : Int32)), (.ref a)] := (H.iconst (z := (0 : Int32)) d7_12 (H.aloadN d7_11 r73 rfl rfl) rfl)
  have F77 := Fld.other w72 G4 (Or.inr (slot_ne (a0 := a0) (C := "java/util/LinkedHashMap") (Or.inr (hw _ (List.mem_of_getElem? (i := 76) rfl))) (Or.inl (hw _ (List.mem_of_getElem? (i := 74) rfl))) (by decide) (t := .boolean) (t' := .int) (by decide +kernel) (by decide +kernel)))
  have F78 := Exa.wr w72 X1
  obtain ⟨h79, w80, r81⟩ := H.putF (ty := .boolean) (host := "") (Or.inl (hw _ (List.mem_of_getElem? (i := 75) rfl))) Via.refl F77 F78 (Or.inr ⟨(hw _ (List.mem_of_getElem? (i := 76) rfl)), rfl, rfl⟩) (hw _ (List.mem_of_getElem? (i := 37) rfl)) (by decide +kernel) (by first | rfl | decide) (by first | rfl | decide) N0 d7_13 r76
  have Z82 : n0 ≤ h79.size := by rw [w80.size]; exact Z74
  have G83 : Fld Z h79 a "java/util/LinkedHashMap" "accessOrder" "Z" (.int (0 : Int32)) := F77.same w80
  replace r81 : W h79 0 0 16 #[.val (.ref a), .val (.int (16 : Int32)), .val (.float (1061158912 : UInt32))] [] := r81
  have F84 := Exa.wr w80 F78
  have F85 := Fld.other w72 D_size (Or.inr (slot_ne (a0 := a0) (C := "java/util/LinkedHashMap") (Or.inl (hw _ (List.mem_of_getElem? (i := 206) rfl))) (Or.inl (hw _ (List.mem_of_getElem? (i := 74) rfl))) (by decide) (t := .int) (t' := .int) (by decide +kernel) (by decide +kernel)))
  have F86 := Fld.other w80 F85 (Or.inr (slot_ne (a0 := a0) (C := "java/util/LinkedHashMap") (Or.inl (hw _ (List.mem_of_getElem? (i := 206) rfl))) (Or.inr (hw _ (List.mem_of_getElem? (i := 76) rfl))) (by decide) (t := .int) (t' := .boolean) (by decide +kernel) (by decide +kernel)))
  have F87 := Fld.other w72 D_modCount (Or.inr (slot_ne (a0 := a0) (C := "java/util/LinkedHashMap") (Or.inl (hw _ (List.mem_of_getElem? (i := 246) rfl))) (Or.inl (hw _ (List.mem_of_getElem? (i := 74) rfl))) (by decide) (t := .int) (t' := .int) (by decide +kernel) (by decide +kernel)))
  have F88 := Fld.other w80 F87 (Or.inr (slot_ne (a0 := a0) (C := "java/util/LinkedHashMap") (Or.inl (hw _ (List.mem_of_getElem? (i := 246) rfl))) (Or.inr (hw _ (List.mem_of_getElem? (i := 76) rfl))) (by decide) (t := .int) (t' := .boolean) (by decide +kernel) (by decide +kernel)))
  have F89 := Fld.other w72 D_table (Or.inr (slot_ne (a0 := a0) (C := "java/util/LinkedHashMap") (Or.inl (hw _ (List.mem_of_getElem? (i := 248) rfl))) (Or.inl (hw _ (List.mem_of_getElem? (i := 74) rfl))) (by decide) (t := (.array (.object "java/util/HashMap$Node"))) (t' := .int) (by decide +kernel) (by decide +kernel)))
  have F90 := Fld.other w80 F89 (Or.inr (slot_ne (a0 := a0) (C := "java/util/LinkedHashMap") (Or.inl (hw _ (List.mem_of_getElem? (i := 248) rfl))) (Or.inr (hw _ (List.mem_of_getElem? (i := 76) rfl))) (by decide) (t := (.array (.object "java/util/HashMap$Node"))) (t' := .boolean) (by decide +kernel) (by decide +kernel)))
  have F91 := Fld.other w72 D_head (Or.inr (slot_ne (a0 := a0) (C := "java/util/LinkedHashMap") (Or.inl (hw _ (List.mem_of_getElem? (i := 221) rfl))) (Or.inl (hw _ (List.mem_of_getElem? (i := 74) rfl))) (by decide) (t := (.object "java/util/LinkedHashMap$Entry")) (t' := .int) (by decide +kernel) (by decide +kernel)))
  have F92 := Fld.other w80 F91 (Or.inr (slot_ne (a0 := a0) (C := "java/util/LinkedHashMap") (Or.inl (hw _ (List.mem_of_getElem? (i := 221) rfl))) (Or.inr (hw _ (List.mem_of_getElem? (i := 76) rfl))) (by decide) (t := (.object "java/util/LinkedHashMap$Entry")) (t' := .boolean) (by decide +kernel) (by decide +kernel)))
  have F93 := Fld.other w72 D_tail (Or.inr (slot_ne (a0 := a0) (C := "java/util/LinkedHashMap") (Or.inl (hw _ (List.mem_of_getElem? (i := 250) rfl))) (Or.inl (hw _ (List.mem_of_getElem? (i := 74) rfl))) (by decide) (t := (.object "java/util/LinkedHashMap$Entry")) (t' := .int) (by decide +kernel) (by decide +kernel)))
  have F94 := Fld.other w80 F93 (Or.inr (slot_ne (a0 := a0) (C := "java/util/LinkedHashMap") (Or.inl (hw _ (List.mem_of_getElem? (i := 250) rfl))) (Or.inr (hw _ (List.mem_of_getElem? (i := 76) rfl))) (by decide) (t := (.object "java/util/LinkedHashMap$Entry")) (t' := .boolean) (by decide +kernel) (by decide +kernel)))
  exact ⟨_, _, H.retN rfl (Nat.le_refl _) (Nat.le_refl _) d7_16 r81, rfl, ((((Keep.refl _ _).trans K1 (allS (Or.inl (List.mem_of_getElem? (i := 0) rfl)) all0)).wr w72 (Or.inl (List.mem_of_getElem? (i := 0) rfl))).wr w80 (Or.inl (List.mem_of_getElem? (i := 0) rfl))), F84, F86, F88, F90, F92, F94⟩
set_option maxRecDepth 65536 in
set_option maxHeartbeats 40000000 in
theorem hs_ct {l : Launch} {Z : State} {a0 : Array Value} (hw : ∀ d ∈ tables_1, d.before a0 Z = true) (s : Addr) (h0 : Heap) (n0 : Nat) (Z0 : n0 ≤ h0.size) (N0 : n0 ≤ s) (X0 : Exa Z h0 s "java/util/LinkedHashSet") (F1 : Fld Z h0 s "java/util/HashSet" "map" "Ljava/util/HashMap;" .null) :
    Ct l Z (⟨"java/util/HashSet", "<init>", "(IFZ)V"⟩ : MethodName) jdk_93_method_5_code 4 none ({ frames := 4, cells := 1, slots := 12, locals := 58 } : Room) n0 #[(.ref s), (.int (16 : Int32)), (.float (1061158912 : UInt32)), (.int (1 : Int32))] h0 (fun v h' => v = none ∧ Keep h0 h' [s] ∧ ∃ m : Addr, n0 ≤ m ∧ h0.size ≤ m ∧ Exa Z h' s "java/util/LinkedHashSet" ∧ Fld Z h' s "java/util/HashSet" "map" "Ljava/util/HashMap;" (.ref m) ∧ Exa Z h' m "java/util/LinkedHashMap" ∧ Fld Z h' m "java/util/HashMap" "size" "I" (.int 0) ∧ Fld Z h' m "java/util/HashMap" "modCount" "I" (.int 0) ∧ Fld Z h' m "java/util/HashMap" "table" "[Ljava/util/HashMap$Node;" (.null) ∧ Fld Z h' m "java/util/LinkedHashMap" "head" "Ljava/util/LinkedHashMap$Entry;" (.null) ∧ Fld Z h' m "java/util/LinkedHashMap" "tail" "Ljava/util/LinkedHashMap$Entry;" (.null)) := by
  refine Ct.of (plainFor_of_name pn_6) (fun m => ef_hs s (16 : Int32) (1061158912 : UInt32) (1 : Int32) m) ?_
  intro W V H r0
  have r95 : W h0 0 0 1 #[.val (.ref s), .val (.int (16 : Int32)), .val (.float (1061158912 : UInt32)), .val (.int (1 : Int32))] [(.ref s)] := (H.aloadN d4_0 r0 rfl rfl)
  obtain ⟨_, hn1, ⟨rfl, eh1⟩, r96⟩ := H.callI (w := 0) (argsL := []) (rest := []) rfl (hw _ (List.mem_of_getElem? (i := 23) rfl)) (hw _ (List.mem_of_getElem? (i := 24) rfl)) (hw _ (List.mem_of_getElem? (i := 27) rfl)) (hw _ (List.mem_of_getElem? (i := 28) rfl)) (by decide) pd_0 (by decide) (by decide) (by decide) (by decide) (as_ct hw s h0 n0) rfl rfl (Nat.le_of_eq rfl) rfl d4_1 r95
  replace r96 : W hn1 0 0 4 #[.val (.ref s), .val (.int (16 : Int32)), .val (.float (1061158912 : UInt32)), .val (.int (1 : Int32))] [] := r96
  rw [eh1] at r96
  have r97 : W h0 0 0 5 #[.val (.ref s), .val (.int (16 : Int32)), .val (.float (1061158912 : UInt32)), .val (.int (1 : Int32))] [(.ref s)] := (H.aloadN d4_4 r96 rfl rfl)
  obtain ⟨h98, m, ea99, E100, X101, D102, U103, r104⟩ := H.newO (hw _ (List.mem_of_getElem? (i := 36) rfl)) (hw _ (List.mem_of_getElem? (i := 37) rfl)) (hw _ (List.mem_of_getElem? (i := 38) rfl)) (by decide) (by decide) d4_5 r97
  have ne105 : s ≠ m := Nat.ne_of_lt (by rw [ea99]; exact X0.lt)
  have N106 : n0 ≤ m := by rw [ea99]; exact Z0
  have Y107 : h0.size ≤ m := by rw [ea99]; exact (Nat.le_refl _)
  have Z108 : n0 ≤ h98.size := Nat.le_trans Z0 E100.1
  have Y109 : h0.size ≤ h98.size := Nat.le_trans (Nat.le_refl _) E100.1
  have G110 : Fld Z h98 m "java/util/HashMap" "loadFactor" "F" (.float 0) := D102 (ty := .float) (Or.inr (hw _ (List.mem_of_getElem? (i := 62) rfl))) (by decide +kernel)
  have G111 : Fld Z h98 m "java/util/HashMap" "threshold" "I" (.int 0) := D102 (ty := .int) (Or.inl (hw _ (List.mem_of_getElem? (i := 72) rfl))) (by decide +kernel)
  have G112 : Fld Z h98 m "java/util/LinkedHashMap" "putMode" "I" (.int 0) := D102 (ty := .int) (Or.inl (hw _ (List.mem_of_getElem? (i := 74) rfl))) (by decide +kernel)
  have G113 : Fld Z h98 m "java/util/LinkedHashMap" "accessOrder" "Z" (.int 0) := D102 (ty := .boolean) (Or.inr (hw _ (List.mem_of_getElem? (i := 76) rfl))) (by decide +kernel)
  have G114 : Fld Z h98 m "java/util/HashMap" "size" "I" (.int 0) := D102 (ty := .int) (Or.inl (hw _ (List.mem_of_getElem? (i := 206) rfl))) (by decide +kernel)
  have G115 : Fld Z h98 m "java/util/LinkedHashMap" "head" "Ljava/util/LinkedHashMap$Entry;" (.null) := D102 (ty := (.object "java/util/LinkedHashMap$Entry")) (Or.inl (hw _ (List.mem_of_getElem? (i := 221) rfl))) (by decide +kernel)
  have G116 : Fld Z h98 m "java/util/HashMap" "modCount" "I" (.int 0) := D102 (ty := .int) (Or.inl (hw _ (List.mem_of_getElem? (i := 246) rfl))) (by decide +kernel)
  have G117 : Fld Z h98 m "java/util/HashMap" "table" "[Ljava/util/HashMap$Node;" (.null) := D102 (ty := (.array (.object "java/util/HashMap$Node"))) (Or.inl (hw _ (List.mem_of_getElem? (i := 248) rfl))) (by decide +kernel)
  have G118 : Fld Z h98 m "java/util/LinkedHashMap" "tail" "Ljava/util/LinkedHashMap$Entry;" (.null) := D102 (ty := (.object "java/util/LinkedHashMap$Entry")) (Or.inl (hw _ (List.mem_of_getElem? (i := 250) rfl))) (by decide +kernel)
  replace r104 : W h98 1 12 8 #[.val (.ref s), .val (.int (16 : Int32)), .val (.float (1061158912 : UInt32)), .val (.int (1 : Int32))] [(.ref m), (.ref s)] := r104
  have r119 : W h98 1 12 11 #[.val (.ref s), .val (.int (16 : Int32)), .val (.float (1061158912 : UInt32)), .val (.int (1 : Int32))] [(.float (1061158912 : UInt32)), (.int (16 : Int32)), (.ref m), (.ref m), (.ref s)] := (H.floadN d4_10 (H.iloadN d4_9 (H.dup d4_8 r104 rfl) rfl) rfl)
  obtain ⟨_, hc1, ⟨rfl, K1, XM, M_size, M_modCount, M_table, M_head, M_tail⟩, r120⟩ := H.callI (w := 2) (argsL := [(.int (16 : Int32)), (.float (1061158912 : UInt32))]) (rest := [(.ref m), (.ref s)]) rfl (hw _ (List.mem_of_getElem? (i := 39) rfl)) (hw _ (List.mem_of_getElem? (i := 40) rfl)) (hw _ (List.mem_of_getElem? (i := 38) rfl)) (hw _ (List.mem_of_getElem? (i := 42) rfl)) (by decide) pd_3 (by decide) (by decide) (by decide) (by decide) (lm_ct hw m h98 n0 Z108 N106 X101 G110 G111 G112 G113 G114 G116 G117 G115 G118) rfl rfl (Nat.le_of_eq rfl) rfl d4_11 r119
  have Z121 : n0 ≤ hc1.size := Nat.le_trans Z108 K1.1
  have Y122 : h0.size ≤ hc1.size := Nat.le_trans Y109 K1.1
  replace r120 : W hc1 1 12 14 #[.val (.ref s), .val (.int (16 : Int32)), .val (.float (1061158912 : UInt32)), .val (.int (1 : Int32))] [(.ref m), (.ref s)] := r120
  have F123 := Fld.ext E100 F1
  have F124 := F123.keep K1 (ninS ne105 nin0)
  have F125 := Exa.ext E100 X0
  have F126 := F125.keep K1
  obtain ⟨h127, w128, r129⟩ := H.putF (ty := (.object "java/util/HashMap")) (host := "") (Or.inl (hw _ (List.mem_of_getElem? (i := 77) rfl))) Via.refl F124 F126 (Or.inl (hw _ (List.mem_of_getElem? (i := 78) rfl))) (hw _ (List.mem_of_getElem? (i := 11) rfl)) (by decide +kernel) rfl rfl N0 d4_14 r120
  have Z130 : n0 ≤ h127.size := by rw [w128.size]; exact Z121
  have Y131 : h0.size ≤ h127.size := by rw [w128.size]; exact Y122
  have G132 : Fld Z h127 s "java/util/HashSet" "map" "Ljava/util/HashMap;" (.ref m) := F124.same w128
  replace r129 : W h127 1 12 17 #[.val (.ref s), .val (.int (16 : Int32)), .val (.float (1061158912 : UInt32)), .val (.int (1 : Int32))] [] := r129
  have F133 := Exa.wr w128 F126
  have F134 := Exa.wr w128 XM
  have F135 := Fld.other w128 M_size (Or.inl (Ne.symm ne105))
  have F136 := Fld.other w128 M_modCount (Or.inl (Ne.symm ne105))
  have F137 := Fld.other w128 M_table (Or.inl (Ne.symm ne105))
  have F138 := Fld.other w128 M_head (Or.inl (Ne.symm ne105))
  have F139 := Fld.other w128 M_tail (Or.inl (Ne.symm ne105))
  exact ⟨_, _, H.retN rfl (by decide) (by decide) d4_17 r129, rfl, ((((Keep.refl _ _).ext E100).trans K1 (allS (Or.inr Y107) all0)).wr w128 (Or.inl (List.mem_of_getElem? (i := 0) rfl))), m, N106, Y107, F133, G132, F134, F135, F136, F137, F138, F139⟩
set_option maxRecDepth 65536 in
set_option maxHeartbeats 40000000 in
theorem ls_ct {l : Launch} {Z : State} {a0 : Array Value} (hw : ∀ d ∈ tables_1, d.before a0 Z = true) (s : Addr) (h0 : Heap) (n0 : Nat) (Z0 : n0 ≤ h0.size) (N0 : n0 ≤ s) (X0 : Exa Z h0 s "java/util/LinkedHashSet") (F1 : Fld Z h0 s "java/util/HashSet" "map" "Ljava/util/HashMap;" .null) :
    Ct l Z (⟨"java/util/LinkedHashSet", "<init>", "()V"⟩ : MethodName) jdk_2620_method_3_code 1 none ({ frames := 5, cells := 1, slots := 12, locals := 73 } : Room) n0 #[(.ref s)] h0 (fun v h' => v = none ∧ Keep h0 h' [s] ∧ ∃ m : Addr, n0 ≤ m ∧ h0.size ≤ m ∧ Exa Z h' s "java/util/LinkedHashSet" ∧ Fld Z h' s "java/util/HashSet" "map" "Ljava/util/HashMap;" (.ref m) ∧ Exa Z h' m "java/util/LinkedHashMap" ∧ Fld Z h' m "java/util/HashMap" "size" "I" (.int 0) ∧ Fld Z h' m "java/util/HashMap" "modCount" "I" (.int 0) ∧ Fld Z h' m "java/util/HashMap" "table" "[Ljava/util/HashMap$Node;" (.null) ∧ Fld Z h' m "java/util/LinkedHashMap" "head" "Ljava/util/LinkedHashMap$Entry;" (.null) ∧ Fld Z h' m "java/util/LinkedHashMap" "tail" "Ljava/util/LinkedHashMap$Entry;" (.null)) := by
  refine Ct.of (plainFor_of_name pn_7) (fun m => ef_ls s m) ?_
  intro W V H r0
  have r140 : W h0 0 0 6 #[.val (.ref s)] [(.int (1 : Int32)), (.float (1061158912 : UInt32)), (.int (16 : Int32)), (.ref s)] := (H.iconst (z := (1 : Int32)) d3_5 (H.ldcFloat (hw _ (List.mem_of_getElem? (i := 16) rfl)) d3_3 (H.bipush (z := (16 : Int32)) d3_1 (H.aloadN d3_0 r0 rfl rfl) rfl)) rfl)
  obtain ⟨_, hc1, ⟨rfl, K1, q1⟩, r141⟩ := H.callI (w := 0) (argsL := [(.int (16 : Int32)), (.float (1061158912 : UInt32)), (.int (1 : Int32))]) (rest := []) rfl (hw _ (List.mem_of_getElem? (i := 17) rfl)) (hw _ (List.mem_of_getElem? (i := 18) rfl)) (hw _ (List.mem_of_getElem? (i := 21) rfl)) (hw _ (List.mem_of_getElem? (i := 22) rfl)) (by decide) pd_4 (by decide) (by decide) (by decide) (by decide) (hs_ct hw s h0 n0 Z0 N0 X0 F1) rfl rfl (Nat.le_of_eq rfl) rfl d3_6 r140
  have Z142 : n0 ≤ hc1.size := Nat.le_trans Z0 K1.1
  replace r141 : W hc1 1 12 9 #[.val (.ref s)] [] := r141
  exact ⟨_, _, H.retN rfl (by decide) (by decide) d3_9 r141, rfl, K1, q1⟩
set_option maxRecDepth 65536 in
set_option maxHeartbeats 40000000 in
theorem job_ct {l : Launch} {Z : State} {a0 : Array Value} (hw : ∀ d ∈ tables_1, d.before a0 Z = true) (a ia : Addr) (pl : Value) (hpl : pl.isRef = true) (ac nu : Int64) (h0 : Heap) (n0 : Nat) (Z0 : n0 ≤ h0.size) (N0 : n0 ≤ a) (X0 : Exa Z h0 a "com/example/lively_broker/livelybroker/broker/Job") (G_clients : Fld Z h0 a "com/example/lively_broker/livelybroker/broker/Job" "clients" "Ljava/util/Set;" .null) (G_id : Fld Z h0 a "com/example/lively_broker/livelybroker/broker/Job" "id" "[B" .null) (G_payload : Fld Z h0 a "com/example/lively_broker/livelybroker/broker/Job" "payload" "[B" .null) (G_acceptedAt : Fld Z h0 a "com/example/lively_broker/livelybroker/broker/Job" "acceptedAt" "J" (.long 0)) (G_number : Fld Z h0 a "com/example/lively_broker/livelybroker/broker/Job" "number" "J" (.long 0)) (G_answer : Fld Z h0 a "com/example/lively_broker/livelybroker/broker/Job" "answer" "Lcom/example/lively_broker/livelybroker/wire/Message;" .null) (G_answeredAt : Fld Z h0 a "com/example/lively_broker/livelybroker/broker/Job" "answeredAt" "J" (.long 0)) (G_takenBack : Fld Z h0 a "com/example/lively_broker/livelybroker/broker/Job" "takenBack" "Z" (.int 0)) (G_placed : Fld Z h0 a "com/example/lively_broker/livelybroker/broker/Job" "placed" "Z" (.int 0)) (G_lostWorkers : Fld Z h0 a "com/example/lively_broker/livelybroker/broker/Job" "lostWorkers" "I" (.int 0)) :
    Ct l Z (⟨"com/example/lively_broker/livelybroker/broker/Job", "<init>", "([B[BJJ)V"⟩ : MethodName) prog_1_method_1_code 7 none ({ frames := 6, cells := 2, slots := 13, locals := 87 } : Room) n0 #[(.ref a), (.ref ia), pl, (.long ac), (.long nu)] h0 (fun v h' => v = none ∧ Keep h0 h' [a] ∧ ∃ s m : Addr, n0 ≤ s ∧ n0 ≤ m ∧ s ≠ a ∧ m ≠ a ∧ own_job Z h' a .null s ∧ own_set Z h' s m) := by
  refine Ct.of (plainFor_of_name pn_8) (fun mI => ef_job a ia pl hpl ac nu mI) ?_
  intro W V H r0
  have r143 : W h0 0 0 1 #[.val (.ref a), .val (.ref ia), .val pl, .val (.long ac), .second, .val (.long nu), .second] [(.ref a)] := (H.aloadN d1_0 r0 rfl rfl)
  have r144 : W h0 0 0 4 #[.val (.ref a), .val (.ref ia), .val pl, .val (.long ac), .second, .val (.long nu), .second] [] := H.initO (w := 0) (hw _ (List.mem_of_getElem? (i := 7) rfl)) (hw _ (List.mem_of_getElem? (i := 8) rfl)) (hw _ (List.mem_of_getElem? (i := 9) rfl)) rfl (by decide) (Nat.le_of_eq rfl) (by decide) d1_1 r143
  have r145 : W h0 0 0 5 #[.val (.ref a), .val (.ref ia), .val pl, .val (.long ac), .second, .val (.long nu), .second] [(.ref a)] := (H.aloadN d1_4 r144 rfl rfl)
  obtain ⟨h146, s, ea147, E148, X149, D150, U151, r152⟩ := H.newO (hw _ (List.mem_of_getElem? (i := 10) rfl)) (hw _ (List.mem_of_getElem? (i := 11) rfl)) (hw _ (List.mem_of_getElem? (i := 12) rfl)) (by decide) (by decide) d1_5 r145
  have ne153 : a ≠ s := Nat.ne_of_lt (by rw [ea147]; exact X0.lt)
  have N154 : n0 ≤ s := by rw [ea147]; exact Z0
  have Y155 : h0.size ≤ s := by rw [ea147]; exact (Nat.le_refl _)
  have Z156 : n0 ≤ h146.size := Nat.le_trans Z0 E148.1
  have Y157 : h0.size ≤ h146.size := Nat.le_trans (Nat.le_refl _) E148.1
  have G158 : Fld Z h146 s "java/util/HashSet" "map" "Ljava/util/HashMap;" (.null) := D150 (ty := (.object "java/util/HashMap")) (Or.inl (hw _ (List.mem_of_getElem? (i := 78) rfl))) (by decide +kernel)
  replace r152 : W h146 1 1 8 #[.val (.ref a), .val (.ref ia), .val pl, .val (.long ac), .second, .val (.long nu), .second] [(.ref s), (.ref a)] := r152
  have r159 : W h146 1 1 9 #[.val (.ref a), .val (.ref ia), .val pl, .val (.long ac), .second, .val (.long nu), .second] [(.ref s), (.ref s), (.ref a)] := (H.dup d1_8 r152 rfl)
  obtain ⟨_, hc1, ⟨rfl, K1, m, NM, YM, XS, FM, XM, M_size, M_modCount, M_table, M_head, M_tail⟩, r160⟩ := H.callI (w := 2) (argsL := []) (rest := [(.ref s), (.ref a)]) rfl (hw _ (List.mem_of_getElem? (i := 13) rfl)) (hw _ (List.mem_of_getElem? (i := 14) rfl)) (hw _ (List.mem_of_getElem? (i := 12) rfl)) (hw _ (List.mem_of_getElem? (i := 15) rfl)) (by decide) pd_0 (by decide) (by decide) (by decide) (by decide) (ls_ct hw s h146 n0 Z156 N154 X149 G158) rfl rfl (Nat.le_of_eq rfl) rfl d1_9 r159
  have Z161 : n0 ≤ hc1.size := Nat.le_trans Z156 K1.1
  have Y162 : h0.size ≤ hc1.size := Nat.le_trans Y157 K1.1
  replace r160 : W hc1 2 13 12 #[.val (.ref a), .val (.ref ia), .val pl, .val (.long ac), .second, .val (.long nu), .second] [(.ref s), (.ref a)] := r160
  have S1 : own_set Z hc1 s m := ⟨XS, FM, XM, M_size, M_modCount, M_table, M_head, M_tail⟩
  have F163 := Fld.ext E148 G_clients
  have F164 := F163.keep K1 (ninS ne153 nin0)
  have F165 := Exa.ext E148 X0
  have F166 := F165.keep K1
  obtain ⟨h167, w168, r169⟩ := H.putF (ty := (.object "java/util/Set")) (host := "") (Or.inl (hw _ (List.mem_of_getElem? (i := 79) rfl))) Via.refl F164 F166 (Or.inr ⟨(hw _ (List.mem_of_getElem? (i := 80) rfl)), rfl, rfl⟩) (hw _ (List.mem_of_getElem? (i := 2) rfl)) (by decide +kernel) rfl rfl N0 d1_12 r160
  have Z170 : n0 ≤ h167.size := by rw [w168.size]; exact Z161
  have Y171 : h0.size ≤ h167.size := by rw [w168.size]; exact Y162
  have G172 : Fld Z h167 a "com/example/lively_broker/livelybroker/broker/Job" "clients" "Ljava/util/Set;" (.ref s) := F164.same w168
  replace r169 : W h167 2 13 15 #[.val (.ref a), .val (.ref ia), .val pl, .val (.long ac), .second, .val (.long nu), .second] [] := r169
  have r173 : W h167 2 13 17 #[.val (.ref a), .val (.ref ia), .val pl, .val (.long ac), .second, .val (.long nu), .second] [(.ref ia), (.ref a)] := (H.aloadN d1_16 (H.aloadN d1_15 r169 rfl rfl) rfl rfl)
  have F174 := Fld.ext E148 G_id
  have F175 := F174.keep K1 (ninS ne153 nin0)
  have F176 := Fld.other w168 F175 (Or.inr (slot_ne (a0 := a0) (C := "com/example/lively_broker/livelybroker/broker/Job") (Or.inr (hw _ (List.mem_of_getElem? (i := 82) rfl))) (Or.inr (hw _ (List.mem_of_getElem? (i := 80) rfl))) (by decide) (t := (.array .byte)) (t' := (.object "java/util/Set")) (by decide +kernel) (by decide +kernel)))
  have F177 := Exa.wr w168 F166
  obtain ⟨h178, w179, r180⟩ := H.putF (ty := (.array .byte)) (host := "") (Or.inl (hw _ (List.mem_of_getElem? (i := 81) rfl))) Via.refl F176 F177 (Or.inr ⟨(hw _ (List.mem_of_getElem? (i := 82) rfl)), rfl, rfl⟩) (hw _ (List.mem_of_getElem? (i := 2) rfl)) (by decide +kernel) rfl rfl N0 d1_17 r173
  have Z181 : n0 ≤ h178.size := by rw [w179.size]; exact Z170
  have Y182 : h0.size ≤ h178.size := by rw [w179.size]; exact Y171
  have G183 : Fld Z h178 a "com/example/lively_broker/livelybroker/broker/Job" "id" "[B" (.ref ia) := F176.same w179
  replace r180 : W h178 2 13 20 #[.val (.ref a), .val (.ref ia), .val pl, .val (.long ac), .second, .val (.long nu), .second] [] := r180
  have r184 : W h178 2 13 22 #[.val (.ref a), .val (.ref ia), .val pl, .val (.long ac), .second, .val (.long nu), .second] [pl, (.ref a)] := (H.aloadN d1_21 (H.aloadN d1_20 r180 rfl rfl) rfl hpl)
  have F185 := Fld.ext E148 G_payload
  have F186 := F185.keep K1 (ninS ne153 nin0)
  have F187 := Fld.other w168 F186 (Or.inr (slot_ne (a0 := a0) (C := "com/example/lively_broker/livelybroker/broker/Job") (Or.inl (hw _ (List.mem_of_getElem? (i := 84) rfl))) (Or.inr (hw _ (List.mem_of_getElem? (i := 80) rfl))) (by decide) (t := (.array .byte)) (t' := (.object "java/util/Set")) (by decide +kernel) (by decide +kernel)))
  have F188 := Fld.other w179 F187 (Or.inr (slot_ne (a0 := a0) (C := "com/example/lively_broker/livelybroker/broker/Job") (Or.inl (hw _ (List.mem_of_getElem? (i := 84) rfl))) (Or.inr (hw _ (List.mem_of_getElem? (i := 82) rfl))) (by decide) (t := (.array .byte)) (t' := (.array .byte)) (by decide +kernel) (by decide +kernel)))
  have F189 := Exa.wr w179 F177
  obtain ⟨h190, w191, r192⟩ := H.putF (ty := (.array .byte)) (host := "") (Or.inl (hw _ (List.mem_of_getElem? (i := 83) rfl))) Via.refl F188 F189 (Or.inl (hw _ (List.mem_of_getElem? (i := 84) rfl))) (hw _ (List.mem_of_getElem? (i := 2) rfl)) (by decide +kernel) (own_narR pl) (own_fitR hpl) N0 d1_22 r184
  have Z193 : n0 ≤ h190.size := by rw [w191.size]; exact Z181
  have Y194 : h0.size ≤ h190.size := by rw [w191.size]; exact Y182
  have G195 : Fld Z h190 a "com/example/lively_broker/livelybroker/broker/Job" "payload" "[B" pl := F188.same w191
  replace r192 : W h190 2 13 25 #[.val (.ref a), .val (.ref ia), .val pl, .val (.long ac), .second, .val (.long nu), .second] [] := r192
  have r196 : W h190 2 13 27 #[.val (.ref a), .val (.ref ia), .val pl, .val (.long ac), .second, .val (.long nu), .second] [(.long ac), (.ref a)] := (H.lloadN d1_26 (H.aloadN d1_25 r192 rfl rfl) rfl)
  have F197 := Fld.ext E148 G_acceptedAt
  have F198 := F197.keep K1 (ninS ne153 nin0)
  have F199 := Fld.other w168 F198 (Or.inr (slot_ne (a0 := a0) (C := "com/example/lively_broker/livelybroker/broker/Job") (Or.inr (hw _ (List.mem_of_getElem? (i := 86) rfl))) (Or.inr (hw _ (List.mem_of_getElem? (i := 80) rfl))) (by decide) (t := .long) (t' := (.object "java/util/Set")) (by decide +kernel) (by decide +kernel)))
  have F200 := Fld.other w179 F199 (Or.inr (slot_ne (a0 := a0) (C := "com/example/lively_broker/livelybroker/broker/Job") (Or.inr (hw _ (List.mem_of_getElem? (i := 86) rfl))) (Or.inr (hw _ (List.mem_of_getElem? (i := 82) rfl))) (by decide) (t := .long) (t' := (.array .byte)) (by decide +kernel) (by decide +kernel)))
  have F201 := Fld.other w191 F200 (Or.inr (slot_ne (a0 := a0) (C := "com/example/lively_broker/livelybroker/broker/Job") (Or.inr (hw _ (List.mem_of_getElem? (i := 86) rfl))) (Or.inl (hw _ (List.mem_of_getElem? (i := 84) rfl))) (by decide) (t := .long) (t' := (.array .byte)) (by decide +kernel) (by decide +kernel)))
  have F202 := Exa.wr w191 F189
  obtain ⟨h203, w204, r205⟩ := H.putF (ty := .long) (host := "") (Or.inl (hw _ (List.mem_of_getElem? (i := 85) rfl))) Via.refl F201 F202 (Or.inr ⟨(hw _ (List.mem_of_getElem? (i := 86) rfl)), rfl, rfl⟩) (hw _ (List.mem_of_getElem? (i := 2) rfl)) (by decide +kernel) rfl rfl N0 d1_27 r196
  have Z206 : n0 ≤ h203.size := by rw [w204.size]; exact Z193
  have Y207 : h0.size ≤ h203.size := by rw [w204.size]; exact Y194
  have G208 : Fld Z h203 a "com/example/lively_broker/livelybroker/broker/Job" "acceptedAt" "J" (.long ac) := F201.same w204
  replace r205 : W h203 2 13 30 #[.val (.ref a), .val (.ref ia), .val pl, .val (.long ac), .second, .val (.long nu), .second] [] := r205
  have r209 : W h203 2 13 33 #[.val (.ref a), .val (.ref ia), .val pl, .val (.long ac), .second, .val (.long nu), .second] [(.long nu), (.ref a)] := (H.lload d1_31 (H.aloadN d1_30 r205 rfl rfl) rfl)
  have F210 := Fld.ext E148 G_number
  have F211 := F210.keep K1 (ninS ne153 nin0)
  have F212 := Fld.other w168 F211 (Or.inr (slot_ne (a0 := a0) (C := "com/example/lively_broker/livelybroker/broker/Job") (Or.inr (hw _ (List.mem_of_getElem? (i := 88) rfl))) (Or.inr (hw _ (List.mem_of_getElem? (i := 80) rfl))) (by decide) (t := .long) (t' := (.object "java/util/Set")) (by decide +kernel) (by decide +kernel)))
  have F213 := Fld.other w179 F212 (Or.inr (slot_ne (a0 := a0) (C := "com/example/lively_broker/livelybroker/broker/Job") (Or.inr (hw _ (List.mem_of_getElem? (i := 88) rfl))) (Or.inr (hw _ (List.mem_of_getElem? (i := 82) rfl))) (by decide) (t := .long) (t' := (.array .byte)) (by decide +kernel) (by decide +kernel)))
  have F214 := Fld.other w191 F213 (Or.inr (slot_ne (a0 := a0) (C := "com/example/lively_broker/livelybroker/broker/Job") (Or.inr (hw _ (List.mem_of_getElem? (i := 88) rfl))) (Or.inl (hw _ (List.mem_of_getElem? (i := 84) rfl))) (by decide) (t := .long) (t' := (.array .byte)) (by decide +kernel) (by decide +kernel)))
  have F215 := Fld.other w204 F214 (Or.inr (slot_ne (a0 := a0) (C := "com/example/lively_broker/livelybroker/broker/Job") (Or.inr (hw _ (List.mem_of_getElem? (i := 88) rfl))) (Or.inr (hw _ (List.mem_of_getElem? (i := 86) rfl))) (by decide) (t := .long) (t' := .long) (by decide +kernel) (by decide +kernel)))
  have F216 := Exa.wr w204 F202
  obtain ⟨h217, w218, r219⟩ := H.putF (ty := .long) (host := "") (Or.inl (hw _ (List.mem_of_getElem? (i := 87) rfl))) Via.refl F215 F216 (Or.inr ⟨(hw _ (List.mem_of_getElem? (i := 88) rfl)), rfl, rfl⟩) (hw _ (List.mem_of_getElem? (i := 2) rfl)) (by decide +kernel) rfl rfl N0 d1_33 r209
  have Z220 : n0 ≤ h217.size := by rw [w218.size]; exact Z206
  have Y221 : h0.size ≤ h217.size := by rw [w218.size]; exact Y207
  have G222 : Fld Z h217 a "com/example/lively_broker/livelybroker/broker/Job" "number" "J" (.long nu) := F215.same w218
  replace r219 : W h217 2 13 36 #[.val (.ref a), .val (.ref ia), .val pl, .val (.long ac), .second, .val (.long nu), .second] [] := r219
  have nas : s ≠ a := (Ne.symm ne153)
  have nam : m ≠ a := fun q => absurd (Nat.lt_of_lt_of_le X0.lt (Nat.le_trans Y157 YM)) (by rw [q]; exact Nat.lt_irrefl _)
  have S2 := S1.keep (ws := [a]) ((((((Keep.refl _ _).wr w168 (Or.inl (List.mem_of_getElem? (i := 0) rfl))).wr w179 (Or.inl (List.mem_of_getElem? (i := 0) rfl))).wr w191 (Or.inl (List.mem_of_getElem? (i := 0) rfl))).wr w204 (Or.inl (List.mem_of_getElem? (i := 0) rfl))).wr w218 (Or.inl (List.mem_of_getElem? (i := 0) rfl))) (ninS nas nin0) (ninS nam nin0)
  have F223 := Exa.wr w218 F216
  have F224 := Fld.ext E148 G_answer
  have F225 := F224.keep K1 (ninS ne153 nin0)
  have F226 := Fld.other w168 F225 (Or.inr (slot_ne (a0 := a0) (C := "com/example/lively_broker/livelybroker/broker/Job") (Or.inl (hw _ (List.mem_of_getElem? (i := 95) rfl))) (Or.inr (hw _ (List.mem_of_getElem? (i := 80) rfl))) (by decide) (t := (.object "com/example/lively_broker/livelybroker/wire/Message")) (t' := (.object "java/util/Set")) (by decide +kernel) (by decide +kernel)))
  have F227 := Fld.other w179 F226 (Or.inr (slot_ne (a0 := a0) (C := "com/example/lively_broker/livelybroker/broker/Job") (Or.inl (hw _ (List.mem_of_getElem? (i := 95) rfl))) (Or.inr (hw _ (List.mem_of_getElem? (i := 82) rfl))) (by decide) (t := (.object "com/example/lively_broker/livelybroker/wire/Message")) (t' := (.array .byte)) (by decide +kernel) (by decide +kernel)))
  have F228 := Fld.other w191 F227 (Or.inr (slot_ne (a0 := a0) (C := "com/example/lively_broker/livelybroker/broker/Job") (Or.inl (hw _ (List.mem_of_getElem? (i := 95) rfl))) (Or.inl (hw _ (List.mem_of_getElem? (i := 84) rfl))) (by decide) (t := (.object "com/example/lively_broker/livelybroker/wire/Message")) (t' := (.array .byte)) (by decide +kernel) (by decide +kernel)))
  have F229 := Fld.other w204 F228 (Or.inr (slot_ne (a0 := a0) (C := "com/example/lively_broker/livelybroker/broker/Job") (Or.inl (hw _ (List.mem_of_getElem? (i := 95) rfl))) (Or.inr (hw _ (List.mem_of_getElem? (i := 86) rfl))) (by decide) (t := (.object "com/example/lively_broker/livelybroker/wire/Message")) (t' := .long) (by decide +kernel) (by decide +kernel)))
  have F230 := Fld.other w218 F229 (Or.inr (slot_ne (a0 := a0) (C := "com/example/lively_broker/livelybroker/broker/Job") (Or.inl (hw _ (List.mem_of_getElem? (i := 95) rfl))) (Or.inr (hw _ (List.mem_of_getElem? (i := 88) rfl))) (by decide) (t := (.object "com/example/lively_broker/livelybroker/wire/Message")) (t' := .long) (by decide +kernel) (by decide +kernel)))
  have F231 := Fld.other w179 G172 (Or.inr (slot_ne (a0 := a0) (C := "com/example/lively_broker/livelybroker/broker/Job") (Or.inr (hw _ (List.mem_of_getElem? (i := 80) rfl))) (Or.inr (hw _ (List.mem_of_getElem? (i := 82) rfl))) (by decide) (t := (.object "java/util/Set")) (t' := (.array .byte)) (by decide +kernel) (by decide +kernel)))
  have F232 := Fld.other w191 F231 (Or.inr (slot_ne (a0 := a0) (C := "com/example/lively_broker/livelybroker/broker/Job") (Or.inr (hw _ (List.mem_of_getElem? (i := 80) rfl))) (Or.inl (hw _ (List.mem_of_getElem? (i := 84) rfl))) (by decide) (t := (.object "java/util/Set")) (t' := (.array .byte)) (by decide +kernel) (by decide +kernel)))
  have F233 := Fld.other w204 F232 (Or.inr (slot_ne (a0 := a0) (C := "com/example/lively_broker/livelybroker/broker/Job") (Or.inr (hw _ (List.mem_of_getElem? (i := 80) rfl))) (Or.inr (hw _ (List.mem_of_getElem? (i := 86) rfl))) (by decide) (t := (.object "java/util/Set")) (t' := .long) (by decide +kernel) (by decide +kernel)))
  have F234 := Fld.other w218 F233 (Or.inr (slot_ne (a0 := a0) (C := "com/example/lively_broker/livelybroker/broker/Job") (Or.inr (hw _ (List.mem_of_getElem? (i := 80) rfl))) (Or.inr (hw _ (List.mem_of_getElem? (i := 88) rfl))) (by decide) (t := (.object "java/util/Set")) (t' := .long) (by decide +kernel) (by decide +kernel)))
  have F235 := Fld.ext E148 G_answeredAt
  have F236 := F235.keep K1 (ninS ne153 nin0)
  have F237 := Fld.other w168 F236 (Or.inr (slot_ne (a0 := a0) (C := "com/example/lively_broker/livelybroker/broker/Job") (Or.inl (hw _ (List.mem_of_getElem? (i := 174) rfl))) (Or.inr (hw _ (List.mem_of_getElem? (i := 80) rfl))) (by decide) (t := .long) (t' := (.object "java/util/Set")) (by decide +kernel) (by decide +kernel)))
  have F238 := Fld.other w179 F237 (Or.inr (slot_ne (a0 := a0) (C := "com/example/lively_broker/livelybroker/broker/Job") (Or.inl (hw _ (List.mem_of_getElem? (i := 174) rfl))) (Or.inr (hw _ (List.mem_of_getElem? (i := 82) rfl))) (by decide) (t := .long) (t' := (.array .byte)) (by decide +kernel) (by decide +kernel)))
  have F239 := Fld.other w191 F238 (Or.inr (slot_ne (a0 := a0) (C := "com/example/lively_broker/livelybroker/broker/Job") (Or.inl (hw _ (List.mem_of_getElem? (i := 174) rfl))) (Or.inl (hw _ (List.mem_of_getElem? (i := 84) rfl))) (by decide) (t := .long) (t' := (.array .byte)) (by decide +kernel) (by decide +kernel)))
  have F240 := Fld.other w204 F239 (Or.inr (slot_ne (a0 := a0) (C := "com/example/lively_broker/livelybroker/broker/Job") (Or.inl (hw _ (List.mem_of_getElem? (i := 174) rfl))) (Or.inr (hw _ (List.mem_of_getElem? (i := 86) rfl))) (by decide) (t := .long) (t' := .long) (by decide +kernel) (by decide +kernel)))
  have F241 := Fld.other w218 F240 (Or.inr (slot_ne (a0 := a0) (C := "com/example/lively_broker/livelybroker/broker/Job") (Or.inl (hw _ (List.mem_of_getElem? (i := 174) rfl))) (Or.inr (hw _ (List.mem_of_getElem? (i := 88) rfl))) (by decide) (t := .long) (t' := .long) (by decide +kernel) (by decide +kernel)))
  have F242 := Fld.other w204 G195 (Or.inr (slot_ne (a0 := a0) (C := "com/example/lively_broker/livelybroker/broker/Job") (Or.inl (hw _ (List.mem_of_getElem? (i := 84) rfl))) (Or.inr (hw _ (List.mem_of_getElem? (i := 86) rfl))) (by decide) (t := (.array .byte)) (t' := .long) (by decide +kernel) (by decide +kernel)))
  have F243 := Fld.other w218 F242 (Or.inr (slot_ne (a0 := a0) (C := "com/example/lively_broker/livelybroker/broker/Job") (Or.inl (hw _ (List.mem_of_getElem? (i := 84) rfl))) (Or.inr (hw _ (List.mem_of_getElem? (i := 88) rfl))) (by decide) (t := (.array .byte)) (t' := .long) (by decide +kernel) (by decide +kernel)))
  have F244 := Fld.ext E148 G_takenBack
  have F245 := F244.keep K1 (ninS ne153 nin0)
  have F246 := Fld.other w168 F245 (Or.inr (slot_ne (a0 := a0) (C := "com/example/lively_broker/livelybroker/broker/Job") (Or.inl (hw _ (List.mem_of_getElem? (i := 109) rfl))) (Or.inr (hw _ (List.mem_of_getElem? (i := 80) rfl))) (by decide) (t := .boolean) (t' := (.object "java/util/Set")) (by decide +kernel) (by decide +kernel)))
  have F247 := Fld.other w179 F246 (Or.inr (slot_ne (a0 := a0) (C := "com/example/lively_broker/livelybroker/broker/Job") (Or.inl (hw _ (List.mem_of_getElem? (i := 109) rfl))) (Or.inr (hw _ (List.mem_of_getElem? (i := 82) rfl))) (by decide) (t := .boolean) (t' := (.array .byte)) (by decide +kernel) (by decide +kernel)))
  have F248 := Fld.other w191 F247 (Or.inr (slot_ne (a0 := a0) (C := "com/example/lively_broker/livelybroker/broker/Job") (Or.inl (hw _ (List.mem_of_getElem? (i := 109) rfl))) (Or.inl (hw _ (List.mem_of_getElem? (i := 84) rfl))) (by decide) (t := .boolean) (t' := (.array .byte)) (by decide +kernel) (by decide +kernel)))
  have F249 := Fld.other w204 F248 (Or.inr (slot_ne (a0 := a0) (C := "com/example/lively_broker/livelybroker/broker/Job") (Or.inl (hw _ (List.mem_of_getElem? (i := 109) rfl))) (Or.inr (hw _ (List.mem_of_getElem? (i := 86) rfl))) (by decide) (t := .boolean) (t' := .long) (by decide +kernel) (by decide +kernel)))
  have F250 := Fld.other w218 F249 (Or.inr (slot_ne (a0 := a0) (C := "com/example/lively_broker/livelybroker/broker/Job") (Or.inl (hw _ (List.mem_of_getElem? (i := 109) rfl))) (Or.inr (hw _ (List.mem_of_getElem? (i := 88) rfl))) (by decide) (t := .boolean) (t' := .long) (by decide +kernel) (by decide +kernel)))
  have F251 := Fld.ext E148 G_placed
  have F252 := F251.keep K1 (ninS ne153 nin0)
  have F253 := Fld.other w168 F252 (Or.inr (slot_ne (a0 := a0) (C := "com/example/lively_broker/livelybroker/broker/Job") (Or.inl (hw _ (List.mem_of_getElem? (i := 116) rfl))) (Or.inr (hw _ (List.mem_of_getElem? (i := 80) rfl))) (by decide) (t := .boolean) (t' := (.object "java/util/Set")) (by decide +kernel) (by decide +kernel)))
  have F254 := Fld.other w179 F253 (Or.inr (slot_ne (a0 := a0) (C := "com/example/lively_broker/livelybroker/broker/Job") (Or.inl (hw _ (List.mem_of_getElem? (i := 116) rfl))) (Or.inr (hw _ (List.mem_of_getElem? (i := 82) rfl))) (by decide) (t := .boolean) (t' := (.array .byte)) (by decide +kernel) (by decide +kernel)))
  have F255 := Fld.other w191 F254 (Or.inr (slot_ne (a0 := a0) (C := "com/example/lively_broker/livelybroker/broker/Job") (Or.inl (hw _ (List.mem_of_getElem? (i := 116) rfl))) (Or.inl (hw _ (List.mem_of_getElem? (i := 84) rfl))) (by decide) (t := .boolean) (t' := (.array .byte)) (by decide +kernel) (by decide +kernel)))
  have F256 := Fld.other w204 F255 (Or.inr (slot_ne (a0 := a0) (C := "com/example/lively_broker/livelybroker/broker/Job") (Or.inl (hw _ (List.mem_of_getElem? (i := 116) rfl))) (Or.inr (hw _ (List.mem_of_getElem? (i := 86) rfl))) (by decide) (t := .boolean) (t' := .long) (by decide +kernel) (by decide +kernel)))
  have F257 := Fld.other w218 F256 (Or.inr (slot_ne (a0 := a0) (C := "com/example/lively_broker/livelybroker/broker/Job") (Or.inl (hw _ (List.mem_of_getElem? (i := 116) rfl))) (Or.inr (hw _ (List.mem_of_getElem? (i := 88) rfl))) (by decide) (t := .boolean) (t' := .long) (by decide +kernel) (by decide +kernel)))
  have F258 := Fld.ext E148 G_lostWorkers
  have F259 := F258.keep K1 (ninS ne153 nin0)
  have F260 := Fld.other w168 F259 (Or.inr (slot_ne (a0 := a0) (C := "com/example/lively_broker/livelybroker/broker/Job") (Or.inl (hw _ (List.mem_of_getElem? (i := 102) rfl))) (Or.inr (hw _ (List.mem_of_getElem? (i := 80) rfl))) (by decide) (t := .int) (t' := (.object "java/util/Set")) (by decide +kernel) (by decide +kernel)))
  have F261 := Fld.other w179 F260 (Or.inr (slot_ne (a0 := a0) (C := "com/example/lively_broker/livelybroker/broker/Job") (Or.inl (hw _ (List.mem_of_getElem? (i := 102) rfl))) (Or.inr (hw _ (List.mem_of_getElem? (i := 82) rfl))) (by decide) (t := .int) (t' := (.array .byte)) (by decide +kernel) (by decide +kernel)))
  have F262 := Fld.other w191 F261 (Or.inr (slot_ne (a0 := a0) (C := "com/example/lively_broker/livelybroker/broker/Job") (Or.inl (hw _ (List.mem_of_getElem? (i := 102) rfl))) (Or.inl (hw _ (List.mem_of_getElem? (i := 84) rfl))) (by decide) (t := .int) (t' := (.array .byte)) (by decide +kernel) (by decide +kernel)))
  have F263 := Fld.other w204 F262 (Or.inr (slot_ne (a0 := a0) (C := "com/example/lively_broker/livelybroker/broker/Job") (Or.inl (hw _ (List.mem_of_getElem? (i := 102) rfl))) (Or.inr (hw _ (List.mem_of_getElem? (i := 86) rfl))) (by decide) (t := .int) (t' := .long) (by decide +kernel) (by decide +kernel)))
  have F264 := Fld.other w218 F263 (Or.inr (slot_ne (a0 := a0) (C := "com/example/lively_broker/livelybroker/broker/Job") (Or.inl (hw _ (List.mem_of_getElem? (i := 102) rfl))) (Or.inr (hw _ (List.mem_of_getElem? (i := 88) rfl))) (by decide) (t := .int) (t' := .long) (by decide +kernel) (by decide +kernel)))
  exact ⟨_, _, H.retN rfl (by decide) (by decide) d1_36 r219, rfl, ((((((((Keep.refl _ _).ext E148).trans K1 (allS (Or.inr Y155) all0)).wr w168 (Or.inl (List.mem_of_getElem? (i := 0) rfl))).wr w179 (Or.inl (List.mem_of_getElem? (i := 0) rfl))).wr w191 (Or.inl (List.mem_of_getElem? (i := 0) rfl))).wr w204 (Or.inl (List.mem_of_getElem? (i := 0) rfl))).wr w218 (Or.inl (List.mem_of_getElem? (i := 0) rfl))), s, m, N154, NM, nas, nam, ⟨F223, F230, F234, ⟨_, F241⟩, ⟨_, F243⟩, ⟨_, F250⟩, ⟨_, F257⟩, _, F264⟩, S2⟩
set_option maxRecDepth 65536 in
set_option maxHeartbeats 40000000 in
theorem mp_ct {l : Launch} {Z : State} {a0 : Array Value} (hw : ∀ d ∈ tables_1, d.before a0 Z = true) (a s : Addr) (ans : Value) (h0 : Heap) (n0 : Nat) (Z0 : n0 ≤ h0.size) (N0 : n0 ≤ a) (J0 : own_job Z h0 a ans s) :
    Ct l Z (⟨"com/example/lively_broker/livelybroker/broker/Job", "markPlaced", "()V"⟩ : MethodName) prog_1_method_8_code 1 none ({ frames := 0, cells := 0, slots := 0, locals := 0 } : Room) n0 #[(.ref a)] h0 (fun v h' => v = none ∧ Keep h0 h' [a] ∧ own_job Z h' a ans s) := by
  refine Ct.of (plainFor_of_name pn_8) (fun mI => ef_mp a mI) ?_
  intro W V H r0
  obtain ⟨X0, Fans, Fcl, ⟨vat, Fat⟩, ⟨vpl, Fpl⟩, ⟨vtb, Ftb⟩, ⟨vpd, Fpd⟩, vlw, Flw⟩ := J0
  have r265 : W h0 0 0 2 #[.val (.ref a)] [(.int (1 : Int32)), (.ref a)] := (H.iconst (z := (1 : Int32)) d17_1 (H.aloadN d17_0 r0 rfl rfl) rfl)
  obtain ⟨h266, w267, r268⟩ := H.putF (ty := .boolean) (host := "") (Or.inl (hw _ (List.mem_of_getElem? (i := 115) rfl))) Via.refl Fpd X0 (Or.inl (hw _ (List.mem_of_getElem? (i := 116) rfl))) (hw _ (List.mem_of_getElem? (i := 2) rfl)) (by decide +kernel) rfl rfl N0 d17_2 r265
  have Z269 : n0 ≤ h266.size := by rw [w267.size]; exact Z0
  have G270 : Fld Z h266 a "com/example/lively_broker/livelybroker/broker/Job" "placed" "Z" (.int (1 : Int32)) := Fpd.same w267
  replace r268 : W h266 0 0 5 #[.val (.ref a)] [] := r268
  have F271 := Exa.wr w267 X0
  have F272 := Fld.other w267 Fans (Or.inr (slot_ne (a0 := a0) (C := "com/example/lively_broker/livelybroker/broker/Job") (Or.inl (hw _ (List.mem_of_getElem? (i := 95) rfl))) (Or.inl (hw _ (List.mem_of_getElem? (i := 116) rfl))) (by decide) (t := (.object "com/example/lively_broker/livelybroker/wire/Message")) (t' := .boolean) (by decide +kernel) (by decide +kernel)))
  have F273 := Fld.other w267 Fcl (Or.inr (slot_ne (a0 := a0) (C := "com/example/lively_broker/livelybroker/broker/Job") (Or.inr (hw _ (List.mem_of_getElem? (i := 80) rfl))) (Or.inl (hw _ (List.mem_of_getElem? (i := 116) rfl))) (by decide) (t := (.object "java/util/Set")) (t' := .boolean) (by decide +kernel) (by decide +kernel)))
  have F274 := Fld.other w267 Fat (Or.inr (slot_ne (a0 := a0) (C := "com/example/lively_broker/livelybroker/broker/Job") (Or.inl (hw _ (List.mem_of_getElem? (i := 174) rfl))) (Or.inl (hw _ (List.mem_of_getElem? (i := 116) rfl))) (by decide) (t := .long) (t' := .boolean) (by decide +kernel) (by decide +kernel)))
  have F275 := Fld.other w267 Fpl (Or.inr (slot_ne (a0 := a0) (C := "com/example/lively_broker/livelybroker/broker/Job") (Or.inl (hw _ (List.mem_of_getElem? (i := 84) rfl))) (Or.inl (hw _ (List.mem_of_getElem? (i := 116) rfl))) (by decide) (t := (.array .byte)) (t' := .boolean) (by decide +kernel) (by decide +kernel)))
  have F276 := Fld.other w267 Ftb (Or.inr (slot_ne (a0 := a0) (C := "com/example/lively_broker/livelybroker/broker/Job") (Or.inl (hw _ (List.mem_of_getElem? (i := 109) rfl))) (Or.inl (hw _ (List.mem_of_getElem? (i := 116) rfl))) (by decide) (t := .boolean) (t' := .boolean) (by decide +kernel) (by decide +kernel)))
  have F277 := Fld.other w267 Flw (Or.inr (slot_ne (a0 := a0) (C := "com/example/lively_broker/livelybroker/broker/Job") (Or.inl (hw _ (List.mem_of_getElem? (i := 102) rfl))) (Or.inl (hw _ (List.mem_of_getElem? (i := 116) rfl))) (by decide) (t := .int) (t' := .boolean) (by decide +kernel) (by decide +kernel)))
  exact ⟨_, _, H.retN rfl (Nat.le_refl _) (Nat.le_refl _) d17_5 r268, rfl, ((Keep.refl _ _).wr w267 (Or.inl (List.mem_of_getElem? (i := 0) rfl))), ⟨F271, F272, F273, ⟨_, F274⟩, ⟨_, F275⟩, ⟨_, F276⟩, ⟨_, G270⟩, _, F277⟩⟩
set_option maxRecDepth 65536 in
set_option maxHeartbeats 40000000 in
theorem mt_ct {l : Launch} {Z : State} {a0 : Array Value} (hw : ∀ d ∈ tables_1, d.before a0 Z = true) (a s : Addr) (ans : Value) (h0 : Heap) (n0 : Nat) (Z0 : n0 ≤ h0.size) (N0 : n0 ≤ a) (J0 : own_job Z h0 a ans s) :
    Ct l Z (⟨"com/example/lively_broker/livelybroker/broker/Job", "markTakenBack", "()V"⟩ : MethodName) prog_1_method_14_code 1 none ({ frames := 0, cells := 0, slots := 0, locals := 0 } : Room) n0 #[(.ref a)] h0 (fun v h' => v = none ∧ Keep h0 h' [a] ∧ own_job Z h' a ans s) := by
  refine Ct.of (plainFor_of_name pn_8) (fun mI => ef_mt a mI) ?_
  intro W V H r0
  obtain ⟨X0, Fans, Fcl, ⟨vat, Fat⟩, ⟨vpl, Fpl⟩, ⟨vtb, Ftb⟩, ⟨vpd, Fpd⟩, vlw, Flw⟩ := J0
  have r278 : W h0 0 0 2 #[.val (.ref a)] [(.int (1 : Int32)), (.ref a)] := (H.iconst (z := (1 : Int32)) d15_1 (H.aloadN d15_0 r0 rfl rfl) rfl)
  obtain ⟨h279, w280, r281⟩ := H.putF (ty := .boolean) (host := "") (Or.inl (hw _ (List.mem_of_getElem? (i := 108) rfl))) Via.refl Ftb X0 (Or.inl (hw _ (List.mem_of_getElem? (i := 109) rfl))) (hw _ (List.mem_of_getElem? (i := 2) rfl)) (by decide +kernel) rfl rfl N0 d15_2 r278
  have Z282 : n0 ≤ h279.size := by rw [w280.size]; exact Z0
  have G283 : Fld Z h279 a "com/example/lively_broker/livelybroker/broker/Job" "takenBack" "Z" (.int (1 : Int32)) := Ftb.same w280
  replace r281 : W h279 0 0 5 #[.val (.ref a)] [] := r281
  have F284 := Exa.wr w280 X0
  have F285 := Fld.other w280 Fans (Or.inr (slot_ne (a0 := a0) (C := "com/example/lively_broker/livelybroker/broker/Job") (Or.inl (hw _ (List.mem_of_getElem? (i := 95) rfl))) (Or.inl (hw _ (List.mem_of_getElem? (i := 109) rfl))) (by decide) (t := (.object "com/example/lively_broker/livelybroker/wire/Message")) (t' := .boolean) (by decide +kernel) (by decide +kernel)))
  have F286 := Fld.other w280 Fcl (Or.inr (slot_ne (a0 := a0) (C := "com/example/lively_broker/livelybroker/broker/Job") (Or.inr (hw _ (List.mem_of_getElem? (i := 80) rfl))) (Or.inl (hw _ (List.mem_of_getElem? (i := 109) rfl))) (by decide) (t := (.object "java/util/Set")) (t' := .boolean) (by decide +kernel) (by decide +kernel)))
  have F287 := Fld.other w280 Fat (Or.inr (slot_ne (a0 := a0) (C := "com/example/lively_broker/livelybroker/broker/Job") (Or.inl (hw _ (List.mem_of_getElem? (i := 174) rfl))) (Or.inl (hw _ (List.mem_of_getElem? (i := 109) rfl))) (by decide) (t := .long) (t' := .boolean) (by decide +kernel) (by decide +kernel)))
  have F288 := Fld.other w280 Fpl (Or.inr (slot_ne (a0 := a0) (C := "com/example/lively_broker/livelybroker/broker/Job") (Or.inl (hw _ (List.mem_of_getElem? (i := 84) rfl))) (Or.inl (hw _ (List.mem_of_getElem? (i := 109) rfl))) (by decide) (t := (.array .byte)) (t' := .boolean) (by decide +kernel) (by decide +kernel)))
  have F289 := Fld.other w280 Fpd (Or.inr (slot_ne (a0 := a0) (C := "com/example/lively_broker/livelybroker/broker/Job") (Or.inl (hw _ (List.mem_of_getElem? (i := 116) rfl))) (Or.inl (hw _ (List.mem_of_getElem? (i := 109) rfl))) (by decide) (t := .boolean) (t' := .boolean) (by decide +kernel) (by decide +kernel)))
  have F290 := Fld.other w280 Flw (Or.inr (slot_ne (a0 := a0) (C := "com/example/lively_broker/livelybroker/broker/Job") (Or.inl (hw _ (List.mem_of_getElem? (i := 102) rfl))) (Or.inl (hw _ (List.mem_of_getElem? (i := 109) rfl))) (by decide) (t := .int) (t' := .boolean) (by decide +kernel) (by decide +kernel)))
  exact ⟨_, _, H.retN rfl (Nat.le_refl _) (Nat.le_refl _) d15_5 r281, rfl, ((Keep.refl _ _).wr w280 (Or.inl (List.mem_of_getElem? (i := 0) rfl))), ⟨F284, F285, F286, ⟨_, F287⟩, ⟨_, F288⟩, ⟨_, G283⟩, ⟨_, F289⟩, _, F290⟩⟩
set_option maxRecDepth 65536 in
set_option maxHeartbeats 40000000 in
theorem cl_ct {l : Launch} {Z : State} {a0 : Array Value} (hw : ∀ d ∈ tables_1, d.before a0 Z = true) (a s : Addr) (ans : Value) (h0 : Heap) (n0 : Nat) (Z0 : n0 ≤ h0.size) (N0 : n0 ≤ a) (J0 : own_job Z h0 a ans s) :
    Ct l Z (⟨"com/example/lively_broker/livelybroker/broker/Job", "countLostWorker", "()I"⟩ : MethodName) prog_1_method_15_code 1 (some .int) ({ frames := 0, cells := 0, slots := 0, locals := 0 } : Room) n0 #[(.ref a)] h0 (fun v h' => (∃ z : Int32, v = some (.int z)) ∧ Keep h0 h' [a] ∧ own_job Z h' a ans s) := by
  refine Ct.of (plainFor_of_name pn_8) (fun mI => ef_cl a mI) ?_
  intro W V H r0
  obtain ⟨X0, Fans, Fcl, ⟨vat, Fat⟩, ⟨vpl, Fpl⟩, ⟨vtb, Ftb⟩, ⟨vpd, Fpd⟩, vlw, Flw⟩ := J0
  have r291 : W h0 0 0 2 #[.val (.ref a)] [(.ref a), (.ref a)] := (H.dup d14_1 (H.aloadN d14_0 r0 rfl rfl) rfl)
  have r292 : W h0 0 0 5 #[.val (.ref a)] [(.int vlw), (.ref a)] := H.getF' (hw _ (List.mem_of_getElem? (i := 101) rfl)) Flw d14_2 r291
  have r293 : W h0 0 0 7 #[.val (.ref a)] [(.int (vlw + (1 : Int32))), (.ref a)] := (H.iadd d14_6 (H.iconst (z := (1 : Int32)) d14_5 r292 rfl))
  obtain ⟨h294, w295, r296⟩ := H.putF (ty := .int) (host := "") (Or.inl (hw _ (List.mem_of_getElem? (i := 101) rfl))) Via.refl Flw X0 (Or.inl (hw _ (List.mem_of_getElem? (i := 102) rfl))) (hw _ (List.mem_of_getElem? (i := 2) rfl)) (by decide +kernel) rfl rfl N0 d14_7 r293
  have Z297 : n0 ≤ h294.size := by rw [w295.size]; exact Z0
  have G298 : Fld Z h294 a "com/example/lively_broker/livelybroker/broker/Job" "lostWorkers" "I" (.int (vlw + (1 : Int32))) := Flw.same w295
  replace r296 : W h294 0 0 10 #[.val (.ref a)] [] := r296
  have r299 : W h294 0 0 11 #[.val (.ref a)] [(.ref a)] := (H.aloadN d14_10 r296 rfl rfl)
  have r300 : W h294 0 0 14 #[.val (.ref a)] [(.int (vlw + (1 : Int32)))] := H.getF' (hw _ (List.mem_of_getElem? (i := 101) rfl)) G298 d14_11 r299
  have F301 := Exa.wr w295 X0
  have F302 := Fld.other w295 Fans (Or.inr (slot_ne (a0 := a0) (C := "com/example/lively_broker/livelybroker/broker/Job") (Or.inl (hw _ (List.mem_of_getElem? (i := 95) rfl))) (Or.inl (hw _ (List.mem_of_getElem? (i := 102) rfl))) (by decide) (t := (.object "com/example/lively_broker/livelybroker/wire/Message")) (t' := .int) (by decide +kernel) (by decide +kernel)))
  have F303 := Fld.other w295 Fcl (Or.inr (slot_ne (a0 := a0) (C := "com/example/lively_broker/livelybroker/broker/Job") (Or.inr (hw _ (List.mem_of_getElem? (i := 80) rfl))) (Or.inl (hw _ (List.mem_of_getElem? (i := 102) rfl))) (by decide) (t := (.object "java/util/Set")) (t' := .int) (by decide +kernel) (by decide +kernel)))
  have F304 := Fld.other w295 Fat (Or.inr (slot_ne (a0 := a0) (C := "com/example/lively_broker/livelybroker/broker/Job") (Or.inl (hw _ (List.mem_of_getElem? (i := 174) rfl))) (Or.inl (hw _ (List.mem_of_getElem? (i := 102) rfl))) (by decide) (t := .long) (t' := .int) (by decide +kernel) (by decide +kernel)))
  have F305 := Fld.other w295 Fpl (Or.inr (slot_ne (a0 := a0) (C := "com/example/lively_broker/livelybroker/broker/Job") (Or.inl (hw _ (List.mem_of_getElem? (i := 84) rfl))) (Or.inl (hw _ (List.mem_of_getElem? (i := 102) rfl))) (by decide) (t := (.array .byte)) (t' := .int) (by decide +kernel) (by decide +kernel)))
  have F306 := Fld.other w295 Ftb (Or.inr (slot_ne (a0 := a0) (C := "com/example/lively_broker/livelybroker/broker/Job") (Or.inl (hw _ (List.mem_of_getElem? (i := 109) rfl))) (Or.inl (hw _ (List.mem_of_getElem? (i := 102) rfl))) (by decide) (t := .boolean) (t' := .int) (by decide +kernel) (by decide +kernel)))
  have F307 := Fld.other w295 Fpd (Or.inr (slot_ne (a0 := a0) (C := "com/example/lively_broker/livelybroker/broker/Job") (Or.inl (hw _ (List.mem_of_getElem? (i := 116) rfl))) (Or.inl (hw _ (List.mem_of_getElem? (i := 102) rfl))) (by decide) (t := .boolean) (t' := .int) (by decide +kernel) (by decide +kernel)))
  exact ⟨_, _, H.retI rfl (Nat.le_refl _) (Nat.le_refl _) d14_14 r300, ⟨_, rfl⟩, ((Keep.refl _ _).wr w295 (Or.inl (List.mem_of_getElem? (i := 0) rfl))), ⟨F301, F302, F303, ⟨_, F304⟩, ⟨_, F305⟩, ⟨_, F306⟩, ⟨_, F307⟩, _, G298⟩⟩
set_option maxRecDepth 65536 in
set_option maxHeartbeats 40000000 in
theorem rp_ct {l : Launch} {Z : State} {a0 : Array Value} (hw : ∀ d ∈ tables_1, d.before a0 Z = true) (a s : Addr) (ans : Value) (h0 : Heap) (n0 : Nat) (Z0 : n0 ≤ h0.size) (N0 : n0 ≤ a) (J0 : own_job Z h0 a ans s) (p2 l2 : Int32) (hp2 : p2 = 0 ∨ p2 = 1) :
    Ct l Z (⟨"com/example/lively_broker/livelybroker/broker/Job", "restoreProgress", "(ZI)V"⟩ : MethodName) prog_1_method_17_code 3 none ({ frames := 0, cells := 0, slots := 0, locals := 0 } : Room) n0 #[(.ref a), (.int p2), (.int l2)] h0 (fun v h' => v = none ∧ Keep h0 h' [a] ∧ own_job Z h' a ans s) := by
  refine Ct.of (plainFor_of_name pn_8) (fun mI => ef_rp a p2 l2 mI) ?_
  intro W V H r0
  obtain ⟨X0, Fans, Fcl, ⟨vat, Fat⟩, ⟨vpl, Fpl⟩, ⟨vtb, Ftb⟩, ⟨vpd, Fpd⟩, vlw, Flw⟩ := J0
  have r308 : W h0 0 0 2 #[.val (.ref a), .val (.int p2), .val (.int l2)] [(.int p2), (.ref a)] := (H.iloadN d16_1 (H.aloadN d16_0 r0 rfl rfl) rfl)
  obtain ⟨h309, w310, r311⟩ := H.putF (ty := .boolean) (host := "") (Or.inl (hw _ (List.mem_of_getElem? (i := 115) rfl))) Via.refl Fpd X0 (Or.inl (hw _ (List.mem_of_getElem? (i := 116) rfl))) (hw _ (List.mem_of_getElem? (i := 2) rfl)) (by decide +kernel) (own_nz hp2) (own_fz hp2) N0 d16_2 r308
  have Z312 : n0 ≤ h309.size := by rw [w310.size]; exact Z0
  have G313 : Fld Z h309 a "com/example/lively_broker/livelybroker/broker/Job" "placed" "Z" (.int p2) := Fpd.same w310
  replace r311 : W h309 0 0 5 #[.val (.ref a), .val (.int p2), .val (.int l2)] [] := r311
  have r314 : W h309 0 0 7 #[.val (.ref a), .val (.int p2), .val (.int l2)] [(.int l2), (.ref a)] := (H.iloadN d16_6 (H.aloadN d16_5 r311 rfl rfl) rfl)
  have F315 := Fld.other w310 Flw (Or.inr (slot_ne (a0 := a0) (C := "com/example/lively_broker/livelybroker/broker/Job") (Or.inl (hw _ (List.mem_of_getElem? (i := 102) rfl))) (Or.inl (hw _ (List.mem_of_getElem? (i := 116) rfl))) (by decide) (t := .int) (t' := .boolean) (by decide +kernel) (by decide +kernel)))
  have F316 := Exa.wr w310 X0
  obtain ⟨h317, w318, r319⟩ := H.putF (ty := .int) (host := "") (Or.inl (hw _ (List.mem_of_getElem? (i := 101) rfl))) Via.refl F315 F316 (Or.inl (hw _ (List.mem_of_getElem? (i := 102) rfl))) (hw _ (List.mem_of_getElem? (i := 2) rfl)) (by decide +kernel) rfl rfl N0 d16_7 r314
  have Z320 : n0 ≤ h317.size := by rw [w318.size]; exact Z312
  have G321 : Fld Z h317 a "com/example/lively_broker/livelybroker/broker/Job" "lostWorkers" "I" (.int l2) := F315.same w318
  replace r319 : W h317 0 0 10 #[.val (.ref a), .val (.int p2), .val (.int l2)] [] := r319
  have F322 := Exa.wr w318 F316
  have F323 := Fld.other w310 Fans (Or.inr (slot_ne (a0 := a0) (C := "com/example/lively_broker/livelybroker/broker/Job") (Or.inl (hw _ (List.mem_of_getElem? (i := 95) rfl))) (Or.inl (hw _ (List.mem_of_getElem? (i := 116) rfl))) (by decide) (t := (.object "com/example/lively_broker/livelybroker/wire/Message")) (t' := .boolean) (by decide +kernel) (by decide +kernel)))
  have F324 := Fld.other w318 F323 (Or.inr (slot_ne (a0 := a0) (C := "com/example/lively_broker/livelybroker/broker/Job") (Or.inl (hw _ (List.mem_of_getElem? (i := 95) rfl))) (Or.inl (hw _ (List.mem_of_getElem? (i := 102) rfl))) (by decide) (t := (.object "com/example/lively_broker/livelybroker/wire/Message")) (t' := .int) (by decide +kernel) (by decide +kernel)))
  have F325 := Fld.other w310 Fcl (Or.inr (slot_ne (a0 := a0) (C := "com/example/lively_broker/livelybroker/broker/Job") (Or.inr (hw _ (List.mem_of_getElem? (i := 80) rfl))) (Or.inl (hw _ (List.mem_of_getElem? (i := 116) rfl))) (by decide) (t := (.object "java/util/Set")) (t' := .boolean) (by decide +kernel) (by decide +kernel)))
  have F326 := Fld.other w318 F325 (Or.inr (slot_ne (a0 := a0) (C := "com/example/lively_broker/livelybroker/broker/Job") (Or.inr (hw _ (List.mem_of_getElem? (i := 80) rfl))) (Or.inl (hw _ (List.mem_of_getElem? (i := 102) rfl))) (by decide) (t := (.object "java/util/Set")) (t' := .int) (by decide +kernel) (by decide +kernel)))
  have F327 := Fld.other w310 Fat (Or.inr (slot_ne (a0 := a0) (C := "com/example/lively_broker/livelybroker/broker/Job") (Or.inl (hw _ (List.mem_of_getElem? (i := 174) rfl))) (Or.inl (hw _ (List.mem_of_getElem? (i := 116) rfl))) (by decide) (t := .long) (t' := .boolean) (by decide +kernel) (by decide +kernel)))
  have F328 := Fld.other w318 F327 (Or.inr (slot_ne (a0 := a0) (C := "com/example/lively_broker/livelybroker/broker/Job") (Or.inl (hw _ (List.mem_of_getElem? (i := 174) rfl))) (Or.inl (hw _ (List.mem_of_getElem? (i := 102) rfl))) (by decide) (t := .long) (t' := .int) (by decide +kernel) (by decide +kernel)))
  have F329 := Fld.other w310 Fpl (Or.inr (slot_ne (a0 := a0) (C := "com/example/lively_broker/livelybroker/broker/Job") (Or.inl (hw _ (List.mem_of_getElem? (i := 84) rfl))) (Or.inl (hw _ (List.mem_of_getElem? (i := 116) rfl))) (by decide) (t := (.array .byte)) (t' := .boolean) (by decide +kernel) (by decide +kernel)))
  have F330 := Fld.other w318 F329 (Or.inr (slot_ne (a0 := a0) (C := "com/example/lively_broker/livelybroker/broker/Job") (Or.inl (hw _ (List.mem_of_getElem? (i := 84) rfl))) (Or.inl (hw _ (List.mem_of_getElem? (i := 102) rfl))) (by decide) (t := (.array .byte)) (t' := .int) (by decide +kernel) (by decide +kernel)))
  have F331 := Fld.other w310 Ftb (Or.inr (slot_ne (a0 := a0) (C := "com/example/lively_broker/livelybroker/broker/Job") (Or.inl (hw _ (List.mem_of_getElem? (i := 109) rfl))) (Or.inl (hw _ (List.mem_of_getElem? (i := 116) rfl))) (by decide) (t := .boolean) (t' := .boolean) (by decide +kernel) (by decide +kernel)))
  have F332 := Fld.other w318 F331 (Or.inr (slot_ne (a0 := a0) (C := "com/example/lively_broker/livelybroker/broker/Job") (Or.inl (hw _ (List.mem_of_getElem? (i := 109) rfl))) (Or.inl (hw _ (List.mem_of_getElem? (i := 102) rfl))) (by decide) (t := .boolean) (t' := .int) (by decide +kernel) (by decide +kernel)))
  have F333 := Fld.other w318 G313 (Or.inr (slot_ne (a0 := a0) (C := "com/example/lively_broker/livelybroker/broker/Job") (Or.inl (hw _ (List.mem_of_getElem? (i := 116) rfl))) (Or.inl (hw _ (List.mem_of_getElem? (i := 102) rfl))) (by decide) (t := .boolean) (t' := .int) (by decide +kernel) (by decide +kernel)))
  exact ⟨_, _, H.retN rfl (Nat.le_refl _) (Nat.le_refl _) d16_10 r319, rfl, (((Keep.refl _ _).wr w310 (Or.inl (List.mem_of_getElem? (i := 0) rfl))).wr w318 (Or.inl (List.mem_of_getElem? (i := 0) rfl))), ⟨F322, F324, F326, ⟨_, F328⟩, ⟨_, F330⟩, ⟨_, F332⟩, ⟨_, F333⟩, _, G321⟩⟩
set_option maxRecDepth 65536 in
set_option maxHeartbeats 40000000 in
theorem anN_ct {l : Launch} {Z : State} {a0 : Array Value} (hw : ∀ d ∈ tables_1, d.before a0 Z = true) (a s : Addr) (h0 : Heap) (n0 : Nat) (J0 : own_job Z h0 a .null s) :
    Ct l Z (⟨"com/example/lively_broker/livelybroker/broker/Job", "answered", "()Z"⟩ : MethodName) prog_1_method_9_code 1 (some .boolean) ({ frames := 0, cells := 0, slots := 0, locals := 0 } : Room) n0 #[(.ref a)] h0 (fun v h' => v = some (.int (0 : Int32)) ∧ h' = h0) := by
  refine Ct.of (plainFor_of_name pn_8) (fun mI => ef_an a mI) ?_
  intro W V H r0
  obtain ⟨X0, Fans, Fcl, ⟨vat, Fat⟩, ⟨vpl, Fpl⟩, ⟨vtb, Ftb⟩, ⟨vpd, Fpd⟩, vlw, Flw⟩ := J0
  have r334 : W h0 0 0 1 #[.val (.ref a)] [(.ref a)] := (H.aloadN d13_0 r0 rfl rfl)
  have r335 : W h0 0 0 4 #[.val (.ref a)] [.null] := H.getF' (hw _ (List.mem_of_getElem? (i := 94) rfl)) Fans d13_1 r334
  have r336 : W h0 0 0 11 #[.val (.ref a)] [] := (H.ifnullYes (pc' := 11) d13_4 r335 (by decide) (by decide))
  have r337 : W h0 0 0 12 #[.val (.ref a)] [(.int (0 : Int32))] := (H.iconst (z := (0 : Int32)) d13_11 r336 rfl)
  exact ⟨_, _, H.retZ rfl rfl (Nat.le_refl _) (Nat.le_refl _) d13_12 r337, rfl, rfl⟩
set_option maxRecDepth 65536 in
set_option maxHeartbeats 40000000 in
theorem anA_ct {l : Launch} {Z : State} {a0 : Array Value} (hw : ∀ d ∈ tables_1, d.before a0 Z = true) (a s mg : Addr) (h0 : Heap) (n0 : Nat) (J0 : own_job Z h0 a (.ref mg) s) :
    Ct l Z (⟨"com/example/lively_broker/livelybroker/broker/Job", "answered", "()Z"⟩ : MethodName) prog_1_method_9_code 1 (some .boolean) ({ frames := 0, cells := 0, slots := 0, locals := 0 } : Room) n0 #[(.ref a)] h0 (fun v h' => v = some (.int (1 : Int32)) ∧ h' = h0) := by
  refine Ct.of (plainFor_of_name pn_8) (fun mI => ef_an a mI) ?_
  intro W V H r0
  obtain ⟨X0, Fans, Fcl, ⟨vat, Fat⟩, ⟨vpl, Fpl⟩, ⟨vtb, Ftb⟩, ⟨vpd, Fpd⟩, vlw, Flw⟩ := J0
  have r338 : W h0 0 0 1 #[.val (.ref a)] [(.ref a)] := (H.aloadN d13_0 r0 rfl rfl)
  have r339 : W h0 0 0 4 #[.val (.ref a)] [(.ref mg)] := H.getF' (hw _ (List.mem_of_getElem? (i := 94) rfl)) Fans d13_1 r338
  have r340 : W h0 0 0 7 #[.val (.ref a)] [] := (H.ifnullNo d13_4 r339)
  have r341 : W h0 0 0 12 #[.val (.ref a)] [(.int (1 : Int32))] := (H.goto (pc' := 12) d13_8 (H.iconst (z := (1 : Int32)) d13_7 r340 rfl) (by decide) (by decide))
  exact ⟨_, _, H.retZ rfl rfl (Nat.le_refl _) (Nat.le_refl _) d13_12 r341, rfl, rfl⟩
set_option maxRecDepth 65536 in
set_option maxHeartbeats 40000000 in
theorem aw_ct {l : Launch} {Z : State} {a0 : Array Value} (hw : ∀ d ∈ tables_1, d.before a0 Z = true) (a s mg : Addr) (h0 : Heap) (n0 : Nat) (J0 : own_job Z h0 a (.ref mg) s) :
    Ct l Z (⟨"com/example/lively_broker/livelybroker/broker/Job", "answer", "()Lcom/example/lively_broker/livelybroker/wire/Message;"⟩ : MethodName) prog_1_method_10_code 1 (some (.object "com/example/lively_broker/livelybroker/wire/Message")) ({ frames := 0, cells := 0, slots := 0, locals := 0 } : Room) n0 #[(.ref a)] h0 (fun v h' => v = some (.ref mg) ∧ h' = h0) := by
  refine Ct.of (plainFor_of_name pn_8) (fun mI => ef_aw a mI) ?_
  intro W V H r0
  obtain ⟨X0, Fans, Fcl, ⟨vat, Fat⟩, ⟨vpl, Fpl⟩, ⟨vtb, Ftb⟩, ⟨vpd, Fpd⟩, vlw, Flw⟩ := J0
  have r342 : W h0 0 0 1 #[.val (.ref a)] [(.ref a)] := (H.aloadN d34_0 r0 rfl rfl)
  have r343 : W h0 0 0 4 #[.val (.ref a)] [(.ref mg)] := H.getF' (hw _ (List.mem_of_getElem? (i := 94) rfl)) Fans d34_1 r342
  exact ⟨_, _, H.retR rfl rfl rfl (Nat.le_refl _) (Nat.le_refl _) d34_4 r343, rfl, rfl⟩
set_option maxRecDepth 65536 in
set_option maxHeartbeats 40000000 in
theorem hsz_ct {l : Launch} {Z : State} {a0 : Array Value} (hw : ∀ d ∈ tables_1, d.before a0 Z = true) (s m : Addr) (h0 : Heap) (n0 : Nat) (S0 : own_set Z h0 s m) :
    Ct l Z (⟨"java/util/HashMap", "size", "()I"⟩ : MethodName) jdk_69_method_10_code 1 (some .int) ({ frames := 0, cells := 0, slots := 0, locals := 0 } : Room) n0 #[(.ref m)] h0 (fun v h' => v = some (.int (0 : Int32)) ∧ h' = h0) := by
  refine Ct.of (plainFor_of_name pn_4) (fun mI => ef_hsz m mI) ?_
  intro W V H r0
  obtain ⟨XS, FM, XM, Msize, Mmod, Mtab, Mhead, Mtail⟩ := S0
  have r344 : W h0 0 0 1 #[.val (.ref m)] [(.ref m)] := (H.aloadN d28_0 r0 rfl rfl)
  have r345 : W h0 0 0 4 #[.val (.ref m)] [(.int (0 : Int32))] := H.getF' (hw _ (List.mem_of_getElem? (i := 205) rfl)) Msize d28_1 r344
  exact ⟨_, _, H.retI rfl (Nat.le_refl _) (Nat.le_refl _) d28_4 r345, rfl, rfl⟩
set_option maxRecDepth 65536 in
set_option maxHeartbeats 40000000 in
theorem k2_ct {l : Launch} {Z : State} {a0 : Array Value} (hw : ∀ d ∈ tables_1, d.before a0 Z = true) (ar : Addr) (s m : Addr) (h0 : Heap) (n0 : Nat) (S0 : own_set Z h0 s m) :
    Ct l Z (⟨"java/util/LinkedHashMap", "keysToArray", "([Ljava/lang/Object;Z)[Ljava/lang/Object;"⟩ : MethodName) jdk_94_method_28_code 6 (some (.array (.object "java/lang/Object"))) ({ frames := 0, cells := 0, slots := 0, locals := 0 } : Room) n0 #[(.ref m), (.ref ar), (.int (0 : Int32))] h0 (fun v h' => v = some (.ref ar) ∧ h' = h0) := by
  refine Ct.of (plainFor_of_name pn_5) (fun mI => ef_k2 m ar (0 : Int32) mI) ?_
  intro W V H r0
  obtain ⟨XS, FM, XM, Msize, Mmod, Mtab, Mhead, Mtail⟩ := S0
  have r346 : W h0 0 0 2 #[.val (.ref m), .val (.ref ar), .val (.int (0 : Int32)), .val (.ref ar), .unset, .unset] [] := (H.astoreN d30_1 (H.aloadN d30_0 r0 rfl rfl) rfl rfl)
  have r347 : W h0 0 0 5 #[.val (.ref m), .val (.ref ar), .val (.int (0 : Int32)), .val (.ref ar), .val (.int (0 : Int32)), .unset] [] := (H.istore d30_3 (H.iconst (z := (0 : Int32)) d30_2 r346 rfl) rfl)
  have r348 : W h0 0 0 45 #[.val (.ref m), .val (.ref ar), .val (.int (0 : Int32)), .val (.ref ar), .val (.int (0 : Int32)), .unset] [] := (H.ifYes (pc' := 45) d30_6 (H.iloadN d30_5 r347 rfl) (by decide) (by decide) (teq (rfl : (0 : Int32) = 0)).1)
  have r349 : W h0 0 0 46 #[.val (.ref m), .val (.ref ar), .val (.int (0 : Int32)), .val (.ref ar), .val (.int (0 : Int32)), .unset] [(.ref m)] := (H.aloadN d30_45 r348 rfl rfl)
  have r350 : W h0 0 0 49 #[.val (.ref m), .val (.ref ar), .val (.int (0 : Int32)), .val (.ref ar), .val (.int (0 : Int32)), .unset] [.null] := H.getF' (hw _ (List.mem_of_getElem? (i := 220) rfl)) Mhead d30_46 r349
  have r351 : W h0 0 0 51 #[.val (.ref m), .val (.ref ar), .val (.int (0 : Int32)), .val (.ref ar), .val (.int (0 : Int32)), .val .null] [] := (H.astore d30_49 r350 rfl rfl)
  have r352 : W h0 0 0 53 #[.val (.ref m), .val (.ref ar), .val (.int (0 : Int32)), .val (.ref ar), .val (.int (0 : Int32)), .val .null] [.null] := (H.aload d30_51 r351 rfl rfl)
  have r353 : W h0 0 0 78 #[.val (.ref m), .val (.ref ar), .val (.int (0 : Int32)), .val (.ref ar), .val (.int (0 : Int32)), .val .null] [] := (H.ifnullYes (pc' := 78) d30_53 r352 (by decide) (by decide))
  have r354 : W h0 0 0 79 #[.val (.ref m), .val (.ref ar), .val (.int (0 : Int32)), .val (.ref ar), .val (.int (0 : Int32)), .val .null] [(.ref ar)] := (H.aloadN d30_78 r353 rfl rfl)
  exact ⟨_, _, H.retR rfl rfl rfl (Nat.le_refl _) (Nat.le_refl _) d30_79 r354, rfl, rfl⟩
set_option maxRecDepth 65536 in
set_option maxHeartbeats 40000000 in
theorem k1_ct {l : Launch} {Z : State} {a0 : Array Value} (hw : ∀ d ∈ tables_1, d.before a0 Z = true) (ar : Addr) (s m : Addr) (h0 : Heap) (n0 : Nat) (S0 : own_set Z h0 s m) :
    Ct l Z (⟨"java/util/LinkedHashMap", "keysToArray", "([Ljava/lang/Object;)[Ljava/lang/Object;"⟩ : MethodName) jdk_94_method_27_code 2 (some (.array (.object "java/lang/Object"))) ({ frames := 1, cells := 0, slots := 0, locals := 17 } : Room) n0 #[(.ref m), (.ref ar)] h0 (fun v h' => v = some (.ref ar) ∧ h' = h0) := by
  refine Ct.of (plainFor_of_name pn_5) (fun mI => ef_k1 m ar mI) ?_
  intro W V H r0
  obtain ⟨XS, FM, XM, Msize, Mmod, Mtab, Mhead, Mtail⟩ := id S0
  have r355 : W h0 0 0 3 #[.val (.ref m), .val (.ref ar)] [(.int (0 : Int32)), (.ref ar), (.ref m)] := (H.iconst (z := (0 : Int32)) d29_2 (H.aloadN d29_1 (H.aloadN d29_0 r0 rfl rfl) rfl rfl) rfl)
  have r356 : W h0 0 0 6 #[.val (.ref m), .val (.ref ar)] [(.ref ar)] := H.callVP (w := 0) (argsL := [(.ref ar), (.int (0 : Int32))]) (rest := []) (hw _ (List.mem_of_getElem? (i := 215) rfl)) (hw _ (List.mem_of_getElem? (i := 216) rfl)) (Or.inl ⟨_, _, (hw _ (List.mem_of_getElem? (i := 218) rfl)), rfl⟩) (hw _ (List.mem_of_getElem? (i := 218) rfl)) (hw _ (List.mem_of_getElem? (i := 217) rfl)) (hw _ (List.mem_of_getElem? (i := 38) rfl)) (hw _ (List.mem_of_getElem? (i := 219) rfl)) (by decide) pd_5 (by decide) (by decide) (by decide) (by decide) XM (k2_ct hw ar s m h0 n0 S0) rfl rfl (Nat.le_of_eq rfl) rfl d29_3 r355
  exact ⟨_, _, H.retR rfl rfl rfl (Nat.le_refl _) (Nat.le_refl _) d29_6 r356, rfl, rfl⟩
set_option maxRecDepth 65536 in
set_option maxHeartbeats 40000000 in
theorem ta_ct {l : Launch} {Z : State} {a0 : Array Value} (hw : ∀ d ∈ tables_1, d.before a0 Z = true) (s m : Addr) (h0 : Heap) (n0 : Nat) (Z0 : n0 ≤ h0.size) (S0 : own_set Z h0 s m) :
    Ct l Z (⟨"java/util/HashSet", "toArray", "()[Ljava/lang/Object;"⟩ : MethodName) jdk_93_method_17_code 1 (some (.array (.object "java/lang/Object"))) ({ frames := 2, cells := 1, slots := 0, locals := 31 } : Room) n0 #[(.ref s)] h0 (fun v h' => ∃ ar : Addr, v = some (.ref ar) ∧ n0 ≤ ar ∧ h0.size ≤ ar ∧ Keep h0 h' [] ∧ Ary Z h' ar (.object "java/lang/Object") []) := by
  refine Ct.of (plainFor_of_name pn_6) (fun mI => ef_ta s mI) ?_
  intro W V H r0
  obtain ⟨XS, FM, XM, Msize, Mmod, Mtab, Mhead, Mtail⟩ := id S0
  have r357 : W h0 0 0 1 #[.val (.ref s)] [(.ref s)] := (H.aloadN d27_0 r0 rfl rfl)
  have r358 : W h0 0 0 4 #[.val (.ref s)] [(.ref m)] := H.getF' (hw _ (List.mem_of_getElem? (i := 77) rfl)) FM d27_1 r357
  have r359 : W h0 0 0 5 #[.val (.ref s)] [(.ref s), (.ref m)] := (H.aloadN d27_4 r358 rfl rfl)
  have r360 : W h0 0 0 8 #[.val (.ref s)] [(.ref m), (.ref m)] := H.getF' (hw _ (List.mem_of_getElem? (i := 77) rfl)) FM d27_5 r359
  have r361 : W h0 0 0 11 #[.val (.ref s)] [(.int (0 : Int32)), (.ref m)] := H.callVP (w := 1) (argsL := []) (rest := [(.ref m)]) (hw _ (List.mem_of_getElem? (i := 200) rfl)) (hw _ (List.mem_of_getElem? (i := 201) rfl)) (Or.inl ⟨_, _, (hw _ (List.mem_of_getElem? (i := 203) rfl)), rfl⟩) (hw _ (List.mem_of_getElem? (i := 203) rfl)) (hw _ (List.mem_of_getElem? (i := 202) rfl)) (hw _ (List.mem_of_getElem? (i := 47) rfl)) (hw _ (List.mem_of_getElem? (i := 204) rfl)) (by decide) pd_6 (by decide) (by decide) (by decide) (by decide) XM (hsz_ct hw s m h0 n0 S0) rfl rfl (Nat.le_of_eq rfl) rfl d27_8 r360
  obtain ⟨h1, ar, ear, E1, A1, r1⟩ := H.newR0 (hw _ (List.mem_of_getElem? (i := 207) rfl)) (hw _ (List.mem_of_getElem? (i := 208) rfl)) (by decide) (by decide) d27_11 r361
  have N362 : n0 ≤ ar := by rw [ear]; exact Z0
  have Y363 : h0.size ≤ ar := by rw [ear]; exact (Nat.le_refl _)
  have Z364 : n0 ≤ h1.size := Nat.le_trans Z0 E1.1
  have Y365 : h0.size ≤ h1.size := Nat.le_trans (Nat.le_refl _) E1.1
  replace r1 : W h1 1 0 14 #[.val (.ref s)] [(.ref ar), (.ref m)] := r1
  have S1 : own_set Z h1 s m := S0.keep (ws := []) ((Keep.refl _ _).ext E1) nin0 nin0
  have F366 := Exa.ext E1 XM
  have r367 : W h1 1 0 17 #[.val (.ref s)] [(.ref ar)] := H.callVP (w := 0) (argsL := [(.ref ar)]) (rest := []) (hw _ (List.mem_of_getElem? (i := 209) rfl)) (hw _ (List.mem_of_getElem? (i := 210) rfl)) (Or.inl ⟨_, _, (hw _ (List.mem_of_getElem? (i := 203) rfl)), rfl⟩) (hw _ (List.mem_of_getElem? (i := 212) rfl)) (hw _ (List.mem_of_getElem? (i := 213) rfl)) (hw _ (List.mem_of_getElem? (i := 38) rfl)) (hw _ (List.mem_of_getElem? (i := 214) rfl)) (by decide) pd_7 (by decide) (by decide) (by decide) (by decide) F366 (k1_ct hw ar s m h1 n0 S1) rfl rfl (Nat.le_of_eq rfl) rfl d27_14 r1
  exact ⟨_, _, H.retR rfl rfl rfl (by decide) (by decide) d27_17 r367, ar, rfl, N362, Y363, ((Keep.refl _ _).ext E1), A1⟩
set_option maxRecDepth 65536 in
set_option maxHeartbeats 40000000 in
theorem abl_ct {l : Launch} {Z : State} {a0 : Array Value} (hw : ∀ d ∈ tables_1, d.before a0 Z = true) (b : Addr) (h0 : Heap) (n0 : Nat) (Z0 : n0 ≤ h0.size) (N0 : n0 ≤ b) (X0 : Exa Z h0 b "java/util/ArrayList") (F1 : Fld Z h0 b "java/util/AbstractList" "modCount" "I" (.int 0)) (F2 : Fld Z h0 b "java/util/ArrayList" "size" "I" (.int 0)) (F3 : Fld Z h0 b "java/util/ArrayList" "elementData" "[Ljava/lang/Object;" (.null)) :
    Ct l Z (⟨"java/util/AbstractList", "<init>", "()V"⟩ : MethodName) jdk_39_method_1_code 1 none ({ frames := 2, cells := 0, slots := 0, locals := 24 } : Room) n0 #[(.ref b)] h0 (fun v h' => v = none ∧ Keep h0 h' [b] ∧ Exa Z h' b "java/util/ArrayList" ∧ Fld Z h' b "java/util/ArrayList" "size" "I" (.int 0) ∧ Fld Z h' b "java/util/ArrayList" "elementData" "[Ljava/lang/Object;" (.null)) := by
  refine Ct.of (plainFor_of_name pn_9) (fun mI => ef_abl b mI) ?_
  intro W V H r0
  have r368 : W h0 0 0 1 #[.val (.ref b)] [(.ref b)] := (H.aloadN d26_0 r0 rfl rfl)
  obtain ⟨_, hn1, ⟨rfl, eh1⟩, r369⟩ := H.callI (w := 0) (argsL := []) (rest := []) rfl (hw _ (List.mem_of_getElem? (i := 187) rfl)) (hw _ (List.mem_of_getElem? (i := 30) rfl)) (hw _ (List.mem_of_getElem? (i := 33) rfl)) (hw _ (List.mem_of_getElem? (i := 34) rfl)) (by decide) pd_0 (by decide) (by decide) (by decide) (by decide) (ac_ct hw b h0 n0) rfl rfl (Nat.le_of_eq rfl) rfl d26_1 r368
  replace r369 : W hn1 0 0 4 #[.val (.ref b)] [] := r369
  rw [eh1] at r369
  have r370 : W h0 0 0 6 #[.val (.ref b)] [(.int (0 : Int32)), (.ref b)] := (H.iconst (z := (0 : Int32)) d26_5 (H.aloadN d26_4 r369 rfl rfl) rfl)
  obtain ⟨h371, w372, r373⟩ := H.putF (ty := .int) (host := "") (Or.inl (hw _ (List.mem_of_getElem? (i := 189) rfl))) Via.refl F1 X0 (Or.inl (hw _ (List.mem_of_getElem? (i := 190) rfl))) (hw _ (List.mem_of_getElem? (i := 176) rfl)) (by decide +kernel) rfl rfl N0 d26_6 r370
  have Z374 : n0 ≤ h371.size := by rw [w372.size]; exact Z0
  have G375 : Fld Z h371 b "java/util/AbstractList" "modCount" "I" (.int (0 : Int32)) := F1.same w372
  replace r373 : W h371 0 0 9 #[.val (.ref b)] [] := r373
  have F376 := Exa.wr w372 X0
  have F377 := Fld.other w372 F2 (Or.inr (slot_ne (a0 := a0) (C := "java/util/ArrayList") (Or.inl (hw _ (List.mem_of_getElem? (i := 223) rfl))) (Or.inl (hw _ (List.mem_of_getElem? (i := 190) rfl))) (by decide) (t := .int) (t' := .int) (by decide +kernel) (by decide +kernel)))
  have F378 := Fld.other w372 F3 (Or.inr (slot_ne (a0 := a0) (C := "java/util/ArrayList") (Or.inl (hw _ (List.mem_of_getElem? (i := 226) rfl))) (Or.inl (hw _ (List.mem_of_getElem? (i := 190) rfl))) (by decide) (t := (.array (.object "java/lang/Object"))) (t' := .int) (by decide +kernel) (by decide +kernel)))
  exact ⟨_, _, H.retN rfl (Nat.le_refl _) (Nat.le_refl _) d26_9 r373, rfl, ((Keep.refl _ _).wr w372 (Or.inl (List.mem_of_getElem? (i := 0) rfl))), F376, F377, F378⟩
set_option maxRecDepth 65536 in
set_option maxHeartbeats 40000000 in
theorem alc_ct {l : Launch} {Z : State} {a0 : Array Value} (hw : ∀ d ∈ tables_1, d.before a0 Z = true) (b s m : Addr) (da : Addr) (S3 : Sta Z Z.heap "java/util/ArrayList" "EMPTY_ELEMENTDATA" "[Ljava/lang/Object;" (.ref da)) (h0 : Heap) (n0 : Nat) (Z0 : n0 ≤ h0.size) (N0 : n0 ≤ b) (X0 : Exa Z h0 b "java/util/ArrayList") (F1 : Fld Z h0 b "java/util/AbstractList" "modCount" "I" (.int 0)) (F2 : Fld Z h0 b "java/util/ArrayList" "size" "I" (.int 0)) (F3 : Fld Z h0 b "java/util/ArrayList" "elementData" "[Ljava/lang/Object;" (.null)) (O0 : Old Z n0 h0) (S0 : own_set Z h0 s m) (nsb : s ≠ b) (nmb : m ≠ b) :
    Ct l Z (⟨"java/util/ArrayList", "<init>", "(Ljava/util/Collection;)V"⟩ : MethodName) jdk_38_method_3_code 3 none ({ frames := 3, cells := 1, slots := 0, locals := 43 } : Room) n0 #[(.ref b), (.ref s)] h0 (fun v h' => v = none ∧ Keep h0 h' [b]) := by
  refine Ct.of (plainFor_of_name pn_10) (fun mI => ef_alc b s mI) ?_
  intro W V H r0
  obtain ⟨XS, FM, XM, Msize, Mmod, Mtab, Mhead, Mtail⟩ := id S0
  have r379 : W h0 0 0 1 #[.val (.ref b), .val (.ref s), .unset] [(.ref b)] := (H.aloadN d25_0 r0 rfl rfl)
  obtain ⟨_, hc1, ⟨rfl, K1, X1, G2, G3⟩, r380⟩ := H.callI (w := 0) (argsL := []) (rest := []) rfl (hw _ (List.mem_of_getElem? (i := 181) rfl)) (hw _ (List.mem_of_getElem? (i := 182) rfl)) (hw _ (List.mem_of_getElem? (i := 185) rfl)) (hw _ (List.mem_of_getElem? (i := 186) rfl)) (by decide) pd_0 (by decide) (by decide) (by decide) (by decide) (abl_ct hw b h0 n0 Z0 N0 X0 F1 F2 F3) rfl rfl (Nat.le_of_eq rfl) rfl d25_1 r379
  have Z381 : n0 ≤ hc1.size := Nat.le_trans Z0 K1.1
  have Y382 : h0.size ≤ hc1.size := Nat.le_trans (Nat.le_refl _) K1.1
  replace r380 : W hc1 0 0 4 #[.val (.ref b), .val (.ref s), .unset] [] := r380
  have S1 : own_set Z hc1 s m := S0.keep K1 (ninS nsb nin0) (ninS nmb nin0)
  have r383 : W hc1 0 0 5 #[.val (.ref b), .val (.ref s), .unset] [(.ref s)] := (H.aloadN d25_4 r380 rfl rfl)
  have F384 := XS.keep K1
  obtain ⟨_, hc2, ⟨ar, rfl, NR, YR, K2, A2⟩, r385⟩ := H.callF (w := 0) (argsL := []) (rest := []) (hw _ (List.mem_of_getElem? (i := 191) rfl)) (hw _ (List.mem_of_getElem? (i := 192) rfl)) (hw _ (List.mem_of_getElem? (i := 193) rfl)) (hw _ (List.mem_of_getElem? (i := 194) rfl)) (hw _ (List.mem_of_getElem? (i := 195) rfl)) (hw _ (List.mem_of_getElem? (i := 196) rfl)) (hw _ (List.mem_of_getElem? (i := 197) rfl)) (hw _ (List.mem_of_getElem? (i := 198) rfl)) (hw _ (List.mem_of_getElem? (i := 21) rfl)) (hw _ (List.mem_of_getElem? (i := 199) rfl)) (by decide) pd_8 (by decide) (by decide) (by decide) (by decide) F384 (ta_ct hw s m hc1 n0 Z381 S1) rfl rfl (Nat.le_of_eq rfl) rfl d25_5 r383
  have Z386 : n0 ≤ hc2.size := Nat.le_trans Z381 K2.1
  have Y387 : h0.size ≤ hc2.size := Nat.le_trans Y382 K2.1
  replace r385 : W hc2 1 0 10 #[.val (.ref b), .val (.ref s), .unset] [(.ref ar)] := r385
  have nar : b ≠ ar := Nat.ne_of_lt (Nat.lt_of_lt_of_le X1.lt YR)
  have r388 : W hc2 1 0 11 #[.val (.ref b), .val (.ref s), .val (.ref ar)] [] := (H.astoreN d25_10 r385 rfl rfl)
  have r389 : W hc2 1 0 13 #[.val (.ref b), .val (.ref s), .val (.ref ar)] [(.ref ar), (.ref b)] := (H.aloadN d25_12 (H.aloadN d25_11 r388 rfl rfl) rfl rfl)
  have r390 : W hc2 1 0 14 #[.val (.ref b), .val (.ref s), .val (.ref ar)] [(.int (0 : Int32)), (.ref b)] := H.lenA (z := (0 : Int32)) A2 rfl d25_13 r389
  have r391 : W hc2 1 0 15 #[.val (.ref b), .val (.ref s), .val (.ref ar)] [(.int (0 : Int32)), (.ref b), (.int (0 : Int32))] := (H.dupX1 d25_14 r390 rfl rfl)
  have F392 := G2.keep K2 nin0
  have F393 := X1.keep K2
  obtain ⟨h394, w395, r396⟩ := H.putF (ty := .int) (host := "") (Or.inl (hw _ (List.mem_of_getElem? (i := 222) rfl))) Via.refl F392 F393 (Or.inl (hw _ (List.mem_of_getElem? (i := 223) rfl))) (hw _ (List.mem_of_getElem? (i := 176) rfl)) (by decide +kernel) rfl rfl N0 d25_15 r391
  have Z397 : n0 ≤ h394.size := by rw [w395.size]; exact Z386
  have Y398 : h0.size ≤ h394.size := by rw [w395.size]; exact Y387
  have G399 : Fld Z h394 b "java/util/ArrayList" "size" "I" (.int (0 : Int32)) := F392.same w395
  replace r396 : W h394 1 0 18 #[.val (.ref b), .val (.ref s), .val (.ref ar)] [(.int (0 : Int32))] := r396
  have r400 : W h394 1 0 57 #[.val (.ref b), .val (.ref s), .val (.ref ar)] [] := (H.ifYes (pc' := 57) d25_18 r396 (by decide) (by decide) (teq (rfl : (0 : Int32) = 0)).1)
  have r401 : W h394 1 0 58 #[.val (.ref b), .val (.ref s), .val (.ref ar)] [(.ref b)] := (H.aloadN d25_57 r400 rfl rfl)
  have F402 := O0.keep K1 (allS N0 all0)
  have F403 := F402.keep K2 all0
  have F404 := F403.wr w395 N0
  have r405 : W h394 1 0 61 #[.val (.ref b), .val (.ref s), .val (.ref ar)] [(.ref da), (.ref b)] := H.getS (hw _ (List.mem_of_getElem? (i := 224) rfl)) (Sta.ext F404.2 S3) d25_58 r401
  have F406 := G3.keep K2 nin0
  have F407 := Fld.other w395 F406 (Or.inr (slot_ne (a0 := a0) (C := "java/util/ArrayList") (Or.inl (hw _ (List.mem_of_getElem? (i := 226) rfl))) (Or.inl (hw _ (List.mem_of_getElem? (i := 223) rfl))) (by decide) (t := (.array (.object "java/lang/Object"))) (t' := .int) (by decide +kernel) (by decide +kernel)))
  have F408 := Exa.wr w395 F393
  obtain ⟨h409, w410, r411⟩ := H.putF (ty := (.array (.object "java/lang/Object"))) (host := "") (Or.inl (hw _ (List.mem_of_getElem? (i := 225) rfl))) Via.refl F407 F408 (Or.inl (hw _ (List.mem_of_getElem? (i := 226) rfl))) (hw _ (List.mem_of_getElem? (i := 176) rfl)) (by decide +kernel) rfl rfl N0 d25_61 r405
  have Z412 : n0 ≤ h409.size := by rw [w410.size]; exact Z397
  have Y413 : h0.size ≤ h409.size := by rw [w410.size]; exact Y398
  have G414 : Fld Z h409 b "java/util/ArrayList" "elementData" "[Ljava/lang/Object;" (.ref da) := F407.same w410
  replace r411 : W h409 1 0 64 #[.val (.ref b), .val (.ref s), .val (.ref ar)] [] := r411
  exact ⟨_, _, H.retN rfl (by decide) (by decide) d25_64 r411, rfl, (((((Keep.refl _ _).trans K1 (allS (Or.inl (List.mem_of_getElem? (i := 0) rfl)) all0)).trans K2 all0).wr w395 (Or.inl (List.mem_of_getElem? (i := 0) rfl))).wr w410 (Or.inl (List.mem_of_getElem? (i := 0) rfl)))⟩
set_option maxRecDepth 65536 in
set_option maxHeartbeats 40000000 in
theorem hc_ct {l : Launch} {Z : State} {a0 : Array Value} (hw : ∀ d ∈ tables_1, d.before a0 Z = true) (s m : Addr) (h0 : Heap) (n0 : Nat) (Z0 : n0 ≤ h0.size) (NM : n0 ≤ m) (S0 : own_set Z h0 s m) :
    Ct l Z (⟨"java/util/HashMap", "clear", "()V"⟩ : MethodName) jdk_69_method_22_code 3 none ({ frames := 0, cells := 0, slots := 0, locals := 0 } : Room) n0 #[(.ref m)] h0 (fun v h' => v = none ∧ Keep h0 h' [m] ∧ Exa Z h' m "java/util/LinkedHashMap" ∧ Fld Z h' m "java/util/LinkedHashMap" "head" "Ljava/util/LinkedHashMap$Entry;" (.null) ∧ Fld Z h' m "java/util/LinkedHashMap" "tail" "Ljava/util/LinkedHashMap$Entry;" (.null)) := by
  refine Ct.of (plainFor_of_name pn_4) (fun mI => ef_hc m mI) ?_
  intro W V H r0
  obtain ⟨XS, FM, XM, Msize, Mmod, Mtab, Mhead, Mtail⟩ := id S0
  have r415 : W h0 0 0 2 #[.val (.ref m), .unset, .unset] [(.ref m), (.ref m)] := (H.dup d33_1 (H.aloadN d33_0 r0 rfl rfl) rfl)
  have r416 : W h0 0 0 5 #[.val (.ref m), .unset, .unset] [(.int (0 : Int32)), (.ref m)] := H.getF' (hw _ (List.mem_of_getElem? (i := 245) rfl)) Mmod d33_2 r415
  have r417 : W h0 0 0 7 #[.val (.ref m), .unset, .unset] [(.int ((0 : Int32) + (1 : Int32))), (.ref m)] := (H.iadd d33_6 (H.iconst (z := (1 : Int32)) d33_5 r416 rfl))
  obtain ⟨h418, w419, r420⟩ := H.putF (ty := .int) (host := "") (Or.inl (hw _ (List.mem_of_getElem? (i := 245) rfl))) Via.refl Mmod XM (Or.inl (hw _ (List.mem_of_getElem? (i := 246) rfl))) (hw _ (List.mem_of_getElem? (i := 37) rfl)) (by decide +kernel) rfl rfl NM d33_7 r417
  have Z421 : n0 ≤ h418.size := by rw [w419.size]; exact Z0
  have G422 : Fld Z h418 m "java/util/HashMap" "modCount" "I" (.int ((0 : Int32) + (1 : Int32))) := Mmod.same w419
  replace r420 : W h418 0 0 10 #[.val (.ref m), .unset, .unset] [] := r420
  have r423 : W h418 0 0 11 #[.val (.ref m), .unset, .unset] [(.ref m)] := (H.aloadN d33_10 r420 rfl rfl)
  have F424 := Fld.other w419 Mtab (Or.inr (slot_ne (a0 := a0) (C := "java/util/LinkedHashMap") (Or.inl (hw _ (List.mem_of_getElem? (i := 248) rfl))) (Or.inl (hw _ (List.mem_of_getElem? (i := 246) rfl))) (by decide) (t := (.array (.object "java/util/HashMap$Node"))) (t' := .int) (by decide +kernel) (by decide +kernel)))
  have r425 : W h418 0 0 14 #[.val (.ref m), .unset, .unset] [.null] := H.getF' (hw _ (List.mem_of_getElem? (i := 247) rfl)) F424 d33_11 r423
  have r426 : W h418 0 0 16 #[.val (.ref m), .val .null, .unset] [.null] := (H.astoreN d33_15 (H.dup d33_14 r425 rfl) rfl rfl)
  have r427 : W h418 0 0 49 #[.val (.ref m), .val .null, .unset] [] := (H.ifnullYes (pc' := 49) d33_16 r426 (by decide) (by decide))
  have F428 := Exa.wr w419 XM
  have F429 := Fld.other w419 Mhead (Or.inr (slot_ne (a0 := a0) (C := "java/util/LinkedHashMap") (Or.inl (hw _ (List.mem_of_getElem? (i := 221) rfl))) (Or.inl (hw _ (List.mem_of_getElem? (i := 246) rfl))) (by decide) (t := (.object "java/util/LinkedHashMap$Entry")) (t' := .int) (by decide +kernel) (by decide +kernel)))
  have F430 := Fld.other w419 Mtail (Or.inr (slot_ne (a0 := a0) (C := "java/util/LinkedHashMap") (Or.inl (hw _ (List.mem_of_getElem? (i := 250) rfl))) (Or.inl (hw _ (List.mem_of_getElem? (i := 246) rfl))) (by decide) (t := (.object "java/util/LinkedHashMap$Entry")) (t' := .int) (by decide +kernel) (by decide +kernel)))
  exact ⟨_, _, H.retN rfl (Nat.le_refl _) (Nat.le_refl _) d33_49 r427, rfl, ((Keep.refl _ _).wr w419 (Or.inl (List.mem_of_getElem? (i := 0) rfl))), F428, F429, F430⟩
set_option maxRecDepth 65536 in
set_option maxHeartbeats 40000000 in
theorem lc_ct {l : Launch} {Z : State} {a0 : Array Value} (hw : ∀ d ∈ tables_1, d.before a0 Z = true) (s m : Addr) (h0 : Heap) (n0 : Nat) (Z0 : n0 ≤ h0.size) (NM : n0 ≤ m) (S0 : own_set Z h0 s m) :
    Ct l Z (⟨"java/util/LinkedHashMap", "clear", "()V"⟩ : MethodName) jdk_94_method_22_code 1 none ({ frames := 1, cells := 0, slots := 0, locals := 14 } : Room) n0 #[(.ref m)] h0 (fun v h' => v = none ∧ Keep h0 h' [m]) := by
  refine Ct.of (plainFor_of_name pn_5) (fun mI => ef_lc m mI) ?_
  intro W V H r0
  obtain ⟨XS, FM, XM, Msize, Mmod, Mtab, Mhead, Mtail⟩ := id S0
  have r431 : W h0 0 0 1 #[.val (.ref m)] [(.ref m)] := (H.aloadN d32_0 r0 rfl rfl)
  obtain ⟨_, hc1, ⟨rfl, K1, X1, G1, G2⟩, r432⟩ := H.superC (w := 0) (argsL := []) (rest := []) (hw _ (List.mem_of_getElem? (i := 242) rfl)) (hw _ (List.mem_of_getElem? (i := 237) rfl)) (Or.inl ⟨_, _, (hw _ (List.mem_of_getElem? (i := 203) rfl)), rfl⟩) (hw _ (List.mem_of_getElem? (i := 238) rfl)) (hw _ (List.mem_of_getElem? (i := 243) rfl)) (hw _ (List.mem_of_getElem? (i := 47) rfl)) (hw _ (List.mem_of_getElem? (i := 244) rfl)) (by decide) (by decide) pd_0 (by decide) (by decide) (by decide) (by decide) XM (hc_ct hw s m h0 n0 Z0 NM S0) rfl rfl (Nat.le_of_eq rfl) rfl d32_1 r431
  have Z433 : n0 ≤ hc1.size := Nat.le_trans Z0 K1.1
  replace r432 : W hc1 0 0 4 #[.val (.ref m)] [] := r432
  have r434 : W hc1 0 0 8 #[.val (.ref m)] [.null, (.ref m), .null, (.ref m)] := (H.dupX1 d32_7 (H.aconstNull d32_6 (H.aloadN d32_5 (H.aloadN d32_4 r432 rfl rfl) rfl rfl)) rfl rfl)
  obtain ⟨h435, w436, r437⟩ := H.putF (ty := (.object "java/util/LinkedHashMap$Entry")) (host := "") (Or.inl (hw _ (List.mem_of_getElem? (i := 249) rfl))) Via.refl G2 X1 (Or.inl (hw _ (List.mem_of_getElem? (i := 250) rfl))) (hw _ (List.mem_of_getElem? (i := 37) rfl)) (by decide +kernel) rfl rfl NM d32_8 r434
  have Z438 : n0 ≤ h435.size := by rw [w436.size]; exact Z433
  have G439 : Fld Z h435 m "java/util/LinkedHashMap" "tail" "Ljava/util/LinkedHashMap$Entry;" .null := G2.same w436
  replace r437 : W h435 0 0 11 #[.val (.ref m)] [.null, (.ref m)] := r437
  have F440 := Fld.other w436 G1 (Or.inr (slot_ne (a0 := a0) (C := "java/util/LinkedHashMap") (Or.inl (hw _ (List.mem_of_getElem? (i := 221) rfl))) (Or.inl (hw _ (List.mem_of_getElem? (i := 250) rfl))) (by decide) (t := (.object "java/util/LinkedHashMap$Entry")) (t' := (.object "java/util/LinkedHashMap$Entry")) (by decide +kernel) (by decide +kernel)))
  have F441 := Exa.wr w436 X1
  obtain ⟨h442, w443, r444⟩ := H.putF (ty := (.object "java/util/LinkedHashMap$Entry")) (host := "") (Or.inl (hw _ (List.mem_of_getElem? (i := 220) rfl))) Via.refl F440 F441 (Or.inl (hw _ (List.mem_of_getElem? (i := 221) rfl))) (hw _ (List.mem_of_getElem? (i := 37) rfl)) (by decide +kernel) rfl rfl NM d32_11 r437
  have Z445 : n0 ≤ h442.size := by rw [w443.size]; exact Z438
  have G446 : Fld Z h442 m "java/util/LinkedHashMap" "head" "Ljava/util/LinkedHashMap$Entry;" .null := F440.same w443
  replace r444 : W h442 0 0 14 #[.val (.ref m)] [] := r444
  exact ⟨_, _, H.retN rfl (Nat.le_refl _) (Nat.le_refl _) d32_14 r444, rfl, ((((Keep.refl _ _).trans K1 (allS (Or.inl (List.mem_of_getElem? (i := 0) rfl)) all0)).wr w436 (Or.inl (List.mem_of_getElem? (i := 0) rfl))).wr w443 (Or.inl (List.mem_of_getElem? (i := 0) rfl)))⟩
set_option maxRecDepth 65536 in
set_option maxHeartbeats 40000000 in
theorem sc_ct {l : Launch} {Z : State} {a0 : Array Value} (hw : ∀ d ∈ tables_1, d.before a0 Z = true) (s m : Addr) (h0 : Heap) (n0 : Nat) (Z0 : n0 ≤ h0.size) (NM : n0 ≤ m) (S0 : own_set Z h0 s m) :
    Ct l Z (⟨"java/util/HashSet", "clear", "()V"⟩ : MethodName) jdk_93_method_12_code 1 none ({ frames := 2, cells := 0, slots := 0, locals := 26 } : Room) n0 #[(.ref s)] h0 (fun v h' => v = none ∧ Keep h0 h' [m]) := by
  refine Ct.of (plainFor_of_name pn_6) (fun mI => ef_sc s mI) ?_
  intro W V H r0
  obtain ⟨XS, FM, XM, Msize, Mmod, Mtab, Mhead, Mtail⟩ := id S0
  have r447 : W h0 0 0 1 #[.val (.ref s)] [(.ref s)] := (H.aloadN d31_0 r0 rfl rfl)
  have r448 : W h0 0 0 4 #[.val (.ref s)] [(.ref m)] := H.getF' (hw _ (List.mem_of_getElem? (i := 77) rfl)) FM d31_1 r447
  obtain ⟨_, hc1, ⟨rfl, K1⟩, r449⟩ := H.callV (w := 0) (argsL := []) (rest := []) (hw _ (List.mem_of_getElem? (i := 236) rfl)) (hw _ (List.mem_of_getElem? (i := 237) rfl)) (Or.inl ⟨_, _, (hw _ (List.mem_of_getElem? (i := 203) rfl)), rfl⟩) (hw _ (List.mem_of_getElem? (i := 239) rfl)) (hw _ (List.mem_of_getElem? (i := 240) rfl)) (hw _ (List.mem_of_getElem? (i := 38) rfl)) (hw _ (List.mem_of_getElem? (i := 241) rfl)) (by decide) pd_0 (by decide) (by decide) (by decide) (by decide) XM (lc_ct hw s m h0 n0 Z0 NM S0) rfl rfl (Nat.le_of_eq rfl) rfl d31_4 r448
  have Z450 : n0 ≤ hc1.size := Nat.le_trans Z0 K1.1
  replace r449 : W hc1 0 0 7 #[.val (.ref s)] [] := r449
  exact ⟨_, _, H.retN rfl (Nat.le_refl _) (Nat.le_refl _) d31_7 r449, rfl, K1⟩
set_option maxRecDepth 65536 in
set_option maxHeartbeats 40000000 in
theorem ma_ct {l : Launch} {Z : State} {a0 : Array Value} (hw : ∀ d ∈ tables_1, d.before a0 Z = true) (a s m mg : Addr) (ans : Value) (tm : Int64) (da : Addr) (S3 : Sta Z Z.heap "java/util/ArrayList" "EMPTY_ELEMENTDATA" "[Ljava/lang/Object;" (.ref da)) (h0 : Heap) (n0 : Nat) (Z0 : n0 ≤ h0.size) (N0 : n0 ≤ a) (NM : n0 ≤ m) (nsa : s ≠ a) (nma : m ≠ a) (O0 : Old Z n0 h0) (J0 : own_job Z h0 a ans s) (S0 : own_set Z h0 s m) :
    Ct l Z (⟨"com/example/lively_broker/livelybroker/broker/Job", "markAnswered", "(Lcom/example/lively_broker/livelybroker/wire/Message;J)Ljava/util/List;"⟩ : MethodName) prog_1_method_12_code 5 (some (.object "java/util/List")) ({ frames := 4, cells := 2, slots := 3, locals := 60 } : Room) n0 #[(.ref a), (.ref mg), (.long tm)] h0 (fun v h' => (∃ b : Addr, v = some (.ref b)) ∧ Keep h0 h' [a, m] ∧ own_job Z h' a (.ref mg) s) := by
  refine Ct.of (plainFor_of_name pn_8) (fun mI => ef_ma a mg tm mI) ?_
  intro W V H r0
  obtain ⟨X0, Fans, Fcl, ⟨vat, Fat⟩, ⟨vpl, Fpl⟩, ⟨vtb, Ftb⟩, ⟨vpd, Fpd⟩, vlw, Flw⟩ := J0
  have r451 : W h0 0 0 2 #[.val (.ref a), .val (.ref mg), .val (.long tm), .second, .unset] [(.ref mg), (.ref a)] := (H.aloadN d24_1 (H.aloadN d24_0 r0 rfl rfl) rfl rfl)
  obtain ⟨h452, w453, r454⟩ := H.putF (ty := (.object "com/example/lively_broker/livelybroker/wire/Message")) (host := "") (Or.inl (hw _ (List.mem_of_getElem? (i := 94) rfl))) Via.refl Fans X0 (Or.inl (hw _ (List.mem_of_getElem? (i := 95) rfl))) (hw _ (List.mem_of_getElem? (i := 2) rfl)) (by decide +kernel) rfl rfl N0 d24_2 r451
  have Z455 : n0 ≤ h452.size := by rw [w453.size]; exact Z0
  have Y456 : h0.size ≤ h452.size := by rw [w453.size]; exact (Nat.le_refl _)
  have G457 : Fld Z h452 a "com/example/lively_broker/livelybroker/broker/Job" "answer" "Lcom/example/lively_broker/livelybroker/wire/Message;" (.ref mg) := Fans.same w453
  replace r454 : W h452 0 0 5 #[.val (.ref a), .val (.ref mg), .val (.long tm), .second, .unset] [] := r454
  have r458 : W h452 0 0 7 #[.val (.ref a), .val (.ref mg), .val (.long tm), .second, .unset] [(.long tm), (.ref a)] := (H.lloadN d24_6 (H.aloadN d24_5 r454 rfl rfl) rfl)
  have F459 := Fld.other w453 Fat (Or.inr (slot_ne (a0 := a0) (C := "com/example/lively_broker/livelybroker/broker/Job") (Or.inl (hw _ (List.mem_of_getElem? (i := 174) rfl))) (Or.inl (hw _ (List.mem_of_getElem? (i := 95) rfl))) (by decide) (t := .long) (t' := (.object "com/example/lively_broker/livelybroker/wire/Message")) (by decide +kernel) (by decide +kernel)))
  have F460 := Exa.wr w453 X0
  obtain ⟨h461, w462, r463⟩ := H.putF (ty := .long) (host := "") (Or.inl (hw _ (List.mem_of_getElem? (i := 173) rfl))) Via.refl F459 F460 (Or.inl (hw _ (List.mem_of_getElem? (i := 174) rfl))) (hw _ (List.mem_of_getElem? (i := 2) rfl)) (by decide +kernel) rfl rfl N0 d24_7 r458
  have Z464 : n0 ≤ h461.size := by rw [w462.size]; exact Z455
  have Y465 : h0.size ≤ h461.size := by rw [w462.size]; exact Y456
  have G466 : Fld Z h461 a "com/example/lively_broker/livelybroker/broker/Job" "answeredAt" "J" (.long tm) := F459.same w462
  replace r463 : W h461 0 0 10 #[.val (.ref a), .val (.ref mg), .val (.long tm), .second, .unset] [] := r463
  have r467 : W h461 0 0 12 #[.val (.ref a), .val (.ref mg), .val (.long tm), .second, .unset] [.null, (.ref a)] := (H.aconstNull d24_11 (H.aloadN d24_10 r463 rfl rfl))
  have F468 := Fld.other w453 Fpl (Or.inr (slot_ne (a0 := a0) (C := "com/example/lively_broker/livelybroker/broker/Job") (Or.inl (hw _ (List.mem_of_getElem? (i := 84) rfl))) (Or.inl (hw _ (List.mem_of_getElem? (i := 95) rfl))) (by decide) (t := (.array .byte)) (t' := (.object "com/example/lively_broker/livelybroker/wire/Message")) (by decide +kernel) (by decide +kernel)))
  have F469 := Fld.other w462 F468 (Or.inr (slot_ne (a0 := a0) (C := "com/example/lively_broker/livelybroker/broker/Job") (Or.inl (hw _ (List.mem_of_getElem? (i := 84) rfl))) (Or.inl (hw _ (List.mem_of_getElem? (i := 174) rfl))) (by decide) (t := (.array .byte)) (t' := .long) (by decide +kernel) (by decide +kernel)))
  have F470 := Exa.wr w462 F460
  obtain ⟨h471, w472, r473⟩ := H.putF (ty := (.array .byte)) (host := "") (Or.inl (hw _ (List.mem_of_getElem? (i := 83) rfl))) Via.refl F469 F470 (Or.inl (hw _ (List.mem_of_getElem? (i := 84) rfl))) (hw _ (List.mem_of_getElem? (i := 2) rfl)) (by decide +kernel) rfl rfl N0 d24_12 r467
  have Z474 : n0 ≤ h471.size := by rw [w472.size]; exact Z464
  have Y475 : h0.size ≤ h471.size := by rw [w472.size]; exact Y465
  have G476 : Fld Z h471 a "com/example/lively_broker/livelybroker/broker/Job" "payload" "[B" .null := F469.same w472
  replace r473 : W h471 0 0 15 #[.val (.ref a), .val (.ref mg), .val (.long tm), .second, .unset] [] := r473
  have S1 : own_set Z h471 s m := S0.keep (ws := [a]) ((((Keep.refl _ _).wr w453 (Or.inl (List.mem_of_getElem? (i := 0) rfl))).wr w462 (Or.inl (List.mem_of_getElem? (i := 0) rfl))).wr w472 (Or.inl (List.mem_of_getElem? (i := 0) rfl))) (ninS nsa nin0) (ninS nma nin0)
  have F477 := Exa.wr w472 F470
  have F478 := Fld.other w462 G457 (Or.inr (slot_ne (a0 := a0) (C := "com/example/lively_broker/livelybroker/broker/Job") (Or.inl (hw _ (List.mem_of_getElem? (i := 95) rfl))) (Or.inl (hw _ (List.mem_of_getElem? (i := 174) rfl))) (by decide) (t := (.object "com/example/lively_broker/livelybroker/wire/Message")) (t' := .long) (by decide +kernel) (by decide +kernel)))
  have F479 := Fld.other w472 F478 (Or.inr (slot_ne (a0 := a0) (C := "com/example/lively_broker/livelybroker/broker/Job") (Or.inl (hw _ (List.mem_of_getElem? (i := 95) rfl))) (Or.inl (hw _ (List.mem_of_getElem? (i := 84) rfl))) (by decide) (t := (.object "com/example/lively_broker/livelybroker/wire/Message")) (t' := (.array .byte)) (by decide +kernel) (by decide +kernel)))
  have F480 := Fld.other w453 Fcl (Or.inr (slot_ne (a0 := a0) (C := "com/example/lively_broker/livelybroker/broker/Job") (Or.inr (hw _ (List.mem_of_getElem? (i := 80) rfl))) (Or.inl (hw _ (List.mem_of_getElem? (i := 95) rfl))) (by decide) (t := (.object "java/util/Set")) (t' := (.object "com/example/lively_broker/livelybroker/wire/Message")) (by decide +kernel) (by decide +kernel)))
  have F481 := Fld.other w462 F480 (Or.inr (slot_ne (a0 := a0) (C := "com/example/lively_broker/livelybroker/broker/Job") (Or.inr (hw _ (List.mem_of_getElem? (i := 80) rfl))) (Or.inl (hw _ (List.mem_of_getElem? (i := 174) rfl))) (by decide) (t := (.object "java/util/Set")) (t' := .long) (by decide +kernel) (by decide +kernel)))
  have F482 := Fld.other w472 F481 (Or.inr (slot_ne (a0 := a0) (C := "com/example/lively_broker/livelybroker/broker/Job") (Or.inr (hw _ (List.mem_of_getElem? (i := 80) rfl))) (Or.inl (hw _ (List.mem_of_getElem? (i := 84) rfl))) (by decide) (t := (.object "java/util/Set")) (t' := (.array .byte)) (by decide +kernel) (by decide +kernel)))
  have F483 := Fld.other w472 G466 (Or.inr (slot_ne (a0 := a0) (C := "com/example/lively_broker/livelybroker/broker/Job") (Or.inl (hw _ (List.mem_of_getElem? (i := 174) rfl))) (Or.inl (hw _ (List.mem_of_getElem? (i := 84) rfl))) (by decide) (t := .long) (t' := (.array .byte)) (by decide +kernel) (by decide +kernel)))
  have F484 := Fld.other w453 Ftb (Or.inr (slot_ne (a0 := a0) (C := "com/example/lively_broker/livelybroker/broker/Job") (Or.inl (hw _ (List.mem_of_getElem? (i := 109) rfl))) (Or.inl (hw _ (List.mem_of_getElem? (i := 95) rfl))) (by decide) (t := .boolean) (t' := (.object "com/example/lively_broker/livelybroker/wire/Message")) (by decide +kernel) (by decide +kernel)))
  have F485 := Fld.other w462 F484 (Or.inr (slot_ne (a0 := a0) (C := "com/example/lively_broker/livelybroker/broker/Job") (Or.inl (hw _ (List.mem_of_getElem? (i := 109) rfl))) (Or.inl (hw _ (List.mem_of_getElem? (i := 174) rfl))) (by decide) (t := .boolean) (t' := .long) (by decide +kernel) (by decide +kernel)))
  have F486 := Fld.other w472 F485 (Or.inr (slot_ne (a0 := a0) (C := "com/example/lively_broker/livelybroker/broker/Job") (Or.inl (hw _ (List.mem_of_getElem? (i := 109) rfl))) (Or.inl (hw _ (List.mem_of_getElem? (i := 84) rfl))) (by decide) (t := .boolean) (t' := (.array .byte)) (by decide +kernel) (by decide +kernel)))
  have F487 := Fld.other w453 Fpd (Or.inr (slot_ne (a0 := a0) (C := "com/example/lively_broker/livelybroker/broker/Job") (Or.inl (hw _ (List.mem_of_getElem? (i := 116) rfl))) (Or.inl (hw _ (List.mem_of_getElem? (i := 95) rfl))) (by decide) (t := .boolean) (t' := (.object "com/example/lively_broker/livelybroker/wire/Message")) (by decide +kernel) (by decide +kernel)))
  have F488 := Fld.other w462 F487 (Or.inr (slot_ne (a0 := a0) (C := "com/example/lively_broker/livelybroker/broker/Job") (Or.inl (hw _ (List.mem_of_getElem? (i := 116) rfl))) (Or.inl (hw _ (List.mem_of_getElem? (i := 174) rfl))) (by decide) (t := .boolean) (t' := .long) (by decide +kernel) (by decide +kernel)))
  have F489 := Fld.other w472 F488 (Or.inr (slot_ne (a0 := a0) (C := "com/example/lively_broker/livelybroker/broker/Job") (Or.inl (hw _ (List.mem_of_getElem? (i := 116) rfl))) (Or.inl (hw _ (List.mem_of_getElem? (i := 84) rfl))) (by decide) (t := .boolean) (t' := (.array .byte)) (by decide +kernel) (by decide +kernel)))
  have F490 := Fld.other w453 Flw (Or.inr (slot_ne (a0 := a0) (C := "com/example/lively_broker/livelybroker/broker/Job") (Or.inl (hw _ (List.mem_of_getElem? (i := 102) rfl))) (Or.inl (hw _ (List.mem_of_getElem? (i := 95) rfl))) (by decide) (t := .int) (t' := (.object "com/example/lively_broker/livelybroker/wire/Message")) (by decide +kernel) (by decide +kernel)))
  have F491 := Fld.other w462 F490 (Or.inr (slot_ne (a0 := a0) (C := "com/example/lively_broker/livelybroker/broker/Job") (Or.inl (hw _ (List.mem_of_getElem? (i := 102) rfl))) (Or.inl (hw _ (List.mem_of_getElem? (i := 174) rfl))) (by decide) (t := .int) (t' := .long) (by decide +kernel) (by decide +kernel)))
  have F492 := Fld.other w472 F491 (Or.inr (slot_ne (a0 := a0) (C := "com/example/lively_broker/livelybroker/broker/Job") (Or.inl (hw _ (List.mem_of_getElem? (i := 102) rfl))) (Or.inl (hw _ (List.mem_of_getElem? (i := 84) rfl))) (by decide) (t := .int) (t' := (.array .byte)) (by decide +kernel) (by decide +kernel)))
  obtain ⟨h493, b, ea494, E495, X496, D497, U498, r499⟩ := H.newO (hw _ (List.mem_of_getElem? (i := 175) rfl)) (hw _ (List.mem_of_getElem? (i := 176) rfl)) (hw _ (List.mem_of_getElem? (i := 177) rfl)) (by decide) (by decide) d24_15 r473
  have ne500 : a ≠ b := Nat.ne_of_lt (by rw [ea494]; exact F477.lt)
  have ne501 : s ≠ b := Nat.ne_of_lt (by rw [ea494]; exact S1.1.lt)
  have ne502 : m ≠ b := Nat.ne_of_lt (by rw [ea494]; exact S1.2.2.1.lt)
  have N503 : n0 ≤ b := by rw [ea494]; exact Z474
  have Y504 : h0.size ≤ b := by rw [ea494]; exact Y475
  have Z505 : n0 ≤ h493.size := Nat.le_trans Z474 E495.1
  have Y506 : h0.size ≤ h493.size := Nat.le_trans Y475 E495.1
  have G507 : Fld Z h493 b "java/util/AbstractList" "modCount" "I" (.int 0) := D497 (ty := .int) (Or.inl (hw _ (List.mem_of_getElem? (i := 190) rfl))) (by decide +kernel)
  have G508 : Fld Z h493 b "java/util/ArrayList" "size" "I" (.int 0) := D497 (ty := .int) (Or.inl (hw _ (List.mem_of_getElem? (i := 223) rfl))) (by decide +kernel)
  have G509 : Fld Z h493 b "java/util/ArrayList" "elementData" "[Ljava/lang/Object;" (.null) := D497 (ty := (.array (.object "java/lang/Object"))) (Or.inl (hw _ (List.mem_of_getElem? (i := 226) rfl))) (by decide +kernel)
  replace r499 : W h493 1 3 18 #[.val (.ref a), .val (.ref mg), .val (.long tm), .second, .unset] [(.ref b)] := r499
  have S2 : own_set Z h493 s m := S1.keep (ws := []) ((Keep.refl _ _).ext E495) nin0 nin0
  have r510 : W h493 1 3 20 #[.val (.ref a), .val (.ref mg), .val (.long tm), .second, .unset] [(.ref a), (.ref b), (.ref b)] := (H.aloadN d24_19 (H.dup d24_18 r499 rfl) rfl rfl)
  have F511 := Fld.ext E495 F482
  have r512 : W h493 1 3 23 #[.val (.ref a), .val (.ref mg), .val (.long tm), .second, .unset] [(.ref s), (.ref b), (.ref b)] := H.getF' (hw _ (List.mem_of_getElem? (i := 79) rfl)) F511 d24_20 r510
  have F513 := O0.wr w453 N0
  have F514 := F513.wr w462 N0
  have F515 := F514.wr w472 N0
  have F516 := F515.ext E495
  obtain ⟨_, hc1, ⟨rfl, K1⟩, r517⟩ := H.callI (w := 1) (argsL := [(.ref s)]) (rest := [(.ref b)]) rfl (hw _ (List.mem_of_getElem? (i := 178) rfl)) (hw _ (List.mem_of_getElem? (i := 179) rfl)) (hw _ (List.mem_of_getElem? (i := 177) rfl)) (hw _ (List.mem_of_getElem? (i := 180) rfl)) (by decide) pd_9 (by decide) (by decide) (by decide) (by decide) (alc_ct hw b s m da S3 h493 n0 Z505 N503 X496 G507 G508 G509 F516 S2 ne501 ne502) rfl rfl (Nat.le_of_eq rfl) rfl d24_23 r512
  have Z518 : n0 ≤ hc1.size := Nat.le_trans Z505 K1.1
  have Y519 : h0.size ≤ hc1.size := Nat.le_trans Y506 K1.1
  replace r517 : W hc1 2 3 26 #[.val (.ref a), .val (.ref mg), .val (.long tm), .second, .unset] [(.ref b)] := r517
  have S3x : own_set Z hc1 s m := S2.keep K1 (ninS ne501 nin0) (ninS ne502 nin0)
  have r520 : W hc1 2 3 28 #[.val (.ref a), .val (.ref mg), .val (.long tm), .second, .val (.ref b)] [] := (H.astore d24_26 r517 rfl rfl)
  have r521 : W hc1 2 3 29 #[.val (.ref a), .val (.ref mg), .val (.long tm), .second, .val (.ref b)] [(.ref a)] := (H.aloadN d24_28 r520 rfl rfl)
  have F522 := F511.keep K1 (ninS ne500 nin0)
  have r523 : W hc1 2 3 32 #[.val (.ref a), .val (.ref mg), .val (.long tm), .second, .val (.ref b)] [(.ref s)] := H.getF' (hw _ (List.mem_of_getElem? (i := 79) rfl)) F522 d24_29 r521
  have F524 := Exa.ext E495 S1.1
  have F525 := F524.keep K1
  obtain ⟨_, hc2, ⟨rfl, K2⟩, r526⟩ := H.callF (w := 0) (argsL := []) (rest := []) (hw _ (List.mem_of_getElem? (i := 227) rfl)) (hw _ (List.mem_of_getElem? (i := 228) rfl)) (hw _ (List.mem_of_getElem? (i := 229) rfl)) (hw _ (List.mem_of_getElem? (i := 230) rfl)) (hw _ (List.mem_of_getElem? (i := 231) rfl)) (hw _ (List.mem_of_getElem? (i := 232) rfl)) (hw _ (List.mem_of_getElem? (i := 233) rfl)) (hw _ (List.mem_of_getElem? (i := 234) rfl)) (hw _ (List.mem_of_getElem? (i := 21) rfl)) (hw _ (List.mem_of_getElem? (i := 235) rfl)) (by decide) pd_0 (by decide) (by decide) (by decide) (by decide) F525 (sc_ct hw s m hc1 n0 Z518 NM S3x) rfl rfl (Nat.le_of_eq rfl) rfl d24_32 r523
  have Z527 : n0 ≤ hc2.size := Nat.le_trans Z518 K2.1
  have Y528 : h0.size ≤ hc2.size := Nat.le_trans Y519 K2.1
  replace r526 : W hc2 2 3 37 #[.val (.ref a), .val (.ref mg), .val (.long tm), .second, .val (.ref b)] [] := r526
  have r529 : W hc2 2 3 39 #[.val (.ref a), .val (.ref mg), .val (.long tm), .second, .val (.ref b)] [(.ref b)] := (H.aload d24_37 r526 rfl rfl)
  have F530 := Exa.ext E495 F477
  have F531 := F530.keep K1
  have F532 := F531.keep K2
  have F533 := Fld.ext E495 F479
  have F534 := F533.keep K1 (ninS ne500 nin0)
  have F535 := F534.keep K2 (ninS (Ne.symm nma) nin0)
  have F536 := F522.keep K2 (ninS (Ne.symm nma) nin0)
  have F537 := Fld.ext E495 F483
  have F538 := F537.keep K1 (ninS ne500 nin0)
  have F539 := F538.keep K2 (ninS (Ne.symm nma) nin0)
  have F540 := Fld.ext E495 G476
  have F541 := F540.keep K1 (ninS ne500 nin0)
  have F542 := F541.keep K2 (ninS (Ne.symm nma) nin0)
  have F543 := Fld.ext E495 F486
  have F544 := F543.keep K1 (ninS ne500 nin0)
  have F545 := F544.keep K2 (ninS (Ne.symm nma) nin0)
  have F546 := Fld.ext E495 F489
  have F547 := F546.keep K1 (ninS ne500 nin0)
  have F548 := F547.keep K2 (ninS (Ne.symm nma) nin0)
  have F549 := Fld.ext E495 F492
  have F550 := F549.keep K1 (ninS ne500 nin0)
  have F551 := F550.keep K2 (ninS (Ne.symm nma) nin0)
  exact ⟨_, _, H.retR rfl rfl rfl (by decide) (by decide) d24_39 r529, ⟨_, rfl⟩, (((((((Keep.refl _ _).wr w453 (Or.inl (List.mem_of_getElem? (i := 0) rfl))).wr w462 (Or.inl (List.mem_of_getElem? (i := 0) rfl))).wr w472 (Or.inl (List.mem_of_getElem? (i := 0) rfl))).ext E495).trans K1 (allS (Or.inr Y504) all0)).trans K2 (allS (Or.inl (List.mem_of_getElem? (i := 1) rfl)) all0)), ⟨F532, F535, F536, ⟨_, F539⟩, ⟨_, F542⟩, ⟨_, F545⟩, ⟨_, F548⟩, _, F551⟩⟩
set_option maxRecDepth 65536 in
set_option maxHeartbeats 40000000 in
theorem rq_ct {l : Launch} {Z : State} {a0 : Array Value} (hw : ∀ d ∈ tables_1, d.before a0 Z = true) (o st : Addr) (h0 : Heap) (n0 : Nat) :
    Ct l Z (⟨"java/util/Objects", "requireNonNull", "(Ljava/lang/Object;Ljava/lang/String;)Ljava/lang/Object;"⟩ : MethodName) jdk_31_method_11_code 2 (some (.object "java/lang/Object")) ({ frames := 0, cells := 0, slots := 0, locals := 0 } : Room) n0 #[(.ref o), (.ref st)] h0 (fun v h' => v = some (.ref o) ∧ h' = h0) := by
  refine Ct.of (plainFor_of_name pn_11) (fun mI => ef_rq o st mI) ?_
  intro W V H r0
  have r552 : W h0 0 0 1 #[.val (.ref o), .val (.ref st)] [(.ref o)] := (H.aloadN d19_0 r0 rfl rfl)
  have r553 : W h0 0 0 13 #[.val (.ref o), .val (.ref st)] [] := (H.ifnonnullYes (pc' := 13) d19_1 r552 (by decide) (by decide))
  have r554 : W h0 0 0 14 #[.val (.ref o), .val (.ref st)] [(.ref o)] := (H.aloadN d19_13 r553 rfl rfl)
  exact ⟨_, _, H.retR rfl rfl rfl (Nat.le_refl _) (Nat.le_refl _) d19_14 r554, rfl, rfl⟩
set_option maxRecDepth 65536 in
set_option maxHeartbeats 40000000 in
theorem ij_ct {l : Launch} {Z : State} {a0 : Array Value} (hw : ∀ d ∈ tables_1, d.before a0 Z = true) (b : Addr) (u : Value) (h0 : Heap) (n0 : Nat) (B0 : Ary Z h0 b .byte [u]) :
    Ct l Z (⟨"com/example/lively_broker/livelybroker/wire/Message", "isJobId", "([B)Z"⟩ : MethodName) prog_15_method_24_code 1 (some .boolean) ({ frames := 0, cells := 0, slots := 0, locals := 0 } : Room) n0 #[(.ref b)] h0 (fun v h' => v = some (.int (1 : Int32)) ∧ h' = h0) := by
  refine Ct.of (plainFor_of_name pn_12) (fun mI => ef_ij b mI) ?_
  intro W V H r0
  have r555 : W h0 0 0 1 #[.val (.ref b)] [(.ref b)] := (H.aloadN d22_0 r0 rfl rfl)
  have r556 : W h0 0 0 2 #[.val (.ref b)] [(.int (1 : Int32))] := H.lenA (z := (1 : Int32)) B0 rfl d22_1 r555
  have r557 : W h0 0 0 6 #[.val (.ref b)] [] := (H.icmpNo d22_3 (H.iconst (z := (1 : Int32)) d22_2 r556 rfl) (flt (by decide)).1)
  have r558 : W h0 0 0 7 #[.val (.ref b)] [(.ref b)] := (H.aloadN d22_6 r557 rfl rfl)
  have r559 : W h0 0 0 8 #[.val (.ref b)] [(.int (1 : Int32))] := H.lenA (z := (1 : Int32)) B0 rfl d22_7 r558
  have r560 : W h0 0 0 14 #[.val (.ref b)] [] := (H.icmpNo d22_11 (H.sipush (z := (255 : Int32)) d22_8 r559 rfl) (flt (by decide)).2.2.1)
  have r561 : W h0 0 0 19 #[.val (.ref b)] [(.int (1 : Int32))] := (H.goto (pc' := 19) d22_15 (H.iconst (z := (1 : Int32)) d22_14 r560 rfl) (by decide) (by decide))
  exact ⟨_, _, H.retZ rfl rfl (Nat.le_refl _) (Nat.le_refl _) d22_19 r561, rfl, rfl⟩
set_option maxRecDepth 65536 in
set_option maxHeartbeats 40000000 in
theorem cj_ct {l : Launch} {Z : State} {a0 : Array Value} (hw : ∀ d ∈ tables_1, d.before a0 Z = true) (b : Addr) (u : Value) (h0 : Heap) (n0 : Nat) (B0 : Ary Z h0 b .byte [u]) :
    Ct l Z (⟨"com/example/lively_broker/livelybroker/wire/Message", "checkJobId", "([B)V"⟩ : MethodName) prog_15_method_13_code 1 none ({ frames := 1, cells := 0, slots := 0, locals := 12 } : Room) n0 #[(.ref b)] h0 (fun v h' => v = none ∧ h' = h0) := by
  refine Ct.of (plainFor_of_name pn_12) (fun mI => ef_cj b mI) ?_
  intro W V H r0
  have r562 : W h0 0 0 1 #[.val (.ref b)] [(.ref b)] := (H.aloadN d21_0 r0 rfl rfl)
  have r563 : W h0 0 0 4 #[.val (.ref b)] [(.int (1 : Int32))] := H.callSP (w := 0) (argsL := [(.ref b)]) (rest := []) (hw _ (List.mem_of_getElem? (i := 149) rfl)) (hw _ (List.mem_of_getElem? (i := 150) rfl)) (hw _ (List.mem_of_getElem? (i := 124) rfl)) (hw _ (List.mem_of_getElem? (i := 151) rfl)) (by decide) pd_10 (by decide) (by decide) (by decide) (by decide) (ij_ct hw b u h0 n0 B0) rfl rfl (Nat.le_of_eq rfl) rfl d21_1 r562
  have r564 : W h0 0 0 19 #[.val (.ref b)] [] := (H.ifYes (pc' := 19) d21_4 r563 (by decide) (by decide) (feq (by decide)).2)
  exact ⟨_, _, H.retN rfl (Nat.le_refl _) (Nat.le_refl _) d21_19 r564, rfl, rfl⟩
set_option maxRecDepth 65536 in
set_option maxHeartbeats 40000000 in
theorem miN_ct {l : Launch} {Z : State} {a0 : Array Value} (hw : ∀ d ∈ tables_1, d.before a0 Z = true) (g cm jd bd : Addr) (h0 : Heap) (n0 : Nat) (Z0 : n0 ≤ h0.size) (N0 : n0 ≤ g) (X0 : Exa Z h0 g "com/example/lively_broker/livelybroker/wire/Message") (F1 : Fld Z h0 g "com/example/lively_broker/livelybroker/wire/Message" "command" "Lcom/example/lively_broker/livelybroker/wire/Command;" .null) (F2 : Fld Z h0 g "com/example/lively_broker/livelybroker/wire/Message" "jobId" "[B" .null) (F3 : Fld Z h0 g "com/example/lively_broker/livelybroker/wire/Message" "state" "Lcom/example/lively_broker/livelybroker/wire/WorkerState;" .null) (F4 : Fld Z h0 g "com/example/lively_broker/livelybroker/wire/Message" "reason" "Lcom/example/lively_broker/livelybroker/wire/FailureReason;" .null) (F5 : Fld Z h0 g "com/example/lively_broker/livelybroker/wire/Message" "body" "[B" .null) :
    Ct l Z (⟨"com/example/lively_broker/livelybroker/wire/Message", "<init>", "(Lcom/example/lively_broker/livelybroker/wire/Command;[BLcom/example/lively_broker/livelybroker/wire/WorkerState;Lcom/example/lively_broker/livelybroker/wire/FailureReason;[B)V"⟩ : MethodName) prog_15_method_1_code 6 none ({ frames := 1, cells := 0, slots := 0, locals := 12 } : Room) n0 #[(.ref g), (.ref cm), (.ref jd), .null, .null, (.ref bd)] h0 (fun v h' => v = none ∧ Keep h0 h' [g]) := by
  refine Ct.of (plainFor_of_name pn_12) (fun mI => ef_miN g cm jd bd mI) ?_
  intro W V H r0
  have r565 : W h0 0 0 1 #[.val (.ref g), .val (.ref cm), .val (.ref jd), .val .null, .val .null, .val (.ref bd)] [(.ref g)] := (H.aloadN d23_0 r0 rfl rfl)
  have r566 : W h0 0 0 4 #[.val (.ref g), .val (.ref cm), .val (.ref jd), .val .null, .val .null, .val (.ref bd)] [] := H.initO (w := 0) (hw _ (List.mem_of_getElem? (i := 157) rfl)) (hw _ (List.mem_of_getElem? (i := 8) rfl)) (hw _ (List.mem_of_getElem? (i := 9) rfl)) rfl (by decide) (Nat.le_of_eq rfl) (by decide) d23_1 r565
  have r567 : W h0 0 0 6 #[.val (.ref g), .val (.ref cm), .val (.ref jd), .val .null, .val .null, .val (.ref bd)] [(.ref cm), (.ref g)] := (H.aloadN d23_5 (H.aloadN d23_4 r566 rfl rfl) rfl rfl)
  obtain ⟨h568, w569, r570⟩ := H.putF (ty := (.object "com/example/lively_broker/livelybroker/wire/Command")) (host := "") (Or.inl (hw _ (List.mem_of_getElem? (i := 158) rfl))) Via.refl F1 X0 (Or.inr ⟨(hw _ (List.mem_of_getElem? (i := 159) rfl)), rfl, rfl⟩) (hw _ (List.mem_of_getElem? (i := 153) rfl)) (by decide +kernel) rfl rfl N0 d23_6 r567
  have Z571 : n0 ≤ h568.size := by rw [w569.size]; exact Z0
  have G572 : Fld Z h568 g "com/example/lively_broker/livelybroker/wire/Message" "command" "Lcom/example/lively_broker/livelybroker/wire/Command;" (.ref cm) := F1.same w569
  replace r570 : W h568 0 0 9 #[.val (.ref g), .val (.ref cm), .val (.ref jd), .val .null, .val .null, .val (.ref bd)] [] := r570
  have r573 : W h568 0 0 11 #[.val (.ref g), .val (.ref cm), .val (.ref jd), .val .null, .val .null, .val (.ref bd)] [(.ref jd), (.ref g)] := (H.aloadN d23_10 (H.aloadN d23_9 r570 rfl rfl) rfl rfl)
  have F574 := Fld.other w569 F2 (Or.inr (slot_ne (a0 := a0) (C := "com/example/lively_broker/livelybroker/wire/Message") (Or.inr (hw _ (List.mem_of_getElem? (i := 161) rfl))) (Or.inr (hw _ (List.mem_of_getElem? (i := 159) rfl))) (by decide) (t := (.array .byte)) (t' := (.object "com/example/lively_broker/livelybroker/wire/Command")) (by decide +kernel) (by decide +kernel)))
  have F575 := Exa.wr w569 X0
  obtain ⟨h576, w577, r578⟩ := H.putF (ty := (.array .byte)) (host := "") (Or.inl (hw _ (List.mem_of_getElem? (i := 160) rfl))) Via.refl F574 F575 (Or.inr ⟨(hw _ (List.mem_of_getElem? (i := 161) rfl)), rfl, rfl⟩) (hw _ (List.mem_of_getElem? (i := 153) rfl)) (by decide +kernel) rfl rfl N0 d23_11 r573
  have Z579 : n0 ≤ h576.size := by rw [w577.size]; exact Z571
  have G580 : Fld Z h576 g "com/example/lively_broker/livelybroker/wire/Message" "jobId" "[B" (.ref jd) := F574.same w577
  replace r578 : W h576 0 0 14 #[.val (.ref g), .val (.ref cm), .val (.ref jd), .val .null, .val .null, .val (.ref bd)] [] := r578
  have r581 : W h576 0 0 16 #[.val (.ref g), .val (.ref cm), .val (.ref jd), .val .null, .val .null, .val (.ref bd)] [.null, (.ref g)] := (H.aloadN d23_15 (H.aloadN d23_14 r578 rfl rfl) rfl rfl)
  have F582 := Fld.other w569 F3 (Or.inr (slot_ne (a0 := a0) (C := "com/example/lively_broker/livelybroker/wire/Message") (Or.inr (hw _ (List.mem_of_getElem? (i := 163) rfl))) (Or.inr (hw _ (List.mem_of_getElem? (i := 159) rfl))) (by decide) (t := (.object "com/example/lively_broker/livelybroker/wire/WorkerState")) (t' := (.object "com/example/lively_broker/livelybroker/wire/Command")) (by decide +kernel) (by decide +kernel)))
  have F583 := Fld.other w577 F582 (Or.inr (slot_ne (a0 := a0) (C := "com/example/lively_broker/livelybroker/wire/Message") (Or.inr (hw _ (List.mem_of_getElem? (i := 163) rfl))) (Or.inr (hw _ (List.mem_of_getElem? (i := 161) rfl))) (by decide) (t := (.object "com/example/lively_broker/livelybroker/wire/WorkerState")) (t' := (.array .byte)) (by decide +kernel) (by decide +kernel)))
  have F584 := Exa.wr w577 F575
  obtain ⟨h585, w586, r587⟩ := H.putF (ty := (.object "com/example/lively_broker/livelybroker/wire/WorkerState")) (host := "") (Or.inl (hw _ (List.mem_of_getElem? (i := 162) rfl))) Via.refl F583 F584 (Or.inr ⟨(hw _ (List.mem_of_getElem? (i := 163) rfl)), rfl, rfl⟩) (hw _ (List.mem_of_getElem? (i := 153) rfl)) (by decide +kernel) rfl rfl N0 d23_16 r581
  have Z588 : n0 ≤ h585.size := by rw [w586.size]; exact Z579
  have G589 : Fld Z h585 g "com/example/lively_broker/livelybroker/wire/Message" "state" "Lcom/example/lively_broker/livelybroker/wire/WorkerState;" .null := F583.same w586
  replace r587 : W h585 0 0 19 #[.val (.ref g), .val (.ref cm), .val (.ref jd), .val .null, .val .null, .val (.ref bd)] [] := r587
  have r590 : W h585 0 0 22 #[.val (.ref g), .val (.ref cm), .val (.ref jd), .val .null, .val .null, .val (.ref bd)] [.null, (.ref g)] := (H.aload d23_20 (H.aloadN d23_19 r587 rfl rfl) rfl rfl)
  have F591 := Fld.other w569 F4 (Or.inr (slot_ne (a0 := a0) (C := "com/example/lively_broker/livelybroker/wire/Message") (Or.inr (hw _ (List.mem_of_getElem? (i := 165) rfl))) (Or.inr (hw _ (List.mem_of_getElem? (i := 159) rfl))) (by decide) (t := (.object "com/example/lively_broker/livelybroker/wire/FailureReason")) (t' := (.object "com/example/lively_broker/livelybroker/wire/Command")) (by decide +kernel) (by decide +kernel)))
  have F592 := Fld.other w577 F591 (Or.inr (slot_ne (a0 := a0) (C := "com/example/lively_broker/livelybroker/wire/Message") (Or.inr (hw _ (List.mem_of_getElem? (i := 165) rfl))) (Or.inr (hw _ (List.mem_of_getElem? (i := 161) rfl))) (by decide) (t := (.object "com/example/lively_broker/livelybroker/wire/FailureReason")) (t' := (.array .byte)) (by decide +kernel) (by decide +kernel)))
  have F593 := Fld.other w586 F592 (Or.inr (slot_ne (a0 := a0) (C := "com/example/lively_broker/livelybroker/wire/Message") (Or.inr (hw _ (List.mem_of_getElem? (i := 165) rfl))) (Or.inr (hw _ (List.mem_of_getElem? (i := 163) rfl))) (by decide) (t := (.object "com/example/lively_broker/livelybroker/wire/FailureReason")) (t' := (.object "com/example/lively_broker/livelybroker/wire/WorkerState")) (by decide +kernel) (by decide +kernel)))
  have F594 := Exa.wr w586 F584
  obtain ⟨h595, w596, r597⟩ := H.putF (ty := (.object "com/example/lively_broker/livelybroker/wire/FailureReason")) (host := "") (Or.inl (hw _ (List.mem_of_getElem? (i := 164) rfl))) Via.refl F593 F594 (Or.inr ⟨(hw _ (List.mem_of_getElem? (i := 165) rfl)), rfl, rfl⟩) (hw _ (List.mem_of_getElem? (i := 153) rfl)) (by decide +kernel) rfl rfl N0 d23_22 r590
  have Z598 : n0 ≤ h595.size := by rw [w596.size]; exact Z588
  have G599 : Fld Z h595 g "com/example/lively_broker/livelybroker/wire/Message" "reason" "Lcom/example/lively_broker/livelybroker/wire/FailureReason;" .null := F593.same w596
  replace r597 : W h595 0 0 25 #[.val (.ref g), .val (.ref cm), .val (.ref jd), .val .null, .val .null, .val (.ref bd)] [] := r597
  have r600 : W h595 0 0 28 #[.val (.ref g), .val (.ref cm), .val (.ref jd), .val .null, .val .null, .val (.ref bd)] [(.ref bd), (.ref g)] := (H.aload d23_26 (H.aloadN d23_25 r597 rfl rfl) rfl rfl)
  have F601 := Fld.other w569 F5 (Or.inr (slot_ne (a0 := a0) (C := "com/example/lively_broker/livelybroker/wire/Message") (Or.inr (hw _ (List.mem_of_getElem? (i := 167) rfl))) (Or.inr (hw _ (List.mem_of_getElem? (i := 159) rfl))) (by decide) (t := (.array .byte)) (t' := (.object "com/example/lively_broker/livelybroker/wire/Command")) (by decide +kernel) (by decide +kernel)))
  have F602 := Fld.other w577 F601 (Or.inr (slot_ne (a0 := a0) (C := "com/example/lively_broker/livelybroker/wire/Message") (Or.inr (hw _ (List.mem_of_getElem? (i := 167) rfl))) (Or.inr (hw _ (List.mem_of_getElem? (i := 161) rfl))) (by decide) (t := (.array .byte)) (t' := (.array .byte)) (by decide +kernel) (by decide +kernel)))
  have F603 := Fld.other w586 F602 (Or.inr (slot_ne (a0 := a0) (C := "com/example/lively_broker/livelybroker/wire/Message") (Or.inr (hw _ (List.mem_of_getElem? (i := 167) rfl))) (Or.inr (hw _ (List.mem_of_getElem? (i := 163) rfl))) (by decide) (t := (.array .byte)) (t' := (.object "com/example/lively_broker/livelybroker/wire/WorkerState")) (by decide +kernel) (by decide +kernel)))
  have F604 := Fld.other w596 F603 (Or.inr (slot_ne (a0 := a0) (C := "com/example/lively_broker/livelybroker/wire/Message") (Or.inr (hw _ (List.mem_of_getElem? (i := 167) rfl))) (Or.inr (hw _ (List.mem_of_getElem? (i := 165) rfl))) (by decide) (t := (.array .byte)) (t' := (.object "com/example/lively_broker/livelybroker/wire/FailureReason")) (by decide +kernel) (by decide +kernel)))
  have F605 := Exa.wr w596 F594
  obtain ⟨h606, w607, r608⟩ := H.putF (ty := (.array .byte)) (host := "") (Or.inl (hw _ (List.mem_of_getElem? (i := 166) rfl))) Via.refl F604 F605 (Or.inr ⟨(hw _ (List.mem_of_getElem? (i := 167) rfl)), rfl, rfl⟩) (hw _ (List.mem_of_getElem? (i := 153) rfl)) (by decide +kernel) rfl rfl N0 d23_28 r600
  have Z609 : n0 ≤ h606.size := by rw [w607.size]; exact Z598
  have G610 : Fld Z h606 g "com/example/lively_broker/livelybroker/wire/Message" "body" "[B" (.ref bd) := F604.same w607
  replace r608 : W h606 0 0 31 #[.val (.ref g), .val (.ref cm), .val (.ref jd), .val .null, .val .null, .val (.ref bd)] [] := r608
  exact ⟨_, _, H.retN rfl (Nat.le_refl _) (Nat.le_refl _) d23_31 r608, rfl, ((((((Keep.refl _ _).wr w569 (Or.inl (List.mem_of_getElem? (i := 0) rfl))).wr w577 (Or.inl (List.mem_of_getElem? (i := 0) rfl))).wr w586 (Or.inl (List.mem_of_getElem? (i := 0) rfl))).wr w596 (Or.inl (List.mem_of_getElem? (i := 0) rfl))).wr w607 (Or.inl (List.mem_of_getElem? (i := 0) rfl)))⟩
set_option maxRecDepth 65536 in
set_option maxHeartbeats 40000000 in
theorem fjN_ct {l : Launch} {Z : State} {a0 : Array Value} (hw : ∀ d ∈ tables_1, d.before a0 Z = true) (cm jd bd : Addr) (u : Value) (wS : ∀ a ∈ Bundle.stringAtoms, a.before a0 Z = true) (h0 : Heap) (n0 : Nat) (Z0 : n0 ≤ h0.size) (XB : Exa Z h0 jd "[B") (B0 : Ary Z h0 jd .byte [u]) :
    CtT l Z (⟨"com/example/lively_broker/livelybroker/wire/Message", "forJob", "(Lcom/example/lively_broker/livelybroker/wire/Command;[BLcom/example/lively_broker/livelybroker/wire/FailureReason;[B)Lcom/example/lively_broker/livelybroker/wire/Message;"⟩ : MethodName) prog_15_method_12_code 4 (some (.object "com/example/lively_broker/livelybroker/wire/Message")) ({ frames := 2, cells := 3, slots := 29, locals := 40 } : Room) n0 #[(.ref cm), (.ref jd), .null, (.ref bd)] h0 (fun v h' => (∃ g : Addr, v = some (.ref g)) ∧ Keep h0 h' []) := by
  refine CtT.of (plainFor_of_name pn_12) (fun mI => ef_fjN cm jd bd mI) ?_
  intro W V H r0
  have r611 : W h0 0 0 1 #[.val (.ref cm), .val (.ref jd), .val .null, .val (.ref bd)] [(.ref jd)] := (H.aloadN d20_0 r0 rfl rfl)
  obtain ⟨hlJ, sj, EJ, rlJ⟩ := H.ldcO (q := 20) (hw _ (List.mem_of_getElem? (i := 145) rfl)) wS (by decide +kernel) (by decide) (by decide) (by decide) d20_1 r611
  have Z612 : n0 ≤ hlJ.size := Nat.le_trans Z0 EJ.1
  have Y613 : h0.size ≤ hlJ.size := Nat.le_trans (Nat.le_refl _) EJ.1
  replace rlJ : W hlJ 2 24 3 #[.val (.ref cm), .val (.ref jd), .val .null, .val (.ref bd)] [(.ref sj), (.ref jd)] := rlJ
  have r614 : W hlJ 2 24 6 #[.val (.ref cm), .val (.ref jd), .val .null, .val (.ref bd)] [(.ref jd)] := H.callSP (w := 0) (argsL := [(.ref jd), (.ref sj)]) (rest := []) (hw _ (List.mem_of_getElem? (i := 136) rfl)) (hw _ (List.mem_of_getElem? (i := 137) rfl)) (hw _ (List.mem_of_getElem? (i := 138) rfl)) (hw _ (List.mem_of_getElem? (i := 139) rfl)) (by decide) pd_11 (by decide) (by decide) (by decide) (by decide) (rq_ct hw jd sj hlJ n0) rfl rfl (Nat.le_of_eq rfl) rfl d20_3 rlJ
  have F615 := Exa.ext EJ XB
  have r616 : W hlJ 2 24 9 #[.val (.ref cm), .val (.ref jd), .val .null, .val (.ref bd)] [(.ref jd)] := H.castY (hw _ (List.mem_of_getElem? (i := 140) rfl)) (Ins.self F615) d20_6 r614
  have F617 := B0.ext EJ
  have r618 : W hlJ 2 24 12 #[.val (.ref cm), .val (.ref jd), .val .null, .val (.ref bd)] [] := H.callSP (w := 0) (argsL := [(.ref jd)]) (rest := []) (hw _ (List.mem_of_getElem? (i := 146) rfl)) (hw _ (List.mem_of_getElem? (i := 147) rfl)) (hw _ (List.mem_of_getElem? (i := 124) rfl)) (hw _ (List.mem_of_getElem? (i := 148) rfl)) (by decide) pd_12 (by decide) (by decide) (by decide) (by decide) (cj_ct hw jd u hlJ n0 F617) rfl rfl (Nat.le_of_eq rfl) rfl d20_9 r616
  obtain ⟨h619, g, ea620, E621, X622, D623, U624, r625⟩ := H.newO (hw _ (List.mem_of_getElem? (i := 152) rfl)) (hw _ (List.mem_of_getElem? (i := 153) rfl)) (hw _ (List.mem_of_getElem? (i := 124) rfl)) (by decide) (by decide) d20_12 r618
  have ne626 : jd ≠ g := Nat.ne_of_lt (by rw [ea620]; exact F615.lt)
  have N627 : n0 ≤ g := by rw [ea620]; exact Z612
  have Y628 : h0.size ≤ g := by rw [ea620]; exact Y613
  have Z629 : n0 ≤ h619.size := Nat.le_trans Z612 E621.1
  have Y630 : h0.size ≤ h619.size := Nat.le_trans Y613 E621.1
  have G631 : Fld Z h619 g "com/example/lively_broker/livelybroker/wire/Message" "command" "Lcom/example/lively_broker/livelybroker/wire/Command;" (.null) := D623 (ty := (.object "com/example/lively_broker/livelybroker/wire/Command")) (Or.inr (hw _ (List.mem_of_getElem? (i := 159) rfl))) (by decide +kernel)
  have G632 : Fld Z h619 g "com/example/lively_broker/livelybroker/wire/Message" "jobId" "[B" (.null) := D623 (ty := (.array .byte)) (Or.inr (hw _ (List.mem_of_getElem? (i := 161) rfl))) (by decide +kernel)
  have G633 : Fld Z h619 g "com/example/lively_broker/livelybroker/wire/Message" "state" "Lcom/example/lively_broker/livelybroker/wire/WorkerState;" (.null) := D623 (ty := (.object "com/example/lively_broker/livelybroker/wire/WorkerState")) (Or.inr (hw _ (List.mem_of_getElem? (i := 163) rfl))) (by decide +kernel)
  have G634 : Fld Z h619 g "com/example/lively_broker/livelybroker/wire/Message" "reason" "Lcom/example/lively_broker/livelybroker/wire/FailureReason;" (.null) := D623 (ty := (.object "com/example/lively_broker/livelybroker/wire/FailureReason")) (Or.inr (hw _ (List.mem_of_getElem? (i := 165) rfl))) (by decide +kernel)
  have G635 : Fld Z h619 g "com/example/lively_broker/livelybroker/wire/Message" "body" "[B" (.null) := D623 (ty := (.array .byte)) (Or.inr (hw _ (List.mem_of_getElem? (i := 167) rfl))) (by decide +kernel)
  replace r625 : W h619 3 29 15 #[.val (.ref cm), .val (.ref jd), .val .null, .val (.ref bd)] [(.ref g)] := r625
  have r636 : W h619 3 29 21 #[.val (.ref cm), .val (.ref jd), .val .null, .val (.ref bd)] [(.ref bd), .null, .null, (.ref jd), (.ref cm), (.ref g), (.ref g)] := (H.aloadN d20_20 (H.aloadN d20_19 (H.aconstNull d20_18 (H.aloadN d20_17 (H.aloadN d20_16 (H.dup d20_15 r625 rfl) rfl rfl) rfl rfl)) rfl rfl) rfl rfl)
  obtain ⟨_, hc1, ⟨rfl, K1⟩, r637⟩ := H.callI (w := 1) (argsL := [(.ref cm), (.ref jd), .null, .null, (.ref bd)]) (rest := [(.ref g)]) rfl (hw _ (List.mem_of_getElem? (i := 154) rfl)) (hw _ (List.mem_of_getElem? (i := 155) rfl)) (hw _ (List.mem_of_getElem? (i := 124) rfl)) (hw _ (List.mem_of_getElem? (i := 156) rfl)) (by decide) pd_13 (by decide) (by decide) (by decide) (by decide) (miN_ct hw g cm jd bd h619 n0 Z629 N627 X622 G631 G632 G633 G634 G635) (fun _ _ q => by first | exact q.2.1.1 | exact q.2.1) rfl rfl (Nat.le_of_eq rfl) rfl d20_21 r636
  have Z638 : n0 ≤ hc1.size := Nat.le_trans Z629 K1.1
  have Y639 : h0.size ≤ hc1.size := Nat.le_trans Y630 K1.1
  replace r637 : W hc1 3 29 24 #[.val (.ref cm), .val (.ref jd), .val .null, .val (.ref bd)] [(.ref g)] := r637
  exact ⟨_, _, H.retR rfl rfl rfl (by decide) (by decide) d20_24 r637, ⟨g, rfl⟩, ((((Keep.refl _ _).ext EJ).ext E621).trans K1 (allS (Or.inr Y628) all0))⟩
set_option maxRecDepth 65536 in
set_option maxHeartbeats 40000000 in
theorem miA_ct {l : Launch} {Z : State} {a0 : Array Value} (hw : ∀ d ∈ tables_1, d.before a0 Z = true) (g cm jd rs bd : Addr) (h0 : Heap) (n0 : Nat) (Z0 : n0 ≤ h0.size) (N0 : n0 ≤ g) (X0 : Exa Z h0 g "com/example/lively_broker/livelybroker/wire/Message") (F1 : Fld Z h0 g "com/example/lively_broker/livelybroker/wire/Message" "command" "Lcom/example/lively_broker/livelybroker/wire/Command;" .null) (F2 : Fld Z h0 g "com/example/lively_broker/livelybroker/wire/Message" "jobId" "[B" .null) (F3 : Fld Z h0 g "com/example/lively_broker/livelybroker/wire/Message" "state" "Lcom/example/lively_broker/livelybroker/wire/WorkerState;" .null) (F4 : Fld Z h0 g "com/example/lively_broker/livelybroker/wire/Message" "reason" "Lcom/example/lively_broker/livelybroker/wire/FailureReason;" .null) (F5 : Fld Z h0 g "com/example/lively_broker/livelybroker/wire/Message" "body" "[B" .null) :
    Ct l Z (⟨"com/example/lively_broker/livelybroker/wire/Message", "<init>", "(Lcom/example/lively_broker/livelybroker/wire/Command;[BLcom/example/lively_broker/livelybroker/wire/WorkerState;Lcom/example/lively_broker/livelybroker/wire/FailureReason;[B)V"⟩ : MethodName) prog_15_method_1_code 6 none ({ frames := 1, cells := 0, slots := 0, locals := 12 } : Room) n0 #[(.ref g), (.ref cm), (.ref jd), .null, (.ref rs), (.ref bd)] h0 (fun v h' => v = none ∧ Keep h0 h' [g]) := by
  refine Ct.of (plainFor_of_name pn_12) (fun mI => ef_miA g cm jd rs bd mI) ?_
  intro W V H r0
  have r640 : W h0 0 0 1 #[.val (.ref g), .val (.ref cm), .val (.ref jd), .val .null, .val (.ref rs), .val (.ref bd)] [(.ref g)] := (H.aloadN d23_0 r0 rfl rfl)
  have r641 : W h0 0 0 4 #[.val (.ref g), .val (.ref cm), .val (.ref jd), .val .null, .val (.ref rs), .val (.ref bd)] [] := H.initO (w := 0) (hw _ (List.mem_of_getElem? (i := 157) rfl)) (hw _ (List.mem_of_getElem? (i := 8) rfl)) (hw _ (List.mem_of_getElem? (i := 9) rfl)) rfl (by decide) (Nat.le_of_eq rfl) (by decide) d23_1 r640
  have r642 : W h0 0 0 6 #[.val (.ref g), .val (.ref cm), .val (.ref jd), .val .null, .val (.ref rs), .val (.ref bd)] [(.ref cm), (.ref g)] := (H.aloadN d23_5 (H.aloadN d23_4 r641 rfl rfl) rfl rfl)
  obtain ⟨h643, w644, r645⟩ := H.putF (ty := (.object "com/example/lively_broker/livelybroker/wire/Command")) (host := "") (Or.inl (hw _ (List.mem_of_getElem? (i := 158) rfl))) Via.refl F1 X0 (Or.inr ⟨(hw _ (List.mem_of_getElem? (i := 159) rfl)), rfl, rfl⟩) (hw _ (List.mem_of_getElem? (i := 153) rfl)) (by decide +kernel) rfl rfl N0 d23_6 r642
  have Z646 : n0 ≤ h643.size := by rw [w644.size]; exact Z0
  have G647 : Fld Z h643 g "com/example/lively_broker/livelybroker/wire/Message" "command" "Lcom/example/lively_broker/livelybroker/wire/Command;" (.ref cm) := F1.same w644
  replace r645 : W h643 0 0 9 #[.val (.ref g), .val (.ref cm), .val (.ref jd), .val .null, .val (.ref rs), .val (.ref bd)] [] := r645
  have r648 : W h643 0 0 11 #[.val (.ref g), .val (.ref cm), .val (.ref jd), .val .null, .val (.ref rs), .val (.ref bd)] [(.ref jd), (.ref g)] := (H.aloadN d23_10 (H.aloadN d23_9 r645 rfl rfl) rfl rfl)
  have F649 := Fld.other w644 F2 (Or.inr (slot_ne (a0 := a0) (C := "com/example/lively_broker/livelybroker/wire/Message") (Or.inr (hw _ (List.mem_of_getElem? (i := 161) rfl))) (Or.inr (hw _ (List.mem_of_getElem? (i := 159) rfl))) (by decide) (t := (.array .byte)) (t' := (.object "com/example/lively_broker/livelybroker/wire/Command")) (by decide +kernel) (by decide +kernel)))
  have F650 := Exa.wr w644 X0
  obtain ⟨h651, w652, r653⟩ := H.putF (ty := (.array .byte)) (host := "") (Or.inl (hw _ (List.mem_of_getElem? (i := 160) rfl))) Via.refl F649 F650 (Or.inr ⟨(hw _ (List.mem_of_getElem? (i := 161) rfl)), rfl, rfl⟩) (hw _ (List.mem_of_getElem? (i := 153) rfl)) (by decide +kernel) rfl rfl N0 d23_11 r648
  have Z654 : n0 ≤ h651.size := by rw [w652.size]; exact Z646
  have G655 : Fld Z h651 g "com/example/lively_broker/livelybroker/wire/Message" "jobId" "[B" (.ref jd) := F649.same w652
  replace r653 : W h651 0 0 14 #[.val (.ref g), .val (.ref cm), .val (.ref jd), .val .null, .val (.ref rs), .val (.ref bd)] [] := r653
  have r656 : W h651 0 0 16 #[.val (.ref g), .val (.ref cm), .val (.ref jd), .val .null, .val (.ref rs), .val (.ref bd)] [.null, (.ref g)] := (H.aloadN d23_15 (H.aloadN d23_14 r653 rfl rfl) rfl rfl)
  have F657 := Fld.other w644 F3 (Or.inr (slot_ne (a0 := a0) (C := "com/example/lively_broker/livelybroker/wire/Message") (Or.inr (hw _ (List.mem_of_getElem? (i := 163) rfl))) (Or.inr (hw _ (List.mem_of_getElem? (i := 159) rfl))) (by decide) (t := (.object "com/example/lively_broker/livelybroker/wire/WorkerState")) (t' := (.object "com/example/lively_broker/livelybroker/wire/Command")) (by decide +kernel) (by decide +kernel)))
  have F658 := Fld.other w652 F657 (Or.inr (slot_ne (a0 := a0) (C := "com/example/lively_broker/livelybroker/wire/Message") (Or.inr (hw _ (List.mem_of_getElem? (i := 163) rfl))) (Or.inr (hw _ (List.mem_of_getElem? (i := 161) rfl))) (by decide) (t := (.object "com/example/lively_broker/livelybroker/wire/WorkerState")) (t' := (.array .byte)) (by decide +kernel) (by decide +kernel)))
  have F659 := Exa.wr w652 F650
  obtain ⟨h660, w661, r662⟩ := H.putF (ty := (.object "com/example/lively_broker/livelybroker/wire/WorkerState")) (host := "") (Or.inl (hw _ (List.mem_of_getElem? (i := 162) rfl))) Via.refl F658 F659 (Or.inr ⟨(hw _ (List.mem_of_getElem? (i := 163) rfl)), rfl, rfl⟩) (hw _ (List.mem_of_getElem? (i := 153) rfl)) (by decide +kernel) rfl rfl N0 d23_16 r656
  have Z663 : n0 ≤ h660.size := by rw [w661.size]; exact Z654
  have G664 : Fld Z h660 g "com/example/lively_broker/livelybroker/wire/Message" "state" "Lcom/example/lively_broker/livelybroker/wire/WorkerState;" .null := F658.same w661
  replace r662 : W h660 0 0 19 #[.val (.ref g), .val (.ref cm), .val (.ref jd), .val .null, .val (.ref rs), .val (.ref bd)] [] := r662
  have r665 : W h660 0 0 22 #[.val (.ref g), .val (.ref cm), .val (.ref jd), .val .null, .val (.ref rs), .val (.ref bd)] [(.ref rs), (.ref g)] := (H.aload d23_20 (H.aloadN d23_19 r662 rfl rfl) rfl rfl)
  have F666 := Fld.other w644 F4 (Or.inr (slot_ne (a0 := a0) (C := "com/example/lively_broker/livelybroker/wire/Message") (Or.inr (hw _ (List.mem_of_getElem? (i := 165) rfl))) (Or.inr (hw _ (List.mem_of_getElem? (i := 159) rfl))) (by decide) (t := (.object "com/example/lively_broker/livelybroker/wire/FailureReason")) (t' := (.object "com/example/lively_broker/livelybroker/wire/Command")) (by decide +kernel) (by decide +kernel)))
  have F667 := Fld.other w652 F666 (Or.inr (slot_ne (a0 := a0) (C := "com/example/lively_broker/livelybroker/wire/Message") (Or.inr (hw _ (List.mem_of_getElem? (i := 165) rfl))) (Or.inr (hw _ (List.mem_of_getElem? (i := 161) rfl))) (by decide) (t := (.object "com/example/lively_broker/livelybroker/wire/FailureReason")) (t' := (.array .byte)) (by decide +kernel) (by decide +kernel)))
  have F668 := Fld.other w661 F667 (Or.inr (slot_ne (a0 := a0) (C := "com/example/lively_broker/livelybroker/wire/Message") (Or.inr (hw _ (List.mem_of_getElem? (i := 165) rfl))) (Or.inr (hw _ (List.mem_of_getElem? (i := 163) rfl))) (by decide) (t := (.object "com/example/lively_broker/livelybroker/wire/FailureReason")) (t' := (.object "com/example/lively_broker/livelybroker/wire/WorkerState")) (by decide +kernel) (by decide +kernel)))
  have F669 := Exa.wr w661 F659
  obtain ⟨h670, w671, r672⟩ := H.putF (ty := (.object "com/example/lively_broker/livelybroker/wire/FailureReason")) (host := "") (Or.inl (hw _ (List.mem_of_getElem? (i := 164) rfl))) Via.refl F668 F669 (Or.inr ⟨(hw _ (List.mem_of_getElem? (i := 165) rfl)), rfl, rfl⟩) (hw _ (List.mem_of_getElem? (i := 153) rfl)) (by decide +kernel) rfl rfl N0 d23_22 r665
  have Z673 : n0 ≤ h670.size := by rw [w671.size]; exact Z663
  have G674 : Fld Z h670 g "com/example/lively_broker/livelybroker/wire/Message" "reason" "Lcom/example/lively_broker/livelybroker/wire/FailureReason;" (.ref rs) := F668.same w671
  replace r672 : W h670 0 0 25 #[.val (.ref g), .val (.ref cm), .val (.ref jd), .val .null, .val (.ref rs), .val (.ref bd)] [] := r672
  have r675 : W h670 0 0 28 #[.val (.ref g), .val (.ref cm), .val (.ref jd), .val .null, .val (.ref rs), .val (.ref bd)] [(.ref bd), (.ref g)] := (H.aload d23_26 (H.aloadN d23_25 r672 rfl rfl) rfl rfl)
  have F676 := Fld.other w644 F5 (Or.inr (slot_ne (a0 := a0) (C := "com/example/lively_broker/livelybroker/wire/Message") (Or.inr (hw _ (List.mem_of_getElem? (i := 167) rfl))) (Or.inr (hw _ (List.mem_of_getElem? (i := 159) rfl))) (by decide) (t := (.array .byte)) (t' := (.object "com/example/lively_broker/livelybroker/wire/Command")) (by decide +kernel) (by decide +kernel)))
  have F677 := Fld.other w652 F676 (Or.inr (slot_ne (a0 := a0) (C := "com/example/lively_broker/livelybroker/wire/Message") (Or.inr (hw _ (List.mem_of_getElem? (i := 167) rfl))) (Or.inr (hw _ (List.mem_of_getElem? (i := 161) rfl))) (by decide) (t := (.array .byte)) (t' := (.array .byte)) (by decide +kernel) (by decide +kernel)))
  have F678 := Fld.other w661 F677 (Or.inr (slot_ne (a0 := a0) (C := "com/example/lively_broker/livelybroker/wire/Message") (Or.inr (hw _ (List.mem_of_getElem? (i := 167) rfl))) (Or.inr (hw _ (List.mem_of_getElem? (i := 163) rfl))) (by decide) (t := (.array .byte)) (t' := (.object "com/example/lively_broker/livelybroker/wire/WorkerState")) (by decide +kernel) (by decide +kernel)))
  have F679 := Fld.other w671 F678 (Or.inr (slot_ne (a0 := a0) (C := "com/example/lively_broker/livelybroker/wire/Message") (Or.inr (hw _ (List.mem_of_getElem? (i := 167) rfl))) (Or.inr (hw _ (List.mem_of_getElem? (i := 165) rfl))) (by decide) (t := (.array .byte)) (t' := (.object "com/example/lively_broker/livelybroker/wire/FailureReason")) (by decide +kernel) (by decide +kernel)))
  have F680 := Exa.wr w671 F669
  obtain ⟨h681, w682, r683⟩ := H.putF (ty := (.array .byte)) (host := "") (Or.inl (hw _ (List.mem_of_getElem? (i := 166) rfl))) Via.refl F679 F680 (Or.inr ⟨(hw _ (List.mem_of_getElem? (i := 167) rfl)), rfl, rfl⟩) (hw _ (List.mem_of_getElem? (i := 153) rfl)) (by decide +kernel) rfl rfl N0 d23_28 r675
  have Z684 : n0 ≤ h681.size := by rw [w682.size]; exact Z673
  have G685 : Fld Z h681 g "com/example/lively_broker/livelybroker/wire/Message" "body" "[B" (.ref bd) := F679.same w682
  replace r683 : W h681 0 0 31 #[.val (.ref g), .val (.ref cm), .val (.ref jd), .val .null, .val (.ref rs), .val (.ref bd)] [] := r683
  exact ⟨_, _, H.retN rfl (Nat.le_refl _) (Nat.le_refl _) d23_31 r683, rfl, ((((((Keep.refl _ _).wr w644 (Or.inl (List.mem_of_getElem? (i := 0) rfl))).wr w652 (Or.inl (List.mem_of_getElem? (i := 0) rfl))).wr w661 (Or.inl (List.mem_of_getElem? (i := 0) rfl))).wr w671 (Or.inl (List.mem_of_getElem? (i := 0) rfl))).wr w682 (Or.inl (List.mem_of_getElem? (i := 0) rfl)))⟩
set_option maxRecDepth 65536 in
set_option maxHeartbeats 40000000 in
theorem fjA_ct {l : Launch} {Z : State} {a0 : Array Value} (hw : ∀ d ∈ tables_1, d.before a0 Z = true) (cm jd rs bd : Addr) (u : Value) (wS : ∀ a ∈ Bundle.stringAtoms, a.before a0 Z = true) (h0 : Heap) (n0 : Nat) (Z0 : n0 ≤ h0.size) (XB : Exa Z h0 jd "[B") (B0 : Ary Z h0 jd .byte [u]) :
    CtT l Z (⟨"com/example/lively_broker/livelybroker/wire/Message", "forJob", "(Lcom/example/lively_broker/livelybroker/wire/Command;[BLcom/example/lively_broker/livelybroker/wire/FailureReason;[B)Lcom/example/lively_broker/livelybroker/wire/Message;"⟩ : MethodName) prog_15_method_12_code 4 (some (.object "com/example/lively_broker/livelybroker/wire/Message")) ({ frames := 2, cells := 3, slots := 29, locals := 40 } : Room) n0 #[(.ref cm), (.ref jd), (.ref rs), (.ref bd)] h0 (fun v h' => (∃ g : Addr, v = some (.ref g)) ∧ Keep h0 h' []) := by
  refine CtT.of (plainFor_of_name pn_12) (fun mI => ef_fjA cm jd rs bd mI) ?_
  intro W V H r0
  have r686 : W h0 0 0 1 #[.val (.ref cm), .val (.ref jd), .val (.ref rs), .val (.ref bd)] [(.ref jd)] := (H.aloadN d20_0 r0 rfl rfl)
  obtain ⟨hlJ, sj, EJ, rlJ⟩ := H.ldcO (q := 20) (hw _ (List.mem_of_getElem? (i := 145) rfl)) wS (by decide +kernel) (by decide) (by decide) (by decide) d20_1 r686
  have Z687 : n0 ≤ hlJ.size := Nat.le_trans Z0 EJ.1
  have Y688 : h0.size ≤ hlJ.size := Nat.le_trans (Nat.le_refl _) EJ.1
  replace rlJ : W hlJ 2 24 3 #[.val (.ref cm), .val (.ref jd), .val (.ref rs), .val (.ref bd)] [(.ref sj), (.ref jd)] := rlJ
  have r689 : W hlJ 2 24 6 #[.val (.ref cm), .val (.ref jd), .val (.ref rs), .val (.ref bd)] [(.ref jd)] := H.callSP (w := 0) (argsL := [(.ref jd), (.ref sj)]) (rest := []) (hw _ (List.mem_of_getElem? (i := 136) rfl)) (hw _ (List.mem_of_getElem? (i := 137) rfl)) (hw _ (List.mem_of_getElem? (i := 138) rfl)) (hw _ (List.mem_of_getElem? (i := 139) rfl)) (by decide) pd_11 (by decide) (by decide) (by decide) (by decide) (rq_ct hw jd sj hlJ n0) rfl rfl (Nat.le_of_eq rfl) rfl d20_3 rlJ
  have F690 := Exa.ext EJ XB
  have r691 : W hlJ 2 24 9 #[.val (.ref cm), .val (.ref jd), .val (.ref rs), .val (.ref bd)] [(.ref jd)] := H.castY (hw _ (List.mem_of_getElem? (i := 140) rfl)) (Ins.self F690) d20_6 r689
  have F692 := B0.ext EJ
  have r693 : W hlJ 2 24 12 #[.val (.ref cm), .val (.ref jd), .val (.ref rs), .val (.ref bd)] [] := H.callSP (w := 0) (argsL := [(.ref jd)]) (rest := []) (hw _ (List.mem_of_getElem? (i := 146) rfl)) (hw _ (List.mem_of_getElem? (i := 147) rfl)) (hw _ (List.mem_of_getElem? (i := 124) rfl)) (hw _ (List.mem_of_getElem? (i := 148) rfl)) (by decide) pd_12 (by decide) (by decide) (by decide) (by decide) (cj_ct hw jd u hlJ n0 F692) rfl rfl (Nat.le_of_eq rfl) rfl d20_9 r691
  obtain ⟨h694, g, ea695, E696, X697, D698, U699, r700⟩ := H.newO (hw _ (List.mem_of_getElem? (i := 152) rfl)) (hw _ (List.mem_of_getElem? (i := 153) rfl)) (hw _ (List.mem_of_getElem? (i := 124) rfl)) (by decide) (by decide) d20_12 r693
  have ne701 : jd ≠ g := Nat.ne_of_lt (by rw [ea695]; exact F690.lt)
  have N702 : n0 ≤ g := by rw [ea695]; exact Z687
  have Y703 : h0.size ≤ g := by rw [ea695]; exact Y688
  have Z704 : n0 ≤ h694.size := Nat.le_trans Z687 E696.1
  have Y705 : h0.size ≤ h694.size := Nat.le_trans Y688 E696.1
  have G706 : Fld Z h694 g "com/example/lively_broker/livelybroker/wire/Message" "command" "Lcom/example/lively_broker/livelybroker/wire/Command;" (.null) := D698 (ty := (.object "com/example/lively_broker/livelybroker/wire/Command")) (Or.inr (hw _ (List.mem_of_getElem? (i := 159) rfl))) (by decide +kernel)
  have G707 : Fld Z h694 g "com/example/lively_broker/livelybroker/wire/Message" "jobId" "[B" (.null) := D698 (ty := (.array .byte)) (Or.inr (hw _ (List.mem_of_getElem? (i := 161) rfl))) (by decide +kernel)
  have G708 : Fld Z h694 g "com/example/lively_broker/livelybroker/wire/Message" "state" "Lcom/example/lively_broker/livelybroker/wire/WorkerState;" (.null) := D698 (ty := (.object "com/example/lively_broker/livelybroker/wire/WorkerState")) (Or.inr (hw _ (List.mem_of_getElem? (i := 163) rfl))) (by decide +kernel)
  have G709 : Fld Z h694 g "com/example/lively_broker/livelybroker/wire/Message" "reason" "Lcom/example/lively_broker/livelybroker/wire/FailureReason;" (.null) := D698 (ty := (.object "com/example/lively_broker/livelybroker/wire/FailureReason")) (Or.inr (hw _ (List.mem_of_getElem? (i := 165) rfl))) (by decide +kernel)
  have G710 : Fld Z h694 g "com/example/lively_broker/livelybroker/wire/Message" "body" "[B" (.null) := D698 (ty := (.array .byte)) (Or.inr (hw _ (List.mem_of_getElem? (i := 167) rfl))) (by decide +kernel)
  replace r700 : W h694 3 29 15 #[.val (.ref cm), .val (.ref jd), .val (.ref rs), .val (.ref bd)] [(.ref g)] := r700
  have r711 : W h694 3 29 21 #[.val (.ref cm), .val (.ref jd), .val (.ref rs), .val (.ref bd)] [(.ref bd), (.ref rs), .null, (.ref jd), (.ref cm), (.ref g), (.ref g)] := (H.aloadN d20_20 (H.aloadN d20_19 (H.aconstNull d20_18 (H.aloadN d20_17 (H.aloadN d20_16 (H.dup d20_15 r700 rfl) rfl rfl) rfl rfl)) rfl rfl) rfl rfl)
  obtain ⟨_, hc1, ⟨rfl, K1⟩, r712⟩ := H.callI (w := 1) (argsL := [(.ref cm), (.ref jd), .null, (.ref rs), (.ref bd)]) (rest := [(.ref g)]) rfl (hw _ (List.mem_of_getElem? (i := 154) rfl)) (hw _ (List.mem_of_getElem? (i := 155) rfl)) (hw _ (List.mem_of_getElem? (i := 124) rfl)) (hw _ (List.mem_of_getElem? (i := 156) rfl)) (by decide) pd_13 (by decide) (by decide) (by decide) (by decide) (miA_ct hw g cm jd rs bd h694 n0 Z704 N702 X697 G706 G707 G708 G709 G710) (fun _ _ q => by first | exact q.2.1.1 | exact q.2.1) rfl rfl (Nat.le_of_eq rfl) rfl d20_21 r711
  have Z713 : n0 ≤ hc1.size := Nat.le_trans Z704 K1.1
  have Y714 : h0.size ≤ hc1.size := Nat.le_trans Y705 K1.1
  replace r712 : W hc1 3 29 24 #[.val (.ref cm), .val (.ref jd), .val (.ref rs), .val (.ref bd)] [(.ref g)] := r712
  exact ⟨_, _, H.retR rfl rfl rfl (by decide) (by decide) d20_24 r712, ⟨g, rfl⟩, ((((Keep.refl _ _).ext EJ).ext E696).trans K1 (allS (Or.inr Y703) all0))⟩
set_option maxRecDepth 65536 in
set_option maxHeartbeats 40000000 in
theorem dn_ct {l : Launch} {Z : State} {a0 : Array Value} (hw : ∀ d ∈ tables_1, d.before a0 Z = true) (jd bd : Addr) (u : Value) (dc : Addr) (SD : Sta Z Z.heap "com/example/lively_broker/livelybroker/wire/Command" "DONE" "Lcom/example/lively_broker/livelybroker/wire/Command;" (.ref dc)) (wS : ∀ a ∈ Bundle.stringAtoms, a.before a0 Z = true) (h0 : Heap) (n0 : Nat) (Z0 : n0 ≤ h0.size) (O0 : Old Z n0 h0) (XB : Exa Z h0 jd "[B") (B0 : Ary Z h0 jd .byte [u]) (XC : Exa Z h0 bd "[B") :
    CtT l Z (⟨"com/example/lively_broker/livelybroker/wire/Message", "done", "([B[B)Lcom/example/lively_broker/livelybroker/wire/Message;"⟩ : MethodName) prog_15_method_10_code 2 (some (.object "com/example/lively_broker/livelybroker/wire/Message")) ({ frames := 3, cells := 5, slots := 57, locals := 60 } : Room) n0 #[(.ref jd), (.ref bd)] h0 (fun v h' => (∃ g : Addr, v = some (.ref g)) ∧ Keep h0 h' []) := by
  refine CtT.of (plainFor_of_name pn_12) (fun mI => ef_dn jd bd mI) ?_
  intro W V H r0
  have r715 : W h0 0 0 3 #[.val (.ref jd), .val (.ref bd)] [(.ref dc)] := H.getS (hw _ (List.mem_of_getElem? (i := 126) rfl)) (Sta.ext O0.2 SD) d18_0 r0
  have r716 : W h0 0 0 6 #[.val (.ref jd), .val (.ref bd)] [(.ref bd), .null, (.ref jd), (.ref dc)] := (H.aloadN d18_5 (H.aconstNull d18_4 (H.aloadN d18_3 r715 rfl rfl)) rfl rfl)
  obtain ⟨hlR, sr, ER, rlR⟩ := H.ldcO (q := 24) (hw _ (List.mem_of_getElem? (i := 129) rfl)) wS (by decide +kernel) (by decide) (by decide) (by decide) d18_6 r716
  have Z717 : n0 ≤ hlR.size := Nat.le_trans Z0 ER.1
  have Y718 : h0.size ≤ hlR.size := Nat.le_trans (Nat.le_refl _) ER.1
  replace rlR : W hlR 2 28 8 #[.val (.ref jd), .val (.ref bd)] [(.ref sr), (.ref bd), .null, (.ref jd), (.ref dc)] := rlR
  have r719 : W hlR 2 28 11 #[.val (.ref jd), .val (.ref bd)] [(.ref bd), .null, (.ref jd), (.ref dc)] := H.callSP (w := 3) (argsL := [(.ref bd), (.ref sr)]) (rest := [.null, (.ref jd), (.ref dc)]) (hw _ (List.mem_of_getElem? (i := 136) rfl)) (hw _ (List.mem_of_getElem? (i := 137) rfl)) (hw _ (List.mem_of_getElem? (i := 138) rfl)) (hw _ (List.mem_of_getElem? (i := 139) rfl)) (by decide) pd_11 (by decide) (by decide) (by decide) (by decide) (rq_ct hw bd sr hlR n0) rfl rfl (Nat.le_of_eq rfl) rfl d18_8 rlR
  have F720 := Exa.ext ER XC
  have r721 : W hlR 2 28 14 #[.val (.ref jd), .val (.ref bd)] [(.ref bd), .null, (.ref jd), (.ref dc)] := H.castY (hw _ (List.mem_of_getElem? (i := 140) rfl)) (Ins.self F720) d18_11 r719
  have F722 := Exa.ext ER XB
  have F723 := B0.ext ER
  obtain ⟨_, hc1, ⟨⟨g, rfl⟩, K1⟩, r724⟩ := H.callSS (w := 0) (argsL := [(.ref dc), (.ref jd), .null, (.ref bd)]) (rest := []) (hw _ (List.mem_of_getElem? (i := 142) rfl)) (hw _ (List.mem_of_getElem? (i := 143) rfl)) (hw _ (List.mem_of_getElem? (i := 124) rfl)) (hw _ (List.mem_of_getElem? (i := 144) rfl)) (by decide) pd_14 (by decide) (by decide) (by decide) (by decide) (fjN_ct hw dc jd bd u wS hlR n0 Z717 F722 F723) rfl rfl (Nat.le_of_eq rfl) rfl d18_14 r721
  have Z725 : n0 ≤ hc1.size := Nat.le_trans Z717 K1.1
  have Y726 : h0.size ≤ hc1.size := Nat.le_trans Y718 K1.1
  replace r724 : W hc1 5 57 17 #[.val (.ref jd), .val (.ref bd)] [(.ref g)] := r724
  exact ⟨_, _, H.retR rfl rfl rfl (by decide) (by decide) d18_17 r724, ⟨g, rfl⟩, (((Keep.refl _ _).ext ER).trans K1 all0)⟩
set_option maxRecDepth 65536 in
set_option maxHeartbeats 40000000 in
theorem fd_ct {l : Launch} {Z : State} {a0 : Array Value} (hw : ∀ d ∈ tables_1, d.before a0 Z = true) (jd rs bd : Addr) (u : Value) (fc : Addr) (SF : Sta Z Z.heap "com/example/lively_broker/livelybroker/wire/Command" "FAILED" "Lcom/example/lively_broker/livelybroker/wire/Command;" (.ref fc)) (wS : ∀ a ∈ Bundle.stringAtoms, a.before a0 Z = true) (h0 : Heap) (n0 : Nat) (Z0 : n0 ≤ h0.size) (O0 : Old Z n0 h0) (XB : Exa Z h0 jd "[B") (B0 : Ary Z h0 jd .byte [u]) (XC : Exa Z h0 bd "[B") (XR : Exa Z h0 rs "com/example/lively_broker/livelybroker/wire/FailureReason") :
    CtT l Z (⟨"com/example/lively_broker/livelybroker/wire/Message", "failed", "([BLcom/example/lively_broker/livelybroker/wire/FailureReason;[B)Lcom/example/lively_broker/livelybroker/wire/Message;"⟩ : MethodName) prog_15_method_11_code 3 (some (.object "com/example/lively_broker/livelybroker/wire/Message")) ({ frames := 3, cells := 7, slots := 85, locals := 60 } : Room) n0 #[(.ref jd), (.ref rs), (.ref bd)] h0 (fun v h' => (∃ g : Addr, v = some (.ref g)) ∧ Keep h0 h' []) := by
  refine CtT.of (plainFor_of_name pn_12) (fun mI => ef_fd jd rs bd mI) ?_
  intro W V H r0
  have r727 : W h0 0 0 3 #[.val (.ref jd), .val (.ref rs), .val (.ref bd)] [(.ref fc)] := H.getS (hw _ (List.mem_of_getElem? (i := 262) rfl)) (Sta.ext O0.2 SF) d35_0 r0
  have r728 : W h0 0 0 5 #[.val (.ref jd), .val (.ref rs), .val (.ref bd)] [(.ref rs), (.ref jd), (.ref fc)] := (H.aloadN d35_4 (H.aloadN d35_3 r727 rfl rfl) rfl rfl)
  obtain ⟨hlR, sr, ER, rlR⟩ := H.ldcO (q := 24) (hw _ (List.mem_of_getElem? (i := 264) rfl)) wS (by decide +kernel) (by decide) (by decide) (by decide) d35_5 r728
  have Z729 : n0 ≤ hlR.size := Nat.le_trans Z0 ER.1
  have Y730 : h0.size ≤ hlR.size := Nat.le_trans (Nat.le_refl _) ER.1
  replace rlR : W hlR 2 28 7 #[.val (.ref jd), .val (.ref rs), .val (.ref bd)] [(.ref sr), (.ref rs), (.ref jd), (.ref fc)] := rlR
  have r731 : W hlR 2 28 10 #[.val (.ref jd), .val (.ref rs), .val (.ref bd)] [(.ref rs), (.ref jd), (.ref fc)] := H.callSP (w := 2) (argsL := [(.ref rs), (.ref sr)]) (rest := [(.ref jd), (.ref fc)]) (hw _ (List.mem_of_getElem? (i := 136) rfl)) (hw _ (List.mem_of_getElem? (i := 137) rfl)) (hw _ (List.mem_of_getElem? (i := 138) rfl)) (hw _ (List.mem_of_getElem? (i := 139) rfl)) (by decide) pd_11 (by decide) (by decide) (by decide) (by decide) (rq_ct hw rs sr hlR n0) rfl rfl (Nat.le_of_eq rfl) rfl d35_7 rlR
  have F732 := Exa.ext ER XR
  have r733 : W hlR 2 28 13 #[.val (.ref jd), .val (.ref rs), .val (.ref bd)] [(.ref rs), (.ref jd), (.ref fc)] := H.castY (hw _ (List.mem_of_getElem? (i := 265) rfl)) (Ins.self F732) d35_10 r731
  have r734 : W hlR 2 28 14 #[.val (.ref jd), .val (.ref rs), .val (.ref bd)] [(.ref bd), (.ref rs), (.ref jd), (.ref fc)] := (H.aloadN d35_13 r733 rfl rfl)
  obtain ⟨hlD, sd, ED, rlD⟩ := H.ldcO (q := 24) (hw _ (List.mem_of_getElem? (i := 267) rfl)) wS (by decide +kernel) (by decide) (by decide) (by decide) d35_14 r734
  have Z735 : n0 ≤ hlD.size := Nat.le_trans Z729 ED.1
  have Y736 : h0.size ≤ hlD.size := Nat.le_trans Y730 ED.1
  replace rlD : W hlD 4 56 16 #[.val (.ref jd), .val (.ref rs), .val (.ref bd)] [(.ref sd), (.ref bd), (.ref rs), (.ref jd), (.ref fc)] := rlD
  have r737 : W hlD 4 56 19 #[.val (.ref jd), .val (.ref rs), .val (.ref bd)] [(.ref bd), (.ref rs), (.ref jd), (.ref fc)] := H.callSP (w := 3) (argsL := [(.ref bd), (.ref sd)]) (rest := [(.ref rs), (.ref jd), (.ref fc)]) (hw _ (List.mem_of_getElem? (i := 136) rfl)) (hw _ (List.mem_of_getElem? (i := 137) rfl)) (hw _ (List.mem_of_getElem? (i := 138) rfl)) (hw _ (List.mem_of_getElem? (i := 139) rfl)) (by decide) pd_11 (by decide) (by decide) (by decide) (by decide) (rq_ct hw bd sd hlD n0) rfl rfl (Nat.le_of_eq rfl) rfl d35_16 rlD
  have F738 := Exa.ext ER XC
  have F739 := Exa.ext ED F738
  have r740 : W hlD 4 56 22 #[.val (.ref jd), .val (.ref rs), .val (.ref bd)] [(.ref bd), (.ref rs), (.ref jd), (.ref fc)] := H.castY (hw _ (List.mem_of_getElem? (i := 140) rfl)) (Ins.self F739) d35_19 r737
  have F741 := Exa.ext ER XB
  have F742 := Exa.ext ED F741
  have F743 := B0.ext ER
  have F744 := F743.ext ED
  obtain ⟨_, hc1, ⟨⟨g, rfl⟩, K1⟩, r745⟩ := H.callSS (w := 0) (argsL := [(.ref fc), (.ref jd), (.ref rs), (.ref bd)]) (rest := []) (hw _ (List.mem_of_getElem? (i := 142) rfl)) (hw _ (List.mem_of_getElem? (i := 143) rfl)) (hw _ (List.mem_of_getElem? (i := 124) rfl)) (hw _ (List.mem_of_getElem? (i := 144) rfl)) (by decide) pd_14 (by decide) (by decide) (by decide) (by decide) (fjA_ct hw fc jd rs bd u wS hlD n0 Z735 F742 F744) rfl rfl (Nat.le_of_eq rfl) rfl d35_22 r740
  have Z746 : n0 ≤ hc1.size := Nat.le_trans Z735 K1.1
  have Y747 : h0.size ≤ hc1.size := Nat.le_trans Y736 K1.1
  replace r745 : W hc1 7 85 25 #[.val (.ref jd), .val (.ref rs), .val (.ref bd)] [(.ref g)] := r745
  exact ⟨_, _, H.retR rfl rfl rfl (by decide) (by decide) d35_25 r745, ⟨g, rfl⟩, ((((Keep.refl _ _).ext ER).ext ED).trans K1 all0)⟩
set_option maxRecDepth 65536 in
set_option maxHeartbeats 40000000 in
theorem tail3 {l : Launch} {Z : State} {a0 : Array Value} (hw : ∀ d ∈ tables_1, d.before a0 Z = true) {n0 : Nat} {W : WT} {V : VT} {h0 : Heap} (n bb lc : Int32) (t1 t2 t3 : Int64) (ia ra a s m : Addr) (pl : Value) (hpl : pl.isRef = true) (md : Int32) (mg : Addr) (da : Addr) (S3 : Sta Z Z.heap "java/util/ArrayList" "EMPTY_ELEMENTDATA" "[Ljava/lang/Object;" (.ref da)) (Z0 : n0 ≤ h0.size) (N0 : n0 ≤ a) (NM : n0 ≤ m) (nsa : s ≠ a) (nma : m ≠ a) (O0 : Old Z n0 h0) (J0 : own_job Z h0 a .null s) (S0 : own_set Z h0 s m) (H : WkT l Z Jvm.Pilot.@@N@@.x code maxLocals ret room_1 n0 W V) (r0 : W h0 30 1000 250 #[.val (.int n), .val (.long t1), .second, .val (.long t2), .second, .val (.long t3), .second, .val (.int bb), .val (.int lc), .val (.ref ia), .val pl, .val (.ref ra), .val (.ref a), .val (.int (1 : Int32)), .val (.int md), .val (.ref mg)] []) : ∃ v h', V v h' ∧ v = some (.int 1) := by
  have r748 : W h0 30 1000 256 #[.val (.int n), .val (.long t1), .second, .val (.long t2), .second, .val (.long t3), .second, .val (.int bb), .val (.int lc), .val (.ref ia), .val pl, .val (.ref ra), .val (.ref a), .val (.int (1 : Int32)), .val (.int md), .val (.ref mg)] [(.long t3), (.ref mg), (.ref a)] := (H.lload at_254 (H.aload at_252 (H.aload at_250 r0 rfl rfl) rfl rfl) rfl)
  obtain ⟨_, hc1, ⟨⟨b, rfl⟩, K1, J1⟩, r749⟩ := H.callV (w := 0) (argsL := [(.ref mg), (.long t3)]) (rest := []) (hw _ (List.mem_of_getElem? (i := 168) rfl)) (hw _ (List.mem_of_getElem? (i := 169) rfl)) (Or.inl ⟨_, _, (hw _ (List.mem_of_getElem? (i := 171) rfl)), rfl⟩) (hw _ (List.mem_of_getElem? (i := 171) rfl)) (hw _ (List.mem_of_getElem? (i := 170) rfl)) (hw _ (List.mem_of_getElem? (i := 3) rfl)) (hw _ (List.mem_of_getElem? (i := 172) rfl)) (by decide) pd_15 (by decide) (by decide) (by decide) (by decide) J0.1 (ma_ct hw a s m mg .null t3 da S3 h0 n0 Z0 N0 NM nsa nma O0 J0 S0) (fun _ _ q => by first | exact q.2.1.1 | exact q.2.1) rfl rfl (Nat.le_of_eq rfl) rfl at_256 r748
  have Z750 : n0 ≤ hc1.size := Nat.le_trans Z0 K1.1
  replace r749 : W hc1 32 1003 259 #[.val (.int n), .val (.long t1), .second, .val (.long t2), .second, .val (.long t3), .second, .val (.int bb), .val (.int lc), .val (.ref ia), .val pl, .val (.ref ra), .val (.ref a), .val (.int (1 : Int32)), .val (.int md), .val (.ref mg)] [(.ref b)] := r749
  have r751 : W hc1 32 1003 265 #[.val (.int n), .val (.long t1), .second, .val (.long t2), .second, .val (.long t3), .second, .val (.int bb), .val (.int lc), .val (.ref ia), .val pl, .val (.ref ra), .val (.ref a), .val (.int (1 : Int32)), .val (.int md), .val (.ref mg)] [] := (H.ifNo at_262 (H.iload at_260 (H.pop at_259 r749 rfl) rfl) (feq (by decide)).1)
  have r752 : W hc1 32 1003 267 #[.val (.int n), .val (.long t1), .second, .val (.long t2), .second, .val (.long t3), .second, .val (.int bb), .val (.int lc), .val (.ref ia), .val pl, .val (.ref ra), .val (.ref a), .val (.int (1 : Int32)), .val (.int md), .val (.ref mg)] [(.ref a)] := (H.aload at_265 r751 rfl rfl)
  have r753 : W hc1 32 1003 270 #[.val (.int n), .val (.long t1), .second, .val (.long t2), .second, .val (.long t3), .second, .val (.int bb), .val (.int lc), .val (.ref ia), .val pl, .val (.ref ra), .val (.ref a), .val (.int (1 : Int32)), .val (.int md), .val (.ref mg)] [(.int (1 : Int32))] := H.callVP (w := 0) (argsL := []) (rest := []) (hw _ (List.mem_of_getElem? (i := 89) rfl)) (hw _ (List.mem_of_getElem? (i := 90) rfl)) (Or.inl ⟨_, _, (hw _ (List.mem_of_getElem? (i := 92) rfl)), rfl⟩) (hw _ (List.mem_of_getElem? (i := 92) rfl)) (hw _ (List.mem_of_getElem? (i := 91) rfl)) (hw _ (List.mem_of_getElem? (i := 3) rfl)) (hw _ (List.mem_of_getElem? (i := 93) rfl)) (by decide) pd_16 (by decide) (by decide) (by decide) (by decide) J1.1 (anA_ct hw a s mg hc1 n0 J1) rfl rfl (Nat.le_of_eq rfl) rfl at_267 r752
  have r754 : W hc1 32 1003 273 #[.val (.int n), .val (.long t1), .second, .val (.long t2), .second, .val (.long t3), .second, .val (.int bb), .val (.int lc), .val (.ref ia), .val pl, .val (.ref ra), .val (.ref a), .val (.int (1 : Int32)), .val (.int md), .val (.ref mg)] [] := (H.ifNo at_270 r753 (feq (by decide)).1)
  have r755 : W hc1 32 1003 275 #[.val (.int n), .val (.long t1), .second, .val (.long t2), .second, .val (.long t3), .second, .val (.int bb), .val (.int lc), .val (.ref ia), .val pl, .val (.ref ra), .val (.ref a), .val (.int (1 : Int32)), .val (.int md), .val (.ref mg)] [(.ref a)] := (H.aload at_273 r754 rfl rfl)
  have r756 : W hc1 32 1003 278 #[.val (.int n), .val (.long t1), .second, .val (.long t2), .second, .val (.long t3), .second, .val (.int bb), .val (.int lc), .val (.ref ia), .val pl, .val (.ref ra), .val (.ref a), .val (.int (1 : Int32)), .val (.int md), .val (.ref mg)] [(.ref mg)] := H.callVP (w := 0) (argsL := []) (rest := []) (hw _ (List.mem_of_getElem? (i := 251) rfl)) (hw _ (List.mem_of_getElem? (i := 252) rfl)) (Or.inl ⟨_, _, (hw _ (List.mem_of_getElem? (i := 254) rfl)), rfl⟩) (hw _ (List.mem_of_getElem? (i := 254) rfl)) (hw _ (List.mem_of_getElem? (i := 253) rfl)) (hw _ (List.mem_of_getElem? (i := 3) rfl)) (hw _ (List.mem_of_getElem? (i := 255) rfl)) (by decide) pd_17 (by decide) (by decide) (by decide) (by decide) J1.1 (aw_ct hw a s mg hc1 n0 J1) rfl rfl (Nat.le_of_eq rfl) rfl at_275 r755
  have r757 : W hc1 32 1003 280 #[.val (.int n), .val (.long t1), .second, .val (.long t2), .second, .val (.long t3), .second, .val (.int bb), .val (.int lc), .val (.ref ia), .val pl, .val (.ref ra), .val (.ref a), .val (.int (1 : Int32)), .val (.int md), .val (.ref mg)] [(.ref mg), (.ref mg)] := (H.aload at_278 r756 rfl rfl)
  have r758 : W hc1 32 1003 283 #[.val (.int n), .val (.long t1), .second, .val (.long t2), .second, .val (.long t3), .second, .val (.int bb), .val (.int lc), .val (.ref ia), .val pl, .val (.ref ra), .val (.ref a), .val (.int (1 : Int32)), .val (.int md), .val (.ref mg)] [] := (H.acmpNo at_280 r757 rfl rfl (by first | exact (decide_eq_false (fun q => q rfl) : decide (Value.ref mg ≠ Value.ref mg) = false) | (simp [XT.acmp]; done) | rfl))
  have r759 : W hc1 32 1003 288 #[.val (.int n), .val (.long t1), .second, .val (.long t2), .second, .val (.long t3), .second, .val (.int bb), .val (.int lc), .val (.ref ia), .val pl, .val (.ref ra), .val (.ref a), .val (.int (1 : Int32)), .val (.int md), .val (.ref mg)] [(.int (1 : Int32))] := (H.goto (pc' := 288) at_284 (H.iconst (z := (1 : Int32)) at_283 r758 rfl) (by decide) (by decide))
  exact ⟨_, _, H.retZ rfl rfl (by decide) (by decide) at_288 r759, rfl⟩
set_option maxRecDepth 65536 in
set_option maxHeartbeats 40000000 in
theorem tail2 {l : Launch} {Z : State} {a0 : Array Value} (hw : ∀ d ∈ tables_1, d.before a0 Z = true) {n0 : Nat} {W : WT} {V : VT} {h0 : Heap} (n bb lc : Int32) (t1 t2 t3 : Int64) (ia ra a s m : Addr) (pl : Value) (hpl : pl.isRef = true) (u : Value) (dc : Addr) (SD : Sta Z Z.heap "com/example/lively_broker/livelybroker/wire/Command" "DONE" "Lcom/example/lively_broker/livelybroker/wire/Command;" (.ref dc)) (fc : Addr) (SF : Sta Z Z.heap "com/example/lively_broker/livelybroker/wire/Command" "FAILED" "Lcom/example/lively_broker/livelybroker/wire/Command;" (.ref fc)) (ee : Addr) (SE : Sta Z Z.heap "com/example/lively_broker/livelybroker/wire/FailureReason" "ERROR" "Lcom/example/lively_broker/livelybroker/wire/FailureReason;" (.ref ee)) (XE : Exa Z Z.heap ee "com/example/lively_broker/livelybroker/wire/FailureReason") (en : Addr) (SN_ : Sta Z Z.heap "com/example/lively_broker/livelybroker/wire/FailureReason" "NOT_PLACED" "Lcom/example/lively_broker/livelybroker/wire/FailureReason;" (.ref en)) (XN : Exa Z Z.heap en "com/example/lively_broker/livelybroker/wire/FailureReason") (ew : Addr) (SW : Sta Z Z.heap "com/example/lively_broker/livelybroker/wire/FailureReason" "WORKER_LOST" "Lcom/example/lively_broker/livelybroker/wire/FailureReason;" (.ref ew)) (XW : Exa Z Z.heap ew "com/example/lively_broker/livelybroker/wire/FailureReason") (da : Addr) (S3 : Sta Z Z.heap "java/util/ArrayList" "EMPTY_ELEMENTDATA" "[Ljava/lang/Object;" (.ref da)) (wS : ∀ a ∈ Bundle.stringAtoms, a.before a0 Z = true) (Z0 : n0 ≤ h0.size) (N0 : n0 ≤ a) (NM : n0 ≤ m) (nsa : s ≠ a) (nma : m ≠ a) (O0 : Old Z n0 h0) (J0 : own_job Z h0 a .null s) (S0 : own_set Z h0 s m) (XB : Exa Z h0 ia "[B") (B0 : Ary Z h0 ia .byte [u]) (XC : Exa Z h0 ra "[B") (H : WkT l Z Jvm.Pilot.@@N@@.x code maxLocals ret room_1 n0 W V) (r0 : W h0 8 64 140 #[.val (.int n), .val (.long t1), .second, .val (.long t2), .second, .val (.long t3), .second, .val (.int bb), .val (.int lc), .val (.ref ia), .val pl, .val (.ref ra), .val (.ref a), .val (.int (1 : Int32)), .unset, .unset] []) : ∃ v h', V v h' ∧ v = some (.int 1) := by
  have r760 : W h0 8 64 145 #[.val (.int n), .val (.long t1), .second, .val (.long t2), .second, .val (.long t3), .second, .val (.int bb), .val (.int lc), .val (.ref ia), .val pl, .val (.ref ra), .val (.ref a), .val (.int (1 : Int32)), .unset, .unset] [] := (H.ifNo at_142 (H.iload at_140 r0 rfl) (feq (by decide)).1)
  have r761 : W h0 8 64 147 #[.val (.int n), .val (.long t1), .second, .val (.long t2), .second, .val (.long t3), .second, .val (.int bb), .val (.int lc), .val (.ref ia), .val pl, .val (.ref ra), .val (.ref a), .val (.int (1 : Int32)), .unset, .unset] [(.ref a)] := (H.aload at_145 r760 rfl rfl)
  have r762 : W h0 8 64 150 #[.val (.int n), .val (.long t1), .second, .val (.long t2), .second, .val (.long t3), .second, .val (.int bb), .val (.int lc), .val (.ref ia), .val pl, .val (.ref ra), .val (.ref a), .val (.int (1 : Int32)), .unset, .unset] [(.int (0 : Int32))] := H.callVP (w := 0) (argsL := []) (rest := []) (hw _ (List.mem_of_getElem? (i := 89) rfl)) (hw _ (List.mem_of_getElem? (i := 90) rfl)) (Or.inl ⟨_, _, (hw _ (List.mem_of_getElem? (i := 92) rfl)), rfl⟩) (hw _ (List.mem_of_getElem? (i := 92) rfl)) (hw _ (List.mem_of_getElem? (i := 91) rfl)) (hw _ (List.mem_of_getElem? (i := 3) rfl)) (hw _ (List.mem_of_getElem? (i := 93) rfl)) (by decide) pd_16 (by decide) (by decide) (by decide) (by decide) J0.1 (anN_ct hw a s h0 n0 J0) rfl rfl (Nat.le_of_eq rfl) rfl at_147 r761
  have r763 : W h0 8 64 153 #[.val (.int n), .val (.long t1), .second, .val (.long t2), .second, .val (.long t3), .second, .val (.int bb), .val (.int lc), .val (.ref ia), .val pl, .val (.ref ra), .val (.ref a), .val (.int (1 : Int32)), .unset, .unset] [] := (H.ifNo at_150 r762 (teq (rfl : (0 : Int32) = 0)).2)
  have r764 : W h0 8 64 160 #[.val (.int n), .val (.long t1), .second, .val (.long t2), .second, .val (.long t3), .second, .val (.int bb), .val (.int lc), .val (.ref ia), .val pl, .val (.ref ra), .val (.ref a), .val (.int (1 : Int32)), .unset, .unset] [] := (H.istore at_158 (H.goto (pc' := 158) at_154 (H.iconst (z := (1 : Int32)) at_153 r763 rfl) (by decide) (by decide)) rfl)
  have r765 : W h0 8 64 165 #[.val (.int n), .val (.long t1), .second, .val (.long t2), .second, .val (.long t3), .second, .val (.int bb), .val (.int lc), .val (.ref ia), .val pl, .val (.ref ra), .val (.ref a), .val (.int (1 : Int32)), .unset, .unset] [(.int (n &&& (256 : Int32)))] := (H.iand at_164 (H.sipush (z := (256 : Int32)) at_161 (H.iloadN at_160 r764 rfl) rfl))
  by_cases h1 : (n &&& (256 : Int32)) = (0 : Int32)
  · have r766 : W h0 8 64 168 #[.val (.int n), .val (.long t1), .second, .val (.long t2), .second, .val (.long t3), .second, .val (.int bb), .val (.int lc), .val (.ref ia), .val pl, .val (.ref ra), .val (.ref a), .val (.int (1 : Int32)), .unset, .unset] [] := (H.ifNo at_165 r765 (teq h1).2)
    have r768 : W h0 8 64 170 #[.val (.int n), .val (.long t1), .second, .val (.long t2), .second, .val (.long t3), .second, .val (.int bb), .val (.int lc), .val (.ref ia), .val pl, .val (.ref ra), .val (.ref a), .val (.int (1 : Int32)), .unset, .unset] [(.int (1 : Int32))] := (H.iload at_168 r766 rfl)
    exact ⟨_, _, H.retZ rfl rfl (by decide) (by decide) at_170 r768, rfl⟩
  · have r767 : W h0 8 64 171 #[.val (.int n), .val (.long t1), .second, .val (.long t2), .second, .val (.long t3), .second, .val (.int bb), .val (.int lc), .val (.ref ia), .val pl, .val (.ref ra), .val (.ref a), .val (.int (1 : Int32)), .unset, .unset] [] := (H.ifYes (pc' := 171) at_165 r765 (by decide) (by decide) (feq h1).2)
    have r769 : W h0 8 64 179 #[.val (.int n), .val (.long t1), .second, .val (.long t2), .second, .val (.long t3), .second, .val (.int bb), .val (.int lc), .val (.ref ia), .val pl, .val (.ref ra), .val (.ref a), .val (.int (1 : Int32)), .val (.int (((n.toUInt32 >>> ((6 : Int32) &&& 31).toUInt32).toInt32) &&& (3 : Int32))), .unset] [] := (H.istore at_177 (H.iand at_176 (H.iconst (z := (3 : Int32)) at_175 (H.iushr at_174 (H.bipush (z := (6 : Int32)) at_172 (H.iloadN at_171 r767 rfl) rfl)) rfl)) rfl)
    generalize (((n.toUInt32 >>> ((6 : Int32) &&& 31).toUInt32).toInt32) &&& (3 : Int32)) = md at r769
    have r770 : W h0 8 64 181 #[.val (.int n), .val (.long t1), .second, .val (.long t2), .second, .val (.long t3), .second, .val (.int bb), .val (.int lc), .val (.ref ia), .val pl, .val (.ref ra), .val (.ref a), .val (.int (1 : Int32)), .val (.int md), .unset] [(.int md)] := (H.iload at_179 r769 rfl)
    by_cases h2 : md = (0 : Int32)
    · have r771 : W h0 8 64 184 #[.val (.int n), .val (.long t1), .second, .val (.long t2), .second, .val (.long t3), .second, .val (.int bb), .val (.int lc), .val (.ref ia), .val pl, .val (.ref ra), .val (.ref a), .val (.int (1 : Int32)), .val (.int md), .unset] [] := (H.ifNo at_181 r770 (teq h2).2)
      have r773 : W h0 8 64 188 #[.val (.int n), .val (.long t1), .second, .val (.long t2), .second, .val (.long t3), .second, .val (.int bb), .val (.int lc), .val (.ref ia), .val pl, .val (.ref ra), .val (.ref a), .val (.int (1 : Int32)), .val (.int md), .unset] [(.ref ra), (.ref ia)] := (H.aload at_186 (H.aload at_184 r771 rfl rfl) rfl rfl)
      obtain ⟨_, hfd, ⟨⟨g, rfl⟩, Kd⟩, r774⟩ := H.callSS (w := 0) (argsL := [(.ref ia), (.ref ra)]) (rest := []) (hw _ (List.mem_of_getElem? (i := 122) rfl)) (hw _ (List.mem_of_getElem? (i := 123) rfl)) (hw _ (List.mem_of_getElem? (i := 124) rfl)) (hw _ (List.mem_of_getElem? (i := 125) rfl)) (by decide) pd_18 (by decide) (by decide) (by decide) (by decide) (dn_ct hw ia ra u dc SD wS h0 n0 Z0 O0 XB B0 XC) rfl rfl (Nat.le_of_eq rfl) rfl at_188 r773
      have Z775 : n0 ≤ hfd.size := Nat.le_trans Z0 Kd.1
      replace r774 : W hfd 13 121 191 #[.val (.int n), .val (.long t1), .second, .val (.long t2), .second, .val (.long t3), .second, .val (.int bb), .val (.int lc), .val (.ref ia), .val pl, .val (.ref ra), .val (.ref a), .val (.int (1 : Int32)), .val (.int md), .unset] [(.ref g)] := r774
      have r776 : W hfd 13 121 193 #[.val (.int n), .val (.long t1), .second, .val (.long t2), .second, .val (.long t3), .second, .val (.int bb), .val (.int lc), .val (.ref ia), .val pl, .val (.ref ra), .val (.ref a), .val (.int (1 : Int32)), .val (.int md), .val (.ref g)] [] := (H.astore at_191 r774 rfl rfl)
      have r777 : W hfd 13 121 250 #[.val (.int n), .val (.long t1), .second, .val (.long t2), .second, .val (.long t3), .second, .val (.int bb), .val (.int lc), .val (.ref ia), .val pl, .val (.ref ra), .val (.ref a), .val (.int (1 : Int32)), .val (.int md), .val (.ref g)] [] := (H.goto (pc' := 250) at_193 r776 (by decide) (by decide))
      have F778 := O0.keep Kd all0
      exact tail3 hw n bb lc t1 t2 t3 ia ra a s m pl hpl md g da S3 Z775 N0 NM nsa nma F778 (J0.keep Kd nin0) (S0.keep Kd nin0 nin0) H (H.more (by decide) (by decide) r777)
    · have r772 : W h0 8 64 196 #[.val (.int n), .val (.long t1), .second, .val (.long t2), .second, .val (.long t3), .second, .val (.int bb), .val (.int lc), .val (.ref ia), .val pl, .val (.ref ra), .val (.ref a), .val (.int (1 : Int32)), .val (.int md), .unset] [] := (H.ifYes (pc' := 196) at_181 r770 (by decide) (by decide) (feq h2).2)
      have r779 : W h0 8 64 199 #[.val (.int n), .val (.long t1), .second, .val (.long t2), .second, .val (.long t3), .second, .val (.int bb), .val (.int lc), .val (.ref ia), .val pl, .val (.ref ra), .val (.ref a), .val (.int (1 : Int32)), .val (.int md), .unset] [(.int (1 : Int32)), (.int md)] := (H.iconst (z := (1 : Int32)) at_198 (H.iload at_196 r772 rfl) rfl)
      by_cases h3 : md = (1 : Int32)
      · have r780 : W h0 8 64 202 #[.val (.int n), .val (.long t1), .second, .val (.long t2), .second, .val (.long t3), .second, .val (.int bb), .val (.int lc), .val (.ref ia), .val pl, .val (.ref ra), .val (.ref a), .val (.int (1 : Int32)), .val (.int md), .unset] [] := (H.icmpNo at_199 r779 (teq h3).2)
        have r782 : W h0 8 64 204 #[.val (.int n), .val (.long t1), .second, .val (.long t2), .second, .val (.long t3), .second, .val (.int bb), .val (.int lc), .val (.ref ia), .val pl, .val (.ref ra), .val (.ref a), .val (.int (1 : Int32)), .val (.int md), .unset] [(.ref ia)] := (H.aload at_202 r780 rfl rfl)
        have r783 : W h0 8 64 207 #[.val (.int n), .val (.long t1), .second, .val (.long t2), .second, .val (.long t3), .second, .val (.int bb), .val (.int lc), .val (.ref ia), .val pl, .val (.ref ra), .val (.ref a), .val (.int (1 : Int32)), .val (.int md), .unset] [(.ref ee), (.ref ia)] := H.getS (hw _ (List.mem_of_getElem? (i := 268) rfl)) (Sta.ext O0.2 SE) at_204 r782
        have r784 : W h0 8 64 209 #[.val (.int n), .val (.long t1), .second, .val (.long t2), .second, .val (.long t3), .second, .val (.int bb), .val (.int lc), .val (.ref ia), .val pl, .val (.ref ra), .val (.ref a), .val (.int (1 : Int32)), .val (.int md), .unset] [(.ref ra), (.ref ee), (.ref ia)] := (H.aload at_207 r783 rfl rfl)
        obtain ⟨_, hfe, ⟨⟨g, rfl⟩, Ke⟩, r785⟩ := H.callSS (w := 0) (argsL := [(.ref ia), (.ref ee), (.ref ra)]) (rest := []) (hw _ (List.mem_of_getElem? (i := 259) rfl)) (hw _ (List.mem_of_getElem? (i := 260) rfl)) (hw _ (List.mem_of_getElem? (i := 124) rfl)) (hw _ (List.mem_of_getElem? (i := 261) rfl)) (by decide) pd_19 (by decide) (by decide) (by decide) (by decide) (fd_ct hw ia ee ra u fc SF wS h0 n0 Z0 O0 XB B0 XC (Exa.ext O0.2 XE)) rfl rfl (Nat.le_of_eq rfl) rfl at_209 r784
        have Z786 : n0 ≤ hfe.size := Nat.le_trans Z0 Ke.1
        replace r785 : W hfe 15 149 212 #[.val (.int n), .val (.long t1), .second, .val (.long t2), .second, .val (.long t3), .second, .val (.int bb), .val (.int lc), .val (.ref ia), .val pl, .val (.ref ra), .val (.ref a), .val (.int (1 : Int32)), .val (.int md), .unset] [(.ref g)] := r785
        have r787 : W hfe 15 149 214 #[.val (.int n), .val (.long t1), .second, .val (.long t2), .second, .val (.long t3), .second, .val (.int bb), .val (.int lc), .val (.ref ia), .val pl, .val (.ref ra), .val (.ref a), .val (.int (1 : Int32)), .val (.int md), .val (.ref g)] [] := (H.astore at_212 r785 rfl rfl)
        have r788 : W hfe 15 149 250 #[.val (.int n), .val (.long t1), .second, .val (.long t2), .second, .val (.long t3), .second, .val (.int bb), .val (.int lc), .val (.ref ia), .val pl, .val (.ref ra), .val (.ref a), .val (.int (1 : Int32)), .val (.int md), .val (.ref g)] [] := (H.goto (pc' := 250) at_214 r787 (by decide) (by decide))
        have F789 := O0.keep Ke all0
        exact tail3 hw n bb lc t1 t2 t3 ia ra a s m pl hpl md g da S3 Z786 N0 NM nsa nma F789 (J0.keep Ke nin0) (S0.keep Ke nin0 nin0) H (H.more (by decide) (by decide) r788)
      · have r781 : W h0 8 64 217 #[.val (.int n), .val (.long t1), .second, .val (.long t2), .second, .val (.long t3), .second, .val (.int bb), .val (.int lc), .val (.ref ia), .val pl, .val (.ref ra), .val (.ref a), .val (.int (1 : Int32)), .val (.int md), .unset] [] := (H.icmpYes (pc' := 217) at_199 r779 (by decide) (by decide) (feq h3).2)
        have r790 : W h0 8 64 220 #[.val (.int n), .val (.long t1), .second, .val (.long t2), .second, .val (.long t3), .second, .val (.int bb), .val (.int lc), .val (.ref ia), .val pl, .val (.ref ra), .val (.ref a), .val (.int (1 : Int32)), .val (.int md), .unset] [(.int (2 : Int32)), (.int md)] := (H.iconst (z := (2 : Int32)) at_219 (H.iload at_217 r781 rfl) rfl)
        by_cases h4 : md = (2 : Int32)
        · have r791 : W h0 8 64 223 #[.val (.int n), .val (.long t1), .second, .val (.long t2), .second, .val (.long t3), .second, .val (.int bb), .val (.int lc), .val (.ref ia), .val pl, .val (.ref ra), .val (.ref a), .val (.int (1 : Int32)), .val (.int md), .unset] [] := (H.icmpNo at_220 r790 (teq h4).2)
          have r793 : W h0 8 64 225 #[.val (.int n), .val (.long t1), .second, .val (.long t2), .second, .val (.long t3), .second, .val (.int bb), .val (.int lc), .val (.ref ia), .val pl, .val (.ref ra), .val (.ref a), .val (.int (1 : Int32)), .val (.int md), .unset] [(.ref ia)] := (H.aload at_223 r791 rfl rfl)
          have r794 : W h0 8 64 228 #[.val (.int n), .val (.long t1), .second, .val (.long t2), .second, .val (.long t3), .second, .val (.int bb), .val (.int lc), .val (.ref ia), .val pl, .val (.ref ra), .val (.ref a), .val (.int (1 : Int32)), .val (.int md), .unset] [(.ref en), (.ref ia)] := H.getS (hw _ (List.mem_of_getElem? (i := 270) rfl)) (Sta.ext O0.2 SN_) at_225 r793
          have r795 : W h0 8 64 230 #[.val (.int n), .val (.long t1), .second, .val (.long t2), .second, .val (.long t3), .second, .val (.int bb), .val (.int lc), .val (.ref ia), .val pl, .val (.ref ra), .val (.ref a), .val (.int (1 : Int32)), .val (.int md), .unset] [(.ref ra), (.ref en), (.ref ia)] := (H.aload at_228 r794 rfl rfl)
          obtain ⟨_, hfp, ⟨⟨g, rfl⟩, Kp⟩, r796⟩ := H.callSS (w := 0) (argsL := [(.ref ia), (.ref en), (.ref ra)]) (rest := []) (hw _ (List.mem_of_getElem? (i := 259) rfl)) (hw _ (List.mem_of_getElem? (i := 260) rfl)) (hw _ (List.mem_of_getElem? (i := 124) rfl)) (hw _ (List.mem_of_getElem? (i := 261) rfl)) (by decide) pd_19 (by decide) (by decide) (by decide) (by decide) (fd_ct hw ia en ra u fc SF wS h0 n0 Z0 O0 XB B0 XC (Exa.ext O0.2 XN)) rfl rfl (Nat.le_of_eq rfl) rfl at_230 r795
          have Z797 : n0 ≤ hfp.size := Nat.le_trans Z0 Kp.1
          replace r796 : W hfp 15 149 233 #[.val (.int n), .val (.long t1), .second, .val (.long t2), .second, .val (.long t3), .second, .val (.int bb), .val (.int lc), .val (.ref ia), .val pl, .val (.ref ra), .val (.ref a), .val (.int (1 : Int32)), .val (.int md), .unset] [(.ref g)] := r796
          have r798 : W hfp 15 149 235 #[.val (.int n), .val (.long t1), .second, .val (.long t2), .second, .val (.long t3), .second, .val (.int bb), .val (.int lc), .val (.ref ia), .val pl, .val (.ref ra), .val (.ref a), .val (.int (1 : Int32)), .val (.int md), .val (.ref g)] [] := (H.astore at_233 r796 rfl rfl)
          have r799 : W hfp 15 149 250 #[.val (.int n), .val (.long t1), .second, .val (.long t2), .second, .val (.long t3), .second, .val (.int bb), .val (.int lc), .val (.ref ia), .val pl, .val (.ref ra), .val (.ref a), .val (.int (1 : Int32)), .val (.int md), .val (.ref g)] [] := (H.goto (pc' := 250) at_235 r798 (by decide) (by decide))
          have F800 := O0.keep Kp all0
          exact tail3 hw n bb lc t1 t2 t3 ia ra a s m pl hpl md g da S3 Z797 N0 NM nsa nma F800 (J0.keep Kp nin0) (S0.keep Kp nin0 nin0) H (H.more (by decide) (by decide) r799)
        · have r792 : W h0 8 64 238 #[.val (.int n), .val (.long t1), .second, .val (.long t2), .second, .val (.long t3), .second, .val (.int bb), .val (.int lc), .val (.ref ia), .val pl, .val (.ref ra), .val (.ref a), .val (.int (1 : Int32)), .val (.int md), .unset] [] := (H.icmpYes (pc' := 238) at_220 r790 (by decide) (by decide) (feq h4).2)
          have r801 : W h0 8 64 240 #[.val (.int n), .val (.long t1), .second, .val (.long t2), .second, .val (.long t3), .second, .val (.int bb), .val (.int lc), .val (.ref ia), .val pl, .val (.ref ra), .val (.ref a), .val (.int (1 : Int32)), .val (.int md), .unset] [(.ref ia)] := (H.aload at_238 r792 rfl rfl)
          have r802 : W h0 8 64 243 #[.val (.int n), .val (.long t1), .second, .val (.long t2), .second, .val (.long t3), .second, .val (.int bb), .val (.int lc), .val (.ref ia), .val pl, .val (.ref ra), .val (.ref a), .val (.int (1 : Int32)), .val (.int md), .unset] [(.ref ew), (.ref ia)] := H.getS (hw _ (List.mem_of_getElem? (i := 256) rfl)) (Sta.ext O0.2 SW) at_240 r801
          have r803 : W h0 8 64 245 #[.val (.int n), .val (.long t1), .second, .val (.long t2), .second, .val (.long t3), .second, .val (.int bb), .val (.int lc), .val (.ref ia), .val pl, .val (.ref ra), .val (.ref a), .val (.int (1 : Int32)), .val (.int md), .unset] [(.ref ra), (.ref ew), (.ref ia)] := (H.aload at_243 r802 rfl rfl)
          obtain ⟨_, hfw, ⟨⟨g, rfl⟩, Kw⟩, r804⟩ := H.callSS (w := 0) (argsL := [(.ref ia), (.ref ew), (.ref ra)]) (rest := []) (hw _ (List.mem_of_getElem? (i := 259) rfl)) (hw _ (List.mem_of_getElem? (i := 260) rfl)) (hw _ (List.mem_of_getElem? (i := 124) rfl)) (hw _ (List.mem_of_getElem? (i := 261) rfl)) (by decide) pd_19 (by decide) (by decide) (by decide) (by decide) (fd_ct hw ia ew ra u fc SF wS h0 n0 Z0 O0 XB B0 XC (Exa.ext O0.2 XW)) rfl rfl (Nat.le_of_eq rfl) rfl at_245 r803
          have Z805 : n0 ≤ hfw.size := Nat.le_trans Z0 Kw.1
          replace r804 : W hfw 15 149 248 #[.val (.int n), .val (.long t1), .second, .val (.long t2), .second, .val (.long t3), .second, .val (.int bb), .val (.int lc), .val (.ref ia), .val pl, .val (.ref ra), .val (.ref a), .val (.int (1 : Int32)), .val (.int md), .unset] [(.ref g)] := r804
          have r806 : W hfw 15 149 250 #[.val (.int n), .val (.long t1), .second, .val (.long t2), .second, .val (.long t3), .second, .val (.int bb), .val (.int lc), .val (.ref ia), .val pl, .val (.ref ra), .val (.ref a), .val (.int (1 : Int32)), .val (.int md), .val (.ref g)] [] := (H.astore at_248 r804 rfl rfl)
          have F807 := O0.keep Kw all0
          exact tail3 hw n bb lc t1 t2 t3 ia ra a s m pl hpl md g da S3 Z805 N0 NM nsa nma F807 (J0.keep Kw nin0) (S0.keep Kw nin0 nin0) H (H.more (by decide) (by decide) r806)
set_option maxRecDepth 65536 in
set_option maxHeartbeats 40000000 in
theorem tail1 {l : Launch} {Z : State} {a0 : Array Value} (hw : ∀ d ∈ tables_1, d.before a0 Z = true) {n0 : Nat} {W : WT} {V : VT} {h0 : Heap} (n bb lc : Int32) (t1 t2 t3 : Int64) (ia ra : Addr) (pl : Value) (hpl : pl.isRef = true) (u : Value) (dc : Addr) (SD : Sta Z Z.heap "com/example/lively_broker/livelybroker/wire/Command" "DONE" "Lcom/example/lively_broker/livelybroker/wire/Command;" (.ref dc)) (fc : Addr) (SF : Sta Z Z.heap "com/example/lively_broker/livelybroker/wire/Command" "FAILED" "Lcom/example/lively_broker/livelybroker/wire/Command;" (.ref fc)) (ee : Addr) (SE : Sta Z Z.heap "com/example/lively_broker/livelybroker/wire/FailureReason" "ERROR" "Lcom/example/lively_broker/livelybroker/wire/FailureReason;" (.ref ee)) (XE : Exa Z Z.heap ee "com/example/lively_broker/livelybroker/wire/FailureReason") (en : Addr) (SN_ : Sta Z Z.heap "com/example/lively_broker/livelybroker/wire/FailureReason" "NOT_PLACED" "Lcom/example/lively_broker/livelybroker/wire/FailureReason;" (.ref en)) (XN : Exa Z Z.heap en "com/example/lively_broker/livelybroker/wire/FailureReason") (ew : Addr) (SW : Sta Z Z.heap "com/example/lively_broker/livelybroker/wire/FailureReason" "WORKER_LOST" "Lcom/example/lively_broker/livelybroker/wire/FailureReason;" (.ref ew)) (XW : Exa Z Z.heap ew "com/example/lively_broker/livelybroker/wire/FailureReason") (da : Addr) (S3 : Sta Z Z.heap "java/util/ArrayList" "EMPTY_ELEMENTDATA" "[Ljava/lang/Object;" (.ref da)) (wS : ∀ a ∈ Bundle.stringAtoms, a.before a0 Z = true) (Z0 : n0 ≤ h0.size) (O0 : Old Z n0 h0) (XB : Exa Z h0 ia "[B") (B0 : Ary Z h0 ia .byte [u]) (XC : Exa Z h0 ra "[B") (H : WkT l Z Jvm.Pilot.@@N@@.x code maxLocals ret room_1 n0 W V) (r0 : W h0 3 3 49 #[.val (.int n), .val (.long t1), .second, .val (.long t2), .second, .val (.long t3), .second, .val (.int bb), .val (.int lc), .val (.ref ia), .val pl, .val (.ref ra), .unset, .unset, .unset, .unset] []) : ∃ v h', V v h' ∧ v = some (.int 1) := by
  obtain ⟨h808, a, ea809, E810, X811, D812, U813, r814⟩ := H.newO (hw _ (List.mem_of_getElem? (i := 1) rfl)) (hw _ (List.mem_of_getElem? (i := 2) rfl)) (hw _ (List.mem_of_getElem? (i := 3) rfl)) (by decide) (by decide) at_49 r0
  have ne815 : ia ≠ a := Nat.ne_of_lt (by rw [ea809]; exact XB.lt)
  have ne816 : ra ≠ a := Nat.ne_of_lt (by rw [ea809]; exact XC.lt)
  have N817 : n0 ≤ a := by rw [ea809]; exact Z0
  have Z818 : n0 ≤ h808.size := Nat.le_trans Z0 E810.1
  have G819 : Fld Z h808 a "com/example/lively_broker/livelybroker/broker/Job" "clients" "Ljava/util/Set;" (.null) := D812 (ty := (.object "java/util/Set")) (Or.inr (hw _ (List.mem_of_getElem? (i := 80) rfl))) (by decide +kernel)
  have G820 : Fld Z h808 a "com/example/lively_broker/livelybroker/broker/Job" "id" "[B" (.null) := D812 (ty := (.array .byte)) (Or.inr (hw _ (List.mem_of_getElem? (i := 82) rfl))) (by decide +kernel)
  have G821 : Fld Z h808 a "com/example/lively_broker/livelybroker/broker/Job" "payload" "[B" (.null) := D812 (ty := (.array .byte)) (Or.inl (hw _ (List.mem_of_getElem? (i := 84) rfl))) (by decide +kernel)
  have G822 : Fld Z h808 a "com/example/lively_broker/livelybroker/broker/Job" "acceptedAt" "J" (.long 0) := D812 (ty := .long) (Or.inr (hw _ (List.mem_of_getElem? (i := 86) rfl))) (by decide +kernel)
  have G823 : Fld Z h808 a "com/example/lively_broker/livelybroker/broker/Job" "number" "J" (.long 0) := D812 (ty := .long) (Or.inr (hw _ (List.mem_of_getElem? (i := 88) rfl))) (by decide +kernel)
  have G824 : Fld Z h808 a "com/example/lively_broker/livelybroker/broker/Job" "answer" "Lcom/example/lively_broker/livelybroker/wire/Message;" (.null) := D812 (ty := (.object "com/example/lively_broker/livelybroker/wire/Message")) (Or.inl (hw _ (List.mem_of_getElem? (i := 95) rfl))) (by decide +kernel)
  have G825 : Fld Z h808 a "com/example/lively_broker/livelybroker/broker/Job" "lostWorkers" "I" (.int 0) := D812 (ty := .int) (Or.inl (hw _ (List.mem_of_getElem? (i := 102) rfl))) (by decide +kernel)
  have G826 : Fld Z h808 a "com/example/lively_broker/livelybroker/broker/Job" "takenBack" "Z" (.int 0) := D812 (ty := .boolean) (Or.inl (hw _ (List.mem_of_getElem? (i := 109) rfl))) (by decide +kernel)
  have G827 : Fld Z h808 a "com/example/lively_broker/livelybroker/broker/Job" "placed" "Z" (.int 0) := D812 (ty := .boolean) (Or.inl (hw _ (List.mem_of_getElem? (i := 116) rfl))) (by decide +kernel)
  have G828 : Fld Z h808 a "com/example/lively_broker/livelybroker/broker/Job" "answeredAt" "J" (.long 0) := D812 (ty := .long) (Or.inl (hw _ (List.mem_of_getElem? (i := 174) rfl))) (by decide +kernel)
  replace r814 : W h808 4 13 52 #[.val (.int n), .val (.long t1), .second, .val (.long t2), .second, .val (.long t3), .second, .val (.int bb), .val (.int lc), .val (.ref ia), .val pl, .val (.ref ra), .unset, .unset, .unset, .unset] [(.ref a)] := r814
  have r829 : W h808 4 13 59 #[.val (.int n), .val (.long t1), .second, .val (.long t2), .second, .val (.long t3), .second, .val (.int bb), .val (.int lc), .val (.ref ia), .val pl, .val (.ref ra), .unset, .unset, .unset, .unset] [(.long t2), (.long t1), pl, (.ref ia), (.ref a), (.ref a)] := (H.lloadN at_58 (H.lloadN at_57 (H.aload at_55 (H.aload at_53 (H.dup at_52 r814 rfl) rfl rfl) rfl hpl) rfl) rfl)
  obtain ⟨_, hj, ⟨rfl, Kj, s, m, NS, NM, nsa, nma, Jj, Sj⟩, r830⟩ := H.callI (w := 1) (argsL := [(.ref ia), pl, (.long t1), (.long t2)]) (rest := [(.ref a)]) rfl (hw _ (List.mem_of_getElem? (i := 4) rfl)) (hw _ (List.mem_of_getElem? (i := 5) rfl)) (hw _ (List.mem_of_getElem? (i := 3) rfl)) (hw _ (List.mem_of_getElem? (i := 6) rfl)) (by decide) pd_20 (by decide) (by decide) (by decide) (by decide) (job_ct hw a ia pl hpl t1 t2 h808 n0 Z818 N817 X811 G819 G820 G821 G822 G823 G824 G828 G826 G827 G825) (fun _ _ q => by first | exact q.2.1.1 | exact q.2.1) rfl rfl (Nat.le_of_eq rfl) rfl at_59 r829
  have Z831 : n0 ≤ hj.size := Nat.le_trans Z818 Kj.1
  replace r830 : W hj 6 26 62 #[.val (.int n), .val (.long t1), .second, .val (.long t2), .second, .val (.long t3), .second, .val (.int bb), .val (.int lc), .val (.ref ia), .val pl, .val (.ref ra), .unset, .unset, .unset, .unset] [(.ref a)] := r830
  have r832 : W hj 6 26 64 #[.val (.int n), .val (.long t1), .second, .val (.long t2), .second, .val (.long t3), .second, .val (.int bb), .val (.int lc), .val (.ref ia), .val pl, .val (.ref ra), .val (.ref a), .unset, .unset, .unset] [] := (H.astore at_62 r830 rfl rfl)
  have r833 : W hj 6 26 66 #[.val (.int n), .val (.long t1), .second, .val (.long t2), .second, .val (.long t3), .second, .val (.int bb), .val (.int lc), .val (.ref ia), .val pl, .val (.ref ra), .val (.ref a), .unset, .unset, .unset] [(.ref a)] := (H.aload at_64 r832 rfl rfl)
  have r834 : W hj 6 26 69 #[.val (.int n), .val (.long t1), .second, .val (.long t2), .second, .val (.long t3), .second, .val (.int bb), .val (.int lc), .val (.ref ia), .val pl, .val (.ref ra), .val (.ref a), .unset, .unset, .unset] [(.int (0 : Int32))] := H.callVP (w := 0) (argsL := []) (rest := []) (hw _ (List.mem_of_getElem? (i := 89) rfl)) (hw _ (List.mem_of_getElem? (i := 90) rfl)) (Or.inl ⟨_, _, (hw _ (List.mem_of_getElem? (i := 92) rfl)), rfl⟩) (hw _ (List.mem_of_getElem? (i := 92) rfl)) (hw _ (List.mem_of_getElem? (i := 91) rfl)) (hw _ (List.mem_of_getElem? (i := 3) rfl)) (hw _ (List.mem_of_getElem? (i := 93) rfl)) (by decide) pd_16 (by decide) (by decide) (by decide) (by decide) Jj.1 (anN_ct hw a s hj n0 Jj) rfl rfl (Nat.le_of_eq rfl) rfl at_66 r833
  have r835 : W hj 6 26 72 #[.val (.int n), .val (.long t1), .second, .val (.long t2), .second, .val (.long t3), .second, .val (.int bb), .val (.int lc), .val (.ref ia), .val pl, .val (.ref ra), .val (.ref a), .unset, .unset, .unset] [] := (H.ifNo at_69 r834 (teq (rfl : (0 : Int32) = 0)).2)
  have r836 : W hj 6 26 79 #[.val (.int n), .val (.long t1), .second, .val (.long t2), .second, .val (.long t3), .second, .val (.int bb), .val (.int lc), .val (.ref ia), .val pl, .val (.ref ra), .val (.ref a), .val (.int (1 : Int32)), .unset, .unset] [] := (H.istore at_77 (H.goto (pc' := 77) at_73 (H.iconst (z := (1 : Int32)) at_72 r835 rfl) (by decide) (by decide)) rfl)
  have r837 : W hj 6 26 82 #[.val (.int n), .val (.long t1), .second, .val (.long t2), .second, .val (.long t3), .second, .val (.int bb), .val (.int lc), .val (.ref ia), .val pl, .val (.ref ra), .val (.ref a), .val (.int (1 : Int32)), .unset, .unset] [(.int (n &&& (2 : Int32)))] := (H.iand at_81 (H.iconst (z := (2 : Int32)) at_80 (H.iloadN at_79 r836 rfl) rfl))
  obtain ⟨hp0, Kp0, Jp0, r843⟩ : ∃ h', Keep hj h' [a] ∧ own_job Z h' a .null s ∧ W h' 6 26 90 #[.val (.int n), .val (.long t1), .second, .val (.long t2), .second, .val (.long t3), .second, .val (.int bb), .val (.int lc), .val (.ref ia), .val pl, .val (.ref ra), .val (.ref a), .val (.int (1 : Int32)), .unset, .unset] [] := by
    by_cases f0 : (n &&& (2 : Int32)) = (0 : Int32)
    · have r838 : W hj 6 26 90 #[.val (.int n), .val (.long t1), .second, .val (.long t2), .second, .val (.long t3), .second, .val (.int bb), .val (.int lc), .val (.ref ia), .val pl, .val (.ref ra), .val (.ref a), .val (.int (1 : Int32)), .unset, .unset] [] := (H.ifYes (pc' := 90) at_82 r837 (by decide) (by decide) (teq f0).1)
      exact ⟨_, Keep.refl _ _, Jj, r838⟩
    · have r839 : W hj 6 26 85 #[.val (.int n), .val (.long t1), .second, .val (.long t2), .second, .val (.long t3), .second, .val (.int bb), .val (.int lc), .val (.ref ia), .val pl, .val (.ref ra), .val (.ref a), .val (.int (1 : Int32)), .unset, .unset] [] := (H.ifNo at_82 r837 (feq f0).1)
      have r840 : W hj 6 26 87 #[.val (.int n), .val (.long t1), .second, .val (.long t2), .second, .val (.long t3), .second, .val (.int bb), .val (.int lc), .val (.ref ia), .val pl, .val (.ref ra), .val (.ref a), .val (.int (1 : Int32)), .unset, .unset] [(.ref a)] := (H.aload at_85 r839 rfl rfl)
      obtain ⟨_, hkk, ⟨rfl, KK, JJ⟩, r841⟩ := H.callV (w := 0) (argsL := []) (rest := []) (hw _ (List.mem_of_getElem? (i := 117) rfl)) (hw _ (List.mem_of_getElem? (i := 118) rfl)) (Or.inl ⟨_, _, (hw _ (List.mem_of_getElem? (i := 120) rfl)), rfl⟩) (hw _ (List.mem_of_getElem? (i := 120) rfl)) (hw _ (List.mem_of_getElem? (i := 119) rfl)) (hw _ (List.mem_of_getElem? (i := 3) rfl)) (hw _ (List.mem_of_getElem? (i := 121) rfl)) (by decide) pd_0 (by decide) (by decide) (by decide) (by decide) Jj.1 (mp_ct hw a s .null hj n0 Z831 N817 Jj) (fun _ _ q => by first | exact q.2.1.1 | exact q.2.1) rfl rfl (Nat.le_of_eq rfl) rfl at_87 r840
      have Z842 : n0 ≤ hkk.size := Nat.le_trans Z831 KK.1
      replace r841 : W hkk 6 26 90 #[.val (.int n), .val (.long t1), .second, .val (.long t2), .second, .val (.long t3), .second, .val (.int bb), .val (.int lc), .val (.ref ia), .val pl, .val (.ref ra), .val (.ref a), .val (.int (1 : Int32)), .unset, .unset] [] := r841
      exact ⟨_, KK, JJ, r841⟩
  have Z844 : n0 ≤ hp0.size := Nat.le_trans Z831 Kp0.1
  have Sp0 := Sj.keep Kp0 (ninS nsa nin0) (ninS nma nin0)
  have r845 : W hp0 6 26 93 #[.val (.int n), .val (.long t1), .second, .val (.long t2), .second, .val (.long t3), .second, .val (.int bb), .val (.int lc), .val (.ref ia), .val pl, .val (.ref ra), .val (.ref a), .val (.int (1 : Int32)), .unset, .unset] [(.int (n &&& (4 : Int32)))] := (H.iand at_92 (H.iconst (z := (4 : Int32)) at_91 (H.iloadN at_90 r843 rfl) rfl))
  obtain ⟨hp1, Kp1, Jp1, r851⟩ : ∃ h', Keep hp0 h' [a] ∧ own_job Z h' a .null s ∧ W h' 6 26 101 #[.val (.int n), .val (.long t1), .second, .val (.long t2), .second, .val (.long t3), .second, .val (.int bb), .val (.int lc), .val (.ref ia), .val pl, .val (.ref ra), .val (.ref a), .val (.int (1 : Int32)), .unset, .unset] [] := by
    by_cases f1 : (n &&& (4 : Int32)) = (0 : Int32)
    · have r846 : W hp0 6 26 101 #[.val (.int n), .val (.long t1), .second, .val (.long t2), .second, .val (.long t3), .second, .val (.int bb), .val (.int lc), .val (.ref ia), .val pl, .val (.ref ra), .val (.ref a), .val (.int (1 : Int32)), .unset, .unset] [] := (H.ifYes (pc' := 101) at_93 r845 (by decide) (by decide) (teq f1).1)
      exact ⟨_, Keep.refl _ _, Jp0, r846⟩
    · have r847 : W hp0 6 26 96 #[.val (.int n), .val (.long t1), .second, .val (.long t2), .second, .val (.long t3), .second, .val (.int bb), .val (.int lc), .val (.ref ia), .val pl, .val (.ref ra), .val (.ref a), .val (.int (1 : Int32)), .unset, .unset] [] := (H.ifNo at_93 r845 (feq f1).1)
      have r848 : W hp0 6 26 98 #[.val (.int n), .val (.long t1), .second, .val (.long t2), .second, .val (.long t3), .second, .val (.int bb), .val (.int lc), .val (.ref ia), .val pl, .val (.ref ra), .val (.ref a), .val (.int (1 : Int32)), .unset, .unset] [(.ref a)] := (H.aload at_96 r847 rfl rfl)
      obtain ⟨_, hkk, ⟨rfl, KK, JJ⟩, r849⟩ := H.callV (w := 0) (argsL := []) (rest := []) (hw _ (List.mem_of_getElem? (i := 103) rfl)) (hw _ (List.mem_of_getElem? (i := 104) rfl)) (Or.inl ⟨_, _, (hw _ (List.mem_of_getElem? (i := 106) rfl)), rfl⟩) (hw _ (List.mem_of_getElem? (i := 106) rfl)) (hw _ (List.mem_of_getElem? (i := 105) rfl)) (hw _ (List.mem_of_getElem? (i := 3) rfl)) (hw _ (List.mem_of_getElem? (i := 107) rfl)) (by decide) pd_0 (by decide) (by decide) (by decide) (by decide) Jp0.1 (mt_ct hw a s .null hp0 n0 Z844 N817 Jp0) (fun _ _ q => by first | exact q.2.1.1 | exact q.2.1) rfl rfl (Nat.le_of_eq rfl) rfl at_98 r848
      have Z850 : n0 ≤ hkk.size := Nat.le_trans Z844 KK.1
      replace r849 : W hkk 6 26 101 #[.val (.int n), .val (.long t1), .second, .val (.long t2), .second, .val (.long t3), .second, .val (.int bb), .val (.int lc), .val (.ref ia), .val pl, .val (.ref ra), .val (.ref a), .val (.int (1 : Int32)), .unset, .unset] [] := r849
      exact ⟨_, KK, JJ, r849⟩
  have Z852 : n0 ≤ hp1.size := Nat.le_trans Z844 Kp1.1
  have Sp1 := Sp0.keep Kp1 (ninS nsa nin0) (ninS nma nin0)
  have r853 : W hp1 6 26 105 #[.val (.int n), .val (.long t1), .second, .val (.long t2), .second, .val (.long t3), .second, .val (.int bb), .val (.int lc), .val (.ref ia), .val pl, .val (.ref ra), .val (.ref a), .val (.int (1 : Int32)), .unset, .unset] [(.int (n &&& (8 : Int32)))] := (H.iand at_104 (H.bipush (z := (8 : Int32)) at_102 (H.iloadN at_101 r851 rfl) rfl))
  obtain ⟨hp2, Kp2, Jp2, r860⟩ : ∃ h', Keep hp1 h' [a] ∧ own_job Z h' a .null s ∧ W h' 6 26 114 #[.val (.int n), .val (.long t1), .second, .val (.long t2), .second, .val (.long t3), .second, .val (.int bb), .val (.int lc), .val (.ref ia), .val pl, .val (.ref ra), .val (.ref a), .val (.int (1 : Int32)), .unset, .unset] [] := by
    by_cases f2 : (n &&& (8 : Int32)) = (0 : Int32)
    · have r854 : W hp1 6 26 114 #[.val (.int n), .val (.long t1), .second, .val (.long t2), .second, .val (.long t3), .second, .val (.int bb), .val (.int lc), .val (.ref ia), .val pl, .val (.ref ra), .val (.ref a), .val (.int (1 : Int32)), .unset, .unset] [] := (H.ifYes (pc' := 114) at_105 r853 (by decide) (by decide) (teq f2).1)
      exact ⟨_, Keep.refl _ _, Jp1, r854⟩
    · have r855 : W hp1 6 26 108 #[.val (.int n), .val (.long t1), .second, .val (.long t2), .second, .val (.long t3), .second, .val (.int bb), .val (.int lc), .val (.ref ia), .val pl, .val (.ref ra), .val (.ref a), .val (.int (1 : Int32)), .unset, .unset] [] := (H.ifNo at_105 r853 (feq f2).1)
      have r856 : W hp1 6 26 110 #[.val (.int n), .val (.long t1), .second, .val (.long t2), .second, .val (.long t3), .second, .val (.int bb), .val (.int lc), .val (.ref ia), .val pl, .val (.ref ra), .val (.ref a), .val (.int (1 : Int32)), .unset, .unset] [(.ref a)] := (H.aload at_108 r855 rfl rfl)
      obtain ⟨_, hkk, ⟨⟨zc, rfl⟩, KK, JJ⟩, r857⟩ := H.callV (w := 0) (argsL := []) (rest := []) (hw _ (List.mem_of_getElem? (i := 96) rfl)) (hw _ (List.mem_of_getElem? (i := 97) rfl)) (Or.inl ⟨_, _, (hw _ (List.mem_of_getElem? (i := 99) rfl)), rfl⟩) (hw _ (List.mem_of_getElem? (i := 99) rfl)) (hw _ (List.mem_of_getElem? (i := 98) rfl)) (hw _ (List.mem_of_getElem? (i := 3) rfl)) (hw _ (List.mem_of_getElem? (i := 100) rfl)) (by decide) pd_6 (by decide) (by decide) (by decide) (by decide) Jp1.1 (cl_ct hw a s .null hp1 n0 Z852 N817 Jp1) (fun _ _ q => by first | exact q.2.1.1 | exact q.2.1) rfl rfl (Nat.le_of_eq rfl) rfl at_110 r856
      have Z858 : n0 ≤ hkk.size := Nat.le_trans Z852 KK.1
      replace r857 : W hkk 6 26 113 #[.val (.int n), .val (.long t1), .second, .val (.long t2), .second, .val (.long t3), .second, .val (.int bb), .val (.int lc), .val (.ref ia), .val pl, .val (.ref ra), .val (.ref a), .val (.int (1 : Int32)), .unset, .unset] [(.int zc)] := r857
      have r859 : W hkk 6 26 114 #[.val (.int n), .val (.long t1), .second, .val (.long t2), .second, .val (.long t3), .second, .val (.int bb), .val (.int lc), .val (.ref ia), .val pl, .val (.ref ra), .val (.ref a), .val (.int (1 : Int32)), .unset, .unset] [] := (H.pop at_113 r857 rfl)
      exact ⟨_, KK, JJ, r859⟩
  have Z861 : n0 ≤ hp2.size := Nat.le_trans Z852 Kp2.1
  have Sp2 := Sp1.keep Kp2 (ninS nsa nin0) (ninS nma nin0)
  have r862 : W hp2 6 26 118 #[.val (.int n), .val (.long t1), .second, .val (.long t2), .second, .val (.long t3), .second, .val (.int bb), .val (.int lc), .val (.ref ia), .val pl, .val (.ref ra), .val (.ref a), .val (.int (1 : Int32)), .unset, .unset] [(.int (n &&& (16 : Int32)))] := (H.iand at_117 (H.bipush (z := (16 : Int32)) at_115 (H.iloadN at_114 r860 rfl) rfl))
  obtain ⟨hp3, Kp3, Jp3, r874⟩ : ∃ h', Keep hp2 h' [a] ∧ own_job Z h' a .null s ∧ W h' 6 26 140 #[.val (.int n), .val (.long t1), .second, .val (.long t2), .second, .val (.long t3), .second, .val (.int bb), .val (.int lc), .val (.ref ia), .val pl, .val (.ref ra), .val (.ref a), .val (.int (1 : Int32)), .unset, .unset] [] := by
    by_cases f3 : (n &&& (16 : Int32)) = (0 : Int32)
    · have r863 : W hp2 6 26 140 #[.val (.int n), .val (.long t1), .second, .val (.long t2), .second, .val (.long t3), .second, .val (.int bb), .val (.int lc), .val (.ref ia), .val pl, .val (.ref ra), .val (.ref a), .val (.int (1 : Int32)), .unset, .unset] [] := (H.ifYes (pc' := 140) at_118 r862 (by decide) (by decide) (teq f3).1)
      exact ⟨_, Keep.refl _ _, Jp2, r863⟩
    · have r864 : W hp2 6 26 121 #[.val (.int n), .val (.long t1), .second, .val (.long t2), .second, .val (.long t3), .second, .val (.int bb), .val (.int lc), .val (.ref ia), .val pl, .val (.ref ra), .val (.ref a), .val (.int (1 : Int32)), .unset, .unset] [] := (H.ifNo at_118 r862 (feq f3).1)
      have r865 : W hp2 6 26 127 #[.val (.int n), .val (.long t1), .second, .val (.long t2), .second, .val (.long t3), .second, .val (.int bb), .val (.int lc), .val (.ref ia), .val pl, .val (.ref ra), .val (.ref a), .val (.int (1 : Int32)), .unset, .unset] [(.int (n &&& (32 : Int32))), (.ref a)] := (H.iand at_126 (H.bipush (z := (32 : Int32)) at_124 (H.iloadN at_123 (H.aload at_121 r864 rfl rfl) rfl) rfl))
      have r870 : W hp2 6 26 135 #[.val (.int n), .val (.long t1), .second, .val (.long t2), .second, .val (.long t3), .second, .val (.int bb), .val (.int lc), .val (.ref ia), .val pl, .val (.ref ra), .val (.ref a), .val (.int (1 : Int32)), .unset, .unset] [(.int (if (n &&& (32 : Int32)) = (0 : Int32) then (0 : Int32) else (1 : Int32))), (.ref a)] := by
        by_cases f9 : (n &&& (32 : Int32)) = (0 : Int32)
        · have r866 : W hp2 6 26 134 #[.val (.int n), .val (.long t1), .second, .val (.long t2), .second, .val (.long t3), .second, .val (.int bb), .val (.int lc), .val (.ref ia), .val pl, .val (.ref ra), .val (.ref a), .val (.int (1 : Int32)), .unset, .unset] [(.ref a)] := (H.ifYes (pc' := 134) at_127 r865 (by decide) (by decide) (teq f9).1)
          have r868 : W hp2 6 26 135 #[.val (.int n), .val (.long t1), .second, .val (.long t2), .second, .val (.long t3), .second, .val (.int bb), .val (.int lc), .val (.ref ia), .val pl, .val (.ref ra), .val (.ref a), .val (.int (1 : Int32)), .unset, .unset] [(.int (0 : Int32)), (.ref a)] := (H.iconst (z := (0 : Int32)) at_134 r866 rfl)
          first | (simp only [if_pos f9]; exact r868) | exact r868 | (simp only [if_pos f9] at r868 ⊢; exact r868)
        · have r867 : W hp2 6 26 130 #[.val (.int n), .val (.long t1), .second, .val (.long t2), .second, .val (.long t3), .second, .val (.int bb), .val (.int lc), .val (.ref ia), .val pl, .val (.ref ra), .val (.ref a), .val (.int (1 : Int32)), .unset, .unset] [(.ref a)] := (H.ifNo at_127 r865 (feq f9).1)
          have r869 : W hp2 6 26 135 #[.val (.int n), .val (.long t1), .second, .val (.long t2), .second, .val (.long t3), .second, .val (.int bb), .val (.int lc), .val (.ref ia), .val pl, .val (.ref ra), .val (.ref a), .val (.int (1 : Int32)), .unset, .unset] [(.int (1 : Int32)), (.ref a)] := (H.goto (pc' := 135) at_131 (H.iconst (z := (1 : Int32)) at_130 r867 rfl) (by decide) (by decide))
          first | (simp only [if_neg f9]; exact r869) | exact r869 | (simp only [if_neg f9] at r869 ⊢; exact r869)
      obtain ⟨z9, e9, h9⟩ := own_bit ((n &&& (32 : Int32)) = (0 : Int32))
      rw [e9] at r870
      have r871 : W hp2 6 26 137 #[.val (.int n), .val (.long t1), .second, .val (.long t2), .second, .val (.long t3), .second, .val (.int bb), .val (.int lc), .val (.ref ia), .val pl, .val (.ref ra), .val (.ref a), .val (.int (1 : Int32)), .unset, .unset] [(.int lc), (.int z9), (.ref a)] := (H.iload at_135 r870 rfl)
      obtain ⟨_, hkk, ⟨rfl, KK, JJ⟩, r872⟩ := H.callV (w := 0) (argsL := [(.int z9), (.int lc)]) (rest := []) (hw _ (List.mem_of_getElem? (i := 110) rfl)) (hw _ (List.mem_of_getElem? (i := 111) rfl)) (Or.inl ⟨_, _, (hw _ (List.mem_of_getElem? (i := 113) rfl)), rfl⟩) (hw _ (List.mem_of_getElem? (i := 113) rfl)) (hw _ (List.mem_of_getElem? (i := 112) rfl)) (hw _ (List.mem_of_getElem? (i := 3) rfl)) (hw _ (List.mem_of_getElem? (i := 114) rfl)) (by decide) pd_21 (by decide) (by decide) (by decide) (by decide) Jp2.1 (rp_ct hw a s .null hp2 n0 Z861 N817 Jp2 z9 lc h9) (fun _ _ q => by first | exact q.2.1.1 | exact q.2.1) rfl rfl (Nat.le_of_eq rfl) rfl at_137 r871
      have Z873 : n0 ≤ hkk.size := Nat.le_trans Z861 KK.1
      replace r872 : W hkk 6 26 140 #[.val (.int n), .val (.long t1), .second, .val (.long t2), .second, .val (.long t3), .second, .val (.int bb), .val (.int lc), .val (.ref ia), .val pl, .val (.ref ra), .val (.ref a), .val (.int (1 : Int32)), .unset, .unset] [] := r872
      exact ⟨_, KK, JJ, r872⟩
  have Z875 : n0 ≤ hp3.size := Nat.le_trans Z861 Kp3.1
  have Sp3 := Sp2.keep Kp3 (ninS nsa nin0) (ninS nma nin0)
  have F876 := O0.ext E810
  have F877 := F876.keep Kj (allS N817 all0)
  have F878 := F877.keep Kp0 (allS N817 all0)
  have F879 := F878.keep Kp1 (allS N817 all0)
  have F880 := F879.keep Kp2 (allS N817 all0)
  have F881 := F880.keep Kp3 (allS N817 all0)
  have F882 := Exa.ext E810 XB
  have F883 := F882.keep Kj
  have F884 := F883.keep Kp0
  have F885 := F884.keep Kp1
  have F886 := F885.keep Kp2
  have F887 := F886.keep Kp3
  have F888 := B0.ext E810
  have F889 := F888.keep Kj (ninS ne815 nin0)
  have F890 := F889.keep Kp0 (ninS ne815 nin0)
  have F891 := F890.keep Kp1 (ninS ne815 nin0)
  have F892 := F891.keep Kp2 (ninS ne815 nin0)
  have F893 := F892.keep Kp3 (ninS ne815 nin0)
  have F894 := Exa.ext E810 XC
  have F895 := F894.keep Kj
  have F896 := F895.keep Kp0
  have F897 := F896.keep Kp1
  have F898 := F897.keep Kp2
  have F899 := F898.keep Kp3
  exact tail2 hw n bb lc t1 t2 t3 ia ra a s m pl hpl u dc SD fc SF ee SE XE en SN_ XN ew SW XW da S3 wS Z875 N817 NM nsa nma F881 Jp3 Sp3 F887 F893 F899 H (H.more (by decide) (by decide) r874)
set_option maxRecDepth 65536 in
set_option maxHeartbeats 40000000 in
theorem law_ct {l : Launch} {Z : State} {a0 : Array Value} (hw : ∀ d ∈ tables_1, d.before a0 Z = true) (n bb lc : Int32) (t1 t2 t3 : Int64) (dc : Addr) (SD : Sta Z Z.heap "com/example/lively_broker/livelybroker/wire/Command" "DONE" "Lcom/example/lively_broker/livelybroker/wire/Command;" (.ref dc)) (fc : Addr) (SF : Sta Z Z.heap "com/example/lively_broker/livelybroker/wire/Command" "FAILED" "Lcom/example/lively_broker/livelybroker/wire/Command;" (.ref fc)) (ee : Addr) (SE : Sta Z Z.heap "com/example/lively_broker/livelybroker/wire/FailureReason" "ERROR" "Lcom/example/lively_broker/livelybroker/wire/FailureReason;" (.ref ee)) (XE : Exa Z Z.heap ee "com/example/lively_broker/livelybroker/wire/FailureReason") (en : Addr) (SN_ : Sta Z Z.heap "com/example/lively_broker/livelybroker/wire/FailureReason" "NOT_PLACED" "Lcom/example/lively_broker/livelybroker/wire/FailureReason;" (.ref en)) (XN : Exa Z Z.heap en "com/example/lively_broker/livelybroker/wire/FailureReason") (ew : Addr) (SW : Sta Z Z.heap "com/example/lively_broker/livelybroker/wire/FailureReason" "WORKER_LOST" "Lcom/example/lively_broker/livelybroker/wire/FailureReason;" (.ref ew)) (XW : Exa Z Z.heap ew "com/example/lively_broker/livelybroker/wire/FailureReason") (da : Addr) (S3 : Sta Z Z.heap "java/util/ArrayList" "EMPTY_ELEMENTDATA" "[Ljava/lang/Object;" (.ref da)) (wS : ∀ a ∈ Bundle.stringAtoms, a.before a0 Z = true) (h0 : Heap) (n0 : Nat) (O0 : Old Z n0 h0) (Z0 : n0 ≤ h0.size) :
    CtT l Z x code maxLocals ret room_1 n0 #[(.int n), (.long t1), (.long t2), (.long t3), (.int bb), (.int lc)] h0 (fun v h' => v = some (.int 1)) := by
  refine CtT.of (plainFor_of_name pn_13) (fun m => ef_0 n t1 t2 t3 bb lc m) ?_
  intro W V H r0
  have r900 : W h0 0 0 1 #[.val (.int n), .val (.long t1), .second, .val (.long t2), .second, .val (.long t3), .second, .val (.int bb), .val (.int lc), .unset, .unset, .unset, .unset, .unset, .unset, .unset] [(.int (1 : Int32))] := (H.iconst (z := (1 : Int32)) at_0 r0 rfl)
  obtain ⟨hI, ia, eaI, EI, AI, XI, rIx⟩ := H.newAE (i := 1) (cap := 1) (d := (.int 0)) (ad := "[B") rfl rfl (by first | rfl | decide | decide +kernel) (hw _ (List.mem_of_getElem? (i := 0) rfl)) (by decide) (by decide) (by decide) (by decide) (by decide) at_1 r900
  have N901 : n0 ≤ ia := by rw [eaI]; exact Z0
  have Z902 : n0 ≤ hI.size := Nat.le_trans Z0 EI.1
  have AIl : Ary Z hI ia .byte [.int 0] := AI
  replace rIx : W hI 1 1 3 #[.val (.int n), .val (.long t1), .second, .val (.long t2), .second, .val (.long t3), .second, .val (.int bb), .val (.int lc), .unset, .unset, .unset, .unset, .unset, .unset, .unset] [(.ref ia)] := rIx
  have r903 : W hI 1 1 8 #[.val (.int n), .val (.long t1), .second, .val (.long t2), .second, .val (.long t3), .second, .val (.int bb), .val (.int lc), .unset, .unset, .unset, .unset, .unset, .unset, .unset] [(.int (bb.toInt8.toInt32)), (.int (0 : Int32)), (.ref ia), (.ref ia)] := (H.i2b at_7 (H.iload at_5 (H.iconst (z := (0 : Int32)) at_4 (H.dup at_3 rIx rfl) rfl) rfl))
  obtain ⟨h904, w905, A906, r907⟩ := H.putB (i := 0) (z := ((bb.toInt8.toInt32).toInt8.toInt32)) rfl AIl (by decide) (by decide : 0 < 1) N901 at_8 r903
  have Z908 : n0 ≤ h904.size := by rw [w905.size]; exact Z902
  replace A906 : Ary Z h904 ia .byte [.int ((bb.toInt8.toInt32).toInt8.toInt32)] := A906
  replace r907 : W h904 1 1 9 #[.val (.int n), .val (.long t1), .second, .val (.long t2), .second, .val (.long t3), .second, .val (.int bb), .val (.int lc), .unset, .unset, .unset, .unset, .unset, .unset, .unset] [(.ref ia)] := r907
  have r909 : W h904 1 1 11 #[.val (.int n), .val (.long t1), .second, .val (.long t2), .second, .val (.long t3), .second, .val (.int bb), .val (.int lc), .val (.ref ia), .unset, .unset, .unset, .unset, .unset, .unset] [] := (H.astore at_9 r907 rfl rfl)
  have r910 : W h904 1 1 14 #[.val (.int n), .val (.long t1), .second, .val (.long t2), .second, .val (.long t3), .second, .val (.int bb), .val (.int lc), .val (.ref ia), .unset, .unset, .unset, .unset, .unset, .unset] [(.int (n &&& (1 : Int32)))] := (H.iand at_13 (H.iconst (z := (1 : Int32)) at_12 (H.iloadN at_11 r909 rfl) rfl))
  by_cases h1 : (n &&& (1 : Int32)) = (0 : Int32)
  · have r911 : W h904 1 1 21 #[.val (.int n), .val (.long t1), .second, .val (.long t2), .second, .val (.long t3), .second, .val (.int bb), .val (.int lc), .val (.ref ia), .unset, .unset, .unset, .unset, .unset, .unset] [] := (H.ifYes (pc' := 21) at_14 r910 (by decide) (by decide) (teq h1).1)
    have r913 : W h904 1 1 22 #[.val (.int n), .val (.long t1), .second, .val (.long t2), .second, .val (.long t3), .second, .val (.int bb), .val (.int lc), .val (.ref ia), .unset, .unset, .unset, .unset, .unset, .unset] [(.int (1 : Int32))] := (H.iconst (z := (1 : Int32)) at_21 r911 rfl)
    have F914 := Exa.wr w905 XI
    obtain ⟨hP, pa, eaP, EP, AP, XP, rPx⟩ := H.newAE (i := 1) (cap := 1) (d := (.int 0)) (ad := "[B") rfl rfl (by first | rfl | decide | decide +kernel) (hw _ (List.mem_of_getElem? (i := 0) rfl)) (by decide) (by decide) (by decide) (by decide) (by decide) at_22 r913
    have ne915 : ia ≠ pa := Nat.ne_of_lt (by rw [eaP]; exact A906.lt)
    have N916 : n0 ≤ pa := by rw [eaP]; exact Z908
    have Z917 : n0 ≤ hP.size := Nat.le_trans Z908 EP.1
    have APl : Ary Z hP pa .byte [.int 0] := AP
    replace rPx : W hP 2 2 24 #[.val (.int n), .val (.long t1), .second, .val (.long t2), .second, .val (.long t3), .second, .val (.int bb), .val (.int lc), .val (.ref ia), .unset, .unset, .unset, .unset, .unset, .unset] [(.ref pa)] := rPx
    have r918 : W hP 2 2 32 #[.val (.int n), .val (.long t1), .second, .val (.long t2), .second, .val (.long t3), .second, .val (.int bb), .val (.int lc), .val (.ref ia), .unset, .unset, .unset, .unset, .unset, .unset] [(.int (((bb.toUInt32 >>> ((8 : Int32) &&& 31).toUInt32).toInt32).toInt8.toInt32)), (.int (0 : Int32)), (.ref pa), (.ref pa)] := (H.i2b at_31 (H.iushr at_30 (H.bipush (z := (8 : Int32)) at_28 (H.iload at_26 (H.iconst (z := (0 : Int32)) at_25 (H.dup at_24 rPx rfl) rfl) rfl) rfl)))
    obtain ⟨h919, w920, A921, r922⟩ := H.putB (i := 0) (z := ((((bb.toUInt32 >>> ((8 : Int32) &&& 31).toUInt32).toInt32).toInt8.toInt32).toInt8.toInt32)) rfl APl (by decide) (by decide : 0 < 1) N916 at_32 r918
    have Z923 : n0 ≤ h919.size := by rw [w920.size]; exact Z917
    replace A921 : Ary Z h919 pa .byte [.int ((((bb.toUInt32 >>> ((8 : Int32) &&& 31).toUInt32).toInt32).toInt8.toInt32).toInt8.toInt32)] := A921
    replace r922 : W h919 2 2 33 #[.val (.int n), .val (.long t1), .second, .val (.long t2), .second, .val (.long t3), .second, .val (.int bb), .val (.int lc), .val (.ref ia), .unset, .unset, .unset, .unset, .unset, .unset] [(.ref pa)] := r922
    have r924 : W h919 2 2 35 #[.val (.int n), .val (.long t1), .second, .val (.long t2), .second, .val (.long t3), .second, .val (.int bb), .val (.int lc), .val (.ref ia), .val (.ref pa), .unset, .unset, .unset, .unset, .unset] [] := (H.astore at_33 r922 rfl rfl)
    have r925 : W h919 2 2 36 #[.val (.int n), .val (.long t1), .second, .val (.long t2), .second, .val (.long t3), .second, .val (.int bb), .val (.int lc), .val (.ref ia), .val (.ref pa), .unset, .unset, .unset, .unset, .unset] [(.int (1 : Int32))] := (H.iconst (z := (1 : Int32)) at_35 r924 rfl)
    have F926 := A906.ext EP
    have F927 := F926.other w920 ne915
    have F928 := Exa.ext EP F914
    have F929 := Exa.wr w920 F928
    have F930 := Exa.wr w920 XP
    obtain ⟨hR, ra, eaR, ER, AR, XR, rRx⟩ := H.newAE (i := 1) (cap := 1) (d := (.int 0)) (ad := "[B") rfl rfl (by first | rfl | decide | decide +kernel) (hw _ (List.mem_of_getElem? (i := 0) rfl)) (by decide) (by decide) (by decide) (by decide) (by decide) at_36 r925
    have ne931 : ia ≠ ra := Nat.ne_of_lt (by rw [eaR]; exact F927.lt)
    have ne932 : pa ≠ ra := Nat.ne_of_lt (by rw [eaR]; exact A921.lt)
    have N933 : n0 ≤ ra := by rw [eaR]; exact Z923
    have Z934 : n0 ≤ hR.size := Nat.le_trans Z923 ER.1
    have ARl : Ary Z hR ra .byte [.int 0] := AR
    replace rRx : W hR 3 3 38 #[.val (.int n), .val (.long t1), .second, .val (.long t2), .second, .val (.long t3), .second, .val (.int bb), .val (.int lc), .val (.ref ia), .val (.ref pa), .unset, .unset, .unset, .unset, .unset] [(.ref ra)] := rRx
    have r935 : W hR 3 3 46 #[.val (.int n), .val (.long t1), .second, .val (.long t2), .second, .val (.long t3), .second, .val (.int bb), .val (.int lc), .val (.ref ia), .val (.ref pa), .unset, .unset, .unset, .unset, .unset] [(.int (((bb.toUInt32 >>> ((16 : Int32) &&& 31).toUInt32).toInt32).toInt8.toInt32)), (.int (0 : Int32)), (.ref ra), (.ref ra)] := (H.i2b at_45 (H.iushr at_44 (H.bipush (z := (16 : Int32)) at_42 (H.iload at_40 (H.iconst (z := (0 : Int32)) at_39 (H.dup at_38 rRx rfl) rfl) rfl) rfl)))
    obtain ⟨h936, w937, A938, r939⟩ := H.putB (i := 0) (z := ((((bb.toUInt32 >>> ((16 : Int32) &&& 31).toUInt32).toInt32).toInt8.toInt32).toInt8.toInt32)) rfl ARl (by decide) (by decide : 0 < 1) N933 at_46 r935
    have Z940 : n0 ≤ h936.size := by rw [w937.size]; exact Z934
    replace A938 : Ary Z h936 ra .byte [.int ((((bb.toUInt32 >>> ((16 : Int32) &&& 31).toUInt32).toInt32).toInt8.toInt32).toInt8.toInt32)] := A938
    replace r939 : W h936 3 3 47 #[.val (.int n), .val (.long t1), .second, .val (.long t2), .second, .val (.long t3), .second, .val (.int bb), .val (.int lc), .val (.ref ia), .val (.ref pa), .unset, .unset, .unset, .unset, .unset] [(.ref ra)] := r939
    have r941 : W h936 3 3 49 #[.val (.int n), .val (.long t1), .second, .val (.long t2), .second, .val (.long t3), .second, .val (.int bb), .val (.int lc), .val (.ref ia), .val (.ref pa), .val (.ref ra), .unset, .unset, .unset, .unset] [] := (H.astore at_47 r939 rfl rfl)
    have F942 := O0.ext EI
    have F943 := F942.wr w905 N901
    have F944 := F943.ext EP
    have F945 := F944.wr w920 N916
    have F946 := F945.ext ER
    have F947 := F946.wr w937 N933
    have F948 := Exa.ext ER F929
    have F949 := Exa.wr w937 F948
    have F950 := F927.ext ER
    have F951 := F950.other w937 ne931
    have F952 := Exa.wr w937 XR
    exact tail1 hw n bb lc t1 t2 t3 ia ra (.ref pa) rfl _ dc SD fc SF ee SE XE en SN_ XN ew SW XW da S3 wS Z940 F947 F949 F951 F952 H (H.more (by decide) (by decide) r941)
  · have r912 : W h904 1 1 17 #[.val (.int n), .val (.long t1), .second, .val (.long t2), .second, .val (.long t3), .second, .val (.int bb), .val (.int lc), .val (.ref ia), .unset, .unset, .unset, .unset, .unset, .unset] [] := (H.ifNo at_14 r910 (feq h1).1)
    have r953 : W h904 1 1 35 #[.val (.int n), .val (.long t1), .second, .val (.long t2), .second, .val (.long t3), .second, .val (.int bb), .val (.int lc), .val (.ref ia), .val .null, .unset, .unset, .unset, .unset, .unset] [] := (H.astore at_33 (H.goto (pc' := 33) at_18 (H.aconstNull at_17 r912) (by decide) (by decide)) rfl rfl)
    have r954 : W h904 1 1 36 #[.val (.int n), .val (.long t1), .second, .val (.long t2), .second, .val (.long t3), .second, .val (.int bb), .val (.int lc), .val (.ref ia), .val .null, .unset, .unset, .unset, .unset, .unset] [(.int (1 : Int32))] := (H.iconst (z := (1 : Int32)) at_35 r953 rfl)
    have F955 := Exa.wr w905 XI
    obtain ⟨hR, ra, eaR, ER, AR, XR, rRx⟩ := H.newAE (i := 1) (cap := 1) (d := (.int 0)) (ad := "[B") rfl rfl (by first | rfl | decide | decide +kernel) (hw _ (List.mem_of_getElem? (i := 0) rfl)) (by decide) (by decide) (by decide) (by decide) (by decide) at_36 r954
    have ne956 : ia ≠ ra := Nat.ne_of_lt (by rw [eaR]; exact A906.lt)
    have N957 : n0 ≤ ra := by rw [eaR]; exact Z908
    have Z958 : n0 ≤ hR.size := Nat.le_trans Z908 ER.1
    have ARl : Ary Z hR ra .byte [.int 0] := AR
    replace rRx : W hR 2 2 38 #[.val (.int n), .val (.long t1), .second, .val (.long t2), .second, .val (.long t3), .second, .val (.int bb), .val (.int lc), .val (.ref ia), .val .null, .unset, .unset, .unset, .unset, .unset] [(.ref ra)] := rRx
    have r959 : W hR 2 2 46 #[.val (.int n), .val (.long t1), .second, .val (.long t2), .second, .val (.long t3), .second, .val (.int bb), .val (.int lc), .val (.ref ia), .val .null, .unset, .unset, .unset, .unset, .unset] [(.int (((bb.toUInt32 >>> ((16 : Int32) &&& 31).toUInt32).toInt32).toInt8.toInt32)), (.int (0 : Int32)), (.ref ra), (.ref ra)] := (H.i2b at_45 (H.iushr at_44 (H.bipush (z := (16 : Int32)) at_42 (H.iload at_40 (H.iconst (z := (0 : Int32)) at_39 (H.dup at_38 rRx rfl) rfl) rfl) rfl)))
    obtain ⟨h960, w961, A962, r963⟩ := H.putB (i := 0) (z := ((((bb.toUInt32 >>> ((16 : Int32) &&& 31).toUInt32).toInt32).toInt8.toInt32).toInt8.toInt32)) rfl ARl (by decide) (by decide : 0 < 1) N957 at_46 r959
    have Z964 : n0 ≤ h960.size := by rw [w961.size]; exact Z958
    replace A962 : Ary Z h960 ra .byte [.int ((((bb.toUInt32 >>> ((16 : Int32) &&& 31).toUInt32).toInt32).toInt8.toInt32).toInt8.toInt32)] := A962
    replace r963 : W h960 2 2 47 #[.val (.int n), .val (.long t1), .second, .val (.long t2), .second, .val (.long t3), .second, .val (.int bb), .val (.int lc), .val (.ref ia), .val .null, .unset, .unset, .unset, .unset, .unset] [(.ref ra)] := r963
    have r965 : W h960 2 2 49 #[.val (.int n), .val (.long t1), .second, .val (.long t2), .second, .val (.long t3), .second, .val (.int bb), .val (.int lc), .val (.ref ia), .val .null, .val (.ref ra), .unset, .unset, .unset, .unset] [] := (H.astore at_47 r963 rfl rfl)
    have F966 := O0.ext EI
    have F967 := F966.wr w905 N901
    have F968 := F967.ext ER
    have F969 := F968.wr w961 N957
    have F970 := Exa.ext ER F955
    have F971 := Exa.wr w961 F970
    have F972 := A906.ext ER
    have F973 := F972.other w961 ne956
    have F974 := Exa.wr w961 XR
    exact tail1 hw n bb lc t1 t2 t3 ia ra .null rfl _ dc SD fc SF ee SE XE en SN_ XN ew SW XW da S3 wS Z964 F969 F971 F973 F974 H (H.more (by decide) (by decide) r965)
set_option maxRecDepth 65536 in
set_option maxHeartbeats 40000000 in
theorem comes_1 {Post : Tables → Env → Array Value → State → Outcome → State → Prop} (hpost : ∀ tb e args s v u, (limb_1_1.after args s (.returned v) u = true ∧ limb_1_2.after args s (.returned v) u = true ∧ True) → FramedW s (.returned v) u (Jvm.fieldLocs frame_1_writes args s ++ Jvm.arrayLocs frame_1_arrays args s ++ Jvm.staticLocs frame_1_statics s) 40 4288 → Post tb e args s (.returned v) u) :
    ArmFor flags0 classFile x code maxLocals ret World_1 tables_1 room_1 Calls_1 rest_1 Pre_1 Post := by
  intro l hfl _ _ p e ha hc hk s m args below hf hA hF happ hP
  obtain ⟨hcalls, hrest, hpre⟩ := hP
  obtain ⟨-, -, -, hnamed, -, -, -, hat⟩ := (Spec.applies_iff hf).mp happ
  obtain ⟨hg, hn⟩ := and_e (Cond.before_iff.mp (show (Jvm.Cond.and given_1 narrow_1).before args s = true from hpre))
  obtain ⟨hcnt, hg0⟩ := and_e hg
  obtain ⟨ha0, hg1⟩ := and_e hg0
  obtain ⟨ha1, hg2⟩ := and_e hg1
  obtain ⟨ha2, hg3⟩ := and_e hg2
  obtain ⟨ha3, hg4⟩ := and_e hg3
  obtain ⟨ha4, hg5⟩ := and_e hg4
  obtain ⟨w0, w1, w2, w3, w4, w5, rfl⟩ : ∃ w0 w1 w2 w3 w4 w5 : Value, args = #[w0, w1, w2, w3, w4, w5] := by
    have hs : args.size = 6 := by simpa [Cond.value, given_1] using hcnt
    obtain ⟨L⟩ := args
    match L, hs with
    | [w0, w1, w2, w3, w4, w5], _ => exact ⟨w0, w1, w2, w3, w4, w5, rfl⟩
  have hw := fun d (hd : d ∈ tables_1) => atoms_spec (ws := Jvm.Cond.code x code maxLocals ret :: tables_1) hat d (List.mem_cons_of_mem _ hd)
  have hfit : Fit s := fun {y c} hc i hi => by
    obtain ⟨ha, rfl⟩ := Array.getElem?_eq_some_iff.mp hc
    have q := List.all_eq_true.mp ((Array.all_eq_true_iff_forall_mem.mp hF) _ (Array.getElem_mem ha)) i (List.mem_range.mpr hi)
    simpa [Array.getElem?_eq_getElem hi] using q
  obtain ⟨i0, ei0⟩ := is_v ha0
  obtain rfl : w0 = (.int i0) := Option.some.inj ei0
  obtain ⟨i1, ei1⟩ := isL_v ha1
  obtain rfl : w1 = (.long i1) := Option.some.inj ei1
  obtain ⟨i2, ei2⟩ := isL_v ha2
  obtain rfl : w2 = (.long i2) := Option.some.inj ei2
  obtain ⟨i3, ei3⟩ := isL_v ha3
  obtain rfl : w3 = (.long i3) := Option.some.inj ei3
  obtain ⟨i4, ei4⟩ := is_v ha4
  obtain rfl : w4 = (.int i4) := Option.some.inj ei4
  obtain ⟨i5, ei5⟩ := is_v hg5
  obtain rfl : w5 = (.int i5) := Option.some.inj ei5
  obtain ⟨hsets, hown0⟩ := atoms_of _ (rest_1_c_eq ▸ (show rest_1_c.before _ s = true from hrest))
  have hr0 := Cond.before_iff.mp hown0
  obtain ⟨hn1, hq1⟩ := and_e hn
  obtain ⟨hn2, hq2⟩ := and_e hq1
  obtain ⟨hn3, hq3⟩ := and_e hq2
  obtain ⟨hn4, hn5⟩ := and_e hq3
  obtain ⟨dc, e_dc⟩ := exa_v hn1
  have SD : Sta s s.heap "com/example/lively_broker/livelybroker/wire/Command" "DONE" "Lcom/example/lively_broker/livelybroker/wire/Command;" (.ref dc) := Sta.start e_dc (Or.inr ⟨(hw _ (List.mem_of_getElem? (i := 127) rfl)), (hw _ (List.mem_of_getElem? (i := 128) rfl))⟩)
  obtain ⟨fc, e_fc⟩ := exa_v hn3
  have SF : Sta s s.heap "com/example/lively_broker/livelybroker/wire/Command" "FAILED" "Lcom/example/lively_broker/livelybroker/wire/Command;" (.ref fc) := Sta.start e_fc (Or.inr ⟨(hw _ (List.mem_of_getElem? (i := 127) rfl)), (hw _ (List.mem_of_getElem? (i := 263) rfl))⟩)
  obtain ⟨ee, e_ee⟩ := exa_v hn4
  have SE : Sta s s.heap "com/example/lively_broker/livelybroker/wire/FailureReason" "ERROR" "Lcom/example/lively_broker/livelybroker/wire/FailureReason;" (.ref ee) := Sta.start e_ee (Or.inr ⟨(hw _ (List.mem_of_getElem? (i := 257) rfl)), (hw _ (List.mem_of_getElem? (i := 269) rfl))⟩)
  have XE : Exa s s.heap ee "com/example/lively_broker/livelybroker/wire/FailureReason" := Exa.start e_ee hn4
  obtain ⟨en, e_en⟩ := exa_v hn5
  have SN_ : Sta s s.heap "com/example/lively_broker/livelybroker/wire/FailureReason" "NOT_PLACED" "Lcom/example/lively_broker/livelybroker/wire/FailureReason;" (.ref en) := Sta.start e_en (Or.inr ⟨(hw _ (List.mem_of_getElem? (i := 257) rfl)), (hw _ (List.mem_of_getElem? (i := 271) rfl))⟩)
  have XN : Exa s s.heap en "com/example/lively_broker/livelybroker/wire/FailureReason" := Exa.start e_en hn5
  obtain ⟨ew, e_ew⟩ := exa_v hn2
  have SW : Sta s s.heap "com/example/lively_broker/livelybroker/wire/FailureReason" "WORKER_LOST" "Lcom/example/lively_broker/livelybroker/wire/FailureReason;" (.ref ew) := Sta.start e_ew (Or.inr ⟨(hw _ (List.mem_of_getElem? (i := 257) rfl)), (hw _ (List.mem_of_getElem? (i := 258) rfl))⟩)
  have XW : Exa s s.heap ew "com/example/lively_broker/livelybroker/wire/FailureReason" := Exa.start e_ew hn2
  obtain ⟨da, eda⟩ := arr_v (Cond.before_iff.mp (hsets _ (List.mem_of_getElem? (i := 3) rfl)))
  have S3 : Sta s s.heap "java/util/ArrayList" "EMPTY_ELEMENTDATA" "[Ljava/lang/Object;" (.ref da) := Sta.start eda (Or.inl (hsets _ (List.mem_of_getElem? (i := 1) rfl)))
  have wS : ∀ a ∈ Bundle.stringAtoms, a.before #[.int i0, .long i1, .long i2, .long i3, .int i4, .int i5] s = true := by
    intro a ha
    simp only [Bundle.stringAtoms, List.mem_cons, List.not_mem_nil, or_false] at ha
    rcases ha with rfl | rfl | rfl | rfl | rfl | rfl | rfl <;> first | exact (hw _ (List.mem_of_getElem? (i := 131) rfl)) | exact (hw _ (List.mem_of_getElem? (i := 130) rfl)) | exact (hw _ (List.mem_of_getElem? (i := 0) rfl)) | exact (hw _ (List.mem_of_getElem? (i := 133) rfl)) | exact (hw _ (List.mem_of_getElem? (i := 132) rfl)) | exact (hw _ (List.mem_of_getElem? (i := 134) rfl)) | exact (hw _ (List.mem_of_getElem? (i := 135) rfl))
  obtain ⟨n, o, h1, h2, h3, _, L, rfl, ⟨rfl, N⟩, hq⟩ := law_ct (l := l) hw i0 i4 i5 i1 i2 i3 dc SD fc SF ee SE XE en SN_ XN ew SW XW da S3 wS s.heap s.heap.size (Old.start s) (Nat.le_refl _) tables_1 p e ha hc hk s m _ below hf ((Spec.applies_iff_loose hf).mp happ).1 ⟨rfl, State.Warmed39.refl s, rfl⟩ trivial
  refine ⟨n, _, h1, h2, h3, hpost _ _ _ _ _ _ ⟨Cond.after_iff.mpr rfl, Cond.after_iff.mpr (eq_i res_at (Term.int_eval (1)) rfl), trivial⟩ ⟨hq.1, hq.2.1, hq.2.2.1, (hq.2.2.2.sift fun y hy => Or.inr (N y hy)).mono (by decide) (by decide)⟩⟩
theorem main_1_1 : Claimed_1_1 := comes_1 fun _ _ _ _ _ _ h hF => ⟨h.1, hF⟩
theorem main_1_2 : Claimed_1_2 := comes_1 fun _ _ _ _ _ _ h hF => ⟨h.2.1, hF⟩
end Jvm.Pilot.@@N@@
namespace Jvm.Pilot.@@N@@
open Jvm Jvm.ClassFile Sem Op Lib Jvm.Free Jvm.Stand Jvm.Pilot.@@N@@.Jvm.D
/-! MADE BY PROGRAM (witnessworld.py) out of the Statement's table words and the real class files: 41 classes; the members and pool entries that the words name. The judged class is class 1, her method 1. -/
namespace start1
open Jvm.ClassFile
def u (s : String) : CpInfo := .utf8 (stringToUtf16 s)
/-- a pool by its gaps: so many unusable entries, then the entry; so many at the end -/
def gap : Nat → List CpInfo → List CpInfo
  | 0, r => r
  | n + 1, r => .unusable :: gap n r
def poolList (es : List (Nat × CpInfo)) (last : Nat) : List CpInfo := es.foldr (fun e r => gap e.1 (e.2 :: r)) (gap last [])
def pool (es : List (Nat × CpInfo)) (last : Nat) : Array CpInfo := ⟨poolList es last⟩
def fileOf (pool : Array CpInfo) (this : Nat) (attrs : Array Attribute := #[]) (ms : Array MethodInfo := #[]) (fl : Nat := 33) (sup : Nat := 0) (ifs : Array Nat := #[]) (fds : Array FieldInfo := #[]) : ClassFile where
  minorVersion := 0
  majorVersion := 65
  constantPool := pool
  accessFlags := fl
  thisClass := this
  superClass := sup
  interfaces := ifs
  fields := fds
  methods := ms
  attributes := attrs
def plain (name : String) (sup : Option ClassId) : Class where
  name := name
  kind := .ordinary
  loader := none
  accessFlags := 33
  super := sup
  interfaces := #[]
  cf := none
  fields := #[]
  methods := #[]
  instanceTypes := #[]
  staticTypes := #[]
  resolved := #[]
  callSites := []
  init := .initialized
  statics := none
  mirror := none

def pool0 : Array CpInfo := pool [(5, u "<init>"), (0, u "()V"), (1, .class_ 10), (1, u "java/lang/Object")] 113

def k0c0 : Code := { maxStack := 0, maxLocals := 1, code := object_method_1_code, exceptionTable := #[], attributes := #[] }
def k0m0 : Method := { name := "<init>", desc := "()V", sig := { parameters := [], returnType := none }, accessFlags := 1, code := some k0c0 }
/-- java/lang/Object -/
def k0 : Class := { plain "java/lang/Object" none with
  accessFlags := 33
  interfaces := #[]
  cf := some (fileOf pool0 8 #[] #[{ accessFlags := 1, nameIndex := 5, descriptorIndex := 6, attributes := #[] }] 33 0 #[] #[])
  fields := #[]
  methods := #[k0m0]
  instanceTypes := #[]
  staticTypes := #[]
  resolved := Array.replicate 124 none
  statics := none }

def pool1 : Array CpInfo := pool [(2, .class_ 4), (1, u "java/lang/Object"), (0, u "<init>"), (0, u "()V"), (0, .class_ 8), (0, u "com/example/lively_broker/livelybroker/broker/Job"), (0, .methodref 7 10), (0, .nameAndType 5 11), (0, u "([B[BJJ)V"), (0, .methodref 7 13), (0, .nameAndType 14 15), (0, u "answered"), (0, u "()Z"), (0, .methodref 7 17), (0, .nameAndType 18 6), (0, u "markPlaced"), (0, .methodref 7 20), (0, .nameAndType 21 6), (0, u "markTakenBack"), (0, .methodref 7 23), (0, .nameAndType 24 25), (0, u "countLostWorker"), (0, u "()I"), (0, .methodref 7 27), (0, .nameAndType 28 29), (0, u "restoreProgress"), (0, u "(ZI)V"), (0, .methodref 31 32), (0, .class_ 33), (0, .nameAndType 34 35), (0, u "com/example/lively_broker/livelybroker/wire/Message"), (0, u "done"), (0, u "([B[B)Lcom/example/lively_broker/livelybroker/wire/Message;"), (0, .fieldref 37 38), (0, .class_ 39), (0, .nameAndType 40 41), (0, u "com/example/lively_broker/livelybroker/wire/FailureReason"), (0, u "ERROR"), (0, u "Lcom/example/lively_broker/livelybroker/wire/FailureReason;"), (0, .methodref 31 43), (0, .nameAndType 44 45), (0, u "failed"), (0, u "([BLcom/example/lively_broker/livelybroker/wire/FailureReason;[B)Lcom/example/lively_broker/livelybroker/wire/Message;"), (0, .fieldref 37 47), (0, .nameAndType 48 41), (0, u "NOT_PLACED"), (0, .fieldref 37 50), (0, .nameAndType 51 41), (0, u "WORKER_LOST"), (0, .methodref 7 53), (0, .nameAndType 54 55), (0, u "markAnswered"), (0, u "(Lcom/example/lively_broker/livelybroker/wire/Message;J)Ljava/util/List;"), (0, .methodref 7 57), (0, .nameAndType 58 59), (0, u "answer"), (0, u "()Lcom/example/lively_broker/livelybroker/wire/Message;"), (0, .class_ 61), (0, u "com/example/lively_broker/livelybroker/broker/JobAnsweredPinLaw"), (2, u "law"), (0, u "(IJJJII)Z")] 5

def k1m0 : Method := { name := "<init>", desc := "()V", sig := { parameters := [], returnType := none }, accessFlags := 2, code := none }
def k1c1 : Code := { maxStack := 8, maxLocals := 16, code := code, exceptionTable := #[], attributes := #[] }
def k1m1 : Method := { name := "law", desc := "(IJJJII)Z", sig := { parameters := [.int, .long, .long, .long, .int, .int], returnType := some .boolean }, accessFlags := 9, code := some k1c1 }
/-- com/example/lively_broker/livelybroker/broker/JobAnsweredPinLaw -/
def k1 : Class := { plain "com/example/lively_broker/livelybroker/broker/JobAnsweredPinLaw" (some 0) with
  accessFlags := 49
  interfaces := #[]
  cf := some (fileOf pool1 60 #[] #[{ accessFlags := 2, nameIndex := 5, descriptorIndex := 6, attributes := #[] }, { accessFlags := 9, nameIndex := 64, descriptorIndex := 65, attributes := #[] }] 49 2 #[] #[])
  fields := #[]
  methods := #[k1m0, k1m1]
  instanceTypes := #[]
  staticTypes := #[]
  resolved := Array.replicate 71 none
  statics := none }

def pool2 : Array CpInfo := pool [(1, .methodref 2 3), (0, .class_ 4), (0, .nameAndType 5 6), (0, u "java/lang/Object"), (0, u "<init>"), (0, u "()V"), (0, .class_ 8), (0, u "java/util/LinkedHashSet"), (0, .methodref 7 3), (0, .fieldref 11 12), (0, .class_ 13), (0, .nameAndType 14 15), (0, u "com/example/lively_broker/livelybroker/broker/Job"), (0, u "clients"), (0, u "Ljava/util/Set;"), (0, .fieldref 11 17), (0, .nameAndType 18 19), (0, u "id"), (0, u "[B"), (0, .fieldref 11 21), (0, .nameAndType 22 19), (0, u "payload"), (0, .fieldref 11 24), (0, .nameAndType 25 26), (0, u "acceptedAt"), (0, u "J"), (0, .fieldref 11 28), (0, .nameAndType 29 26), (0, u "number"), (1, .class_ 33), (1, u "java/util/Set"), (2, .fieldref 11 37), (0, .nameAndType 38 39), (0, u "placed"), (0, u "Z"), (0, .fieldref 11 41), (0, .nameAndType 42 43), (0, u "answer"), (0, u "Lcom/example/lively_broker/livelybroker/wire/Message;"), (0, .fieldref 11 45), (0, .nameAndType 46 26), (0, u "answeredAt"), (0, .class_ 48), (0, u "java/util/ArrayList"), (0, .methodref 47 50), (0, .nameAndType 5 51), (0, u "(Ljava/util/Collection;)V"), (0, .interfaceMethodref 31 53), (0, .nameAndType 54 6), (0, u "clear"), (0, .fieldref 11 56), (0, .nameAndType 57 39), (0, u "takenBack"), (0, .fieldref 11 59), (0, .nameAndType 60 61), (0, u "lostWorkers"), (0, u "I"), (2, u "([B[BJJ)V"), (6, u "()Z"), (0, u "markPlaced"), (0, u "answered"), (1, u "()Lcom/example/lively_broker/livelybroker/wire/Message;"), (0, u "markAnswered"), (0, u "(Lcom/example/lively_broker/livelybroker/wire/Message;J)Ljava/util/List;"), (1, u "markTakenBack"), (0, u "countLostWorker"), (0, u "()I"), (0, u "restoreProgress"), (0, u "(ZI)V")] 2

def k2c0 : Code := { maxStack := 3, maxLocals := 7, code := prog_1_method_1_code, exceptionTable := #[], attributes := #[] }
def k2m0 : Method := { name := "<init>", desc := "([B[BJJ)V", sig := { parameters := [(.array .byte), (.array .byte), .long, .long], returnType := none }, accessFlags := 0, code := some k2c0 }
def k2c1 : Code := { maxStack := 2, maxLocals := 1, code := prog_1_method_8_code, exceptionTable := #[], attributes := #[] }
def k2m1 : Method := { name := "markPlaced", desc := "()V", sig := { parameters := [], returnType := none }, accessFlags := 0, code := some k2c1 }
def k2c2 : Code := { maxStack := 1, maxLocals := 1, code := prog_1_method_9_code, exceptionTable := #[], attributes := #[] }
def k2m2 : Method := { name := "answered", desc := "()Z", sig := { parameters := [], returnType := some .boolean }, accessFlags := 0, code := some k2c2 }
def k2c3 : Code := { maxStack := 1, maxLocals := 1, code := prog_1_method_10_code, exceptionTable := #[], attributes := #[] }
def k2m3 : Method := { name := "answer", desc := "()Lcom/example/lively_broker/livelybroker/wire/Message;", sig := { parameters := [], returnType := some (.object "com/example/lively_broker/livelybroker/wire/Message") }, accessFlags := 0, code := some k2c3 }
def k2c4 : Code := { maxStack := 3, maxLocals := 5, code := prog_1_method_12_code, exceptionTable := #[], attributes := #[] }
def k2m4 : Method := { name := "markAnswered", desc := "(Lcom/example/lively_broker/livelybroker/wire/Message;J)Ljava/util/List;", sig := { parameters := [(.object "com/example/lively_broker/livelybroker/wire/Message"), .long], returnType := some (.object "java/util/List") }, accessFlags := 0, code := some k2c4 }
def k2c5 : Code := { maxStack := 2, maxLocals := 1, code := prog_1_method_14_code, exceptionTable := #[], attributes := #[] }
def k2m5 : Method := { name := "markTakenBack", desc := "()V", sig := { parameters := [], returnType := none }, accessFlags := 0, code := some k2c5 }
def k2c6 : Code := { maxStack := 3, maxLocals := 1, code := prog_1_method_15_code, exceptionTable := #[], attributes := #[] }
def k2m6 : Method := { name := "countLostWorker", desc := "()I", sig := { parameters := [], returnType := some .int }, accessFlags := 0, code := some k2c6 }
def k2c7 : Code := { maxStack := 2, maxLocals := 3, code := prog_1_method_17_code, exceptionTable := #[], attributes := #[] }
def k2m7 : Method := { name := "restoreProgress", desc := "(ZI)V", sig := { parameters := [.boolean, .int], returnType := none }, accessFlags := 0, code := some k2c7 }
/-- com/example/lively_broker/livelybroker/broker/Job -/
def k2 : Class := { plain "com/example/lively_broker/livelybroker/broker/Job" (some 0) with
  accessFlags := 32
  interfaces := #[]
  cf := some (fileOf pool2 11 #[] #[{ accessFlags := 0, nameIndex := 5, descriptorIndex := 64, attributes := #[] }, { accessFlags := 0, nameIndex := 72, descriptorIndex := 6, attributes := #[] }, { accessFlags := 0, nameIndex := 73, descriptorIndex := 71, attributes := #[] }, { accessFlags := 0, nameIndex := 42, descriptorIndex := 75, attributes := #[] }, { accessFlags := 0, nameIndex := 76, descriptorIndex := 77, attributes := #[] }, { accessFlags := 0, nameIndex := 79, descriptorIndex := 6, attributes := #[] }, { accessFlags := 0, nameIndex := 80, descriptorIndex := 81, attributes := #[] }, { accessFlags := 0, nameIndex := 82, descriptorIndex := 83, attributes := #[] }] 32 2 #[] #[{ accessFlags := 18, nameIndex := 18, descriptorIndex := 19, attributes := #[] }, { accessFlags := 2, nameIndex := 22, descriptorIndex := 19, attributes := #[] }, { accessFlags := 18, nameIndex := 14, descriptorIndex := 15, attributes := #[] }, { accessFlags := 18, nameIndex := 25, descriptorIndex := 26, attributes := #[] }, { accessFlags := 18, nameIndex := 29, descriptorIndex := 26, attributes := #[] }, { accessFlags := 2, nameIndex := 38, descriptorIndex := 39, attributes := #[] }, { accessFlags := 2, nameIndex := 42, descriptorIndex := 43, attributes := #[] }, { accessFlags := 2, nameIndex := 46, descriptorIndex := 26, attributes := #[] }, { accessFlags := 2, nameIndex := 57, descriptorIndex := 39, attributes := #[] }, { accessFlags := 2, nameIndex := 60, descriptorIndex := 61, attributes := #[] }])
  fields := #[{ name := "id", type := (.array .byte), accessFlags := 18, slot := 0, constantValue := 0 }, { name := "payload", type := (.array .byte), accessFlags := 2, slot := 1, constantValue := 0 }, { name := "clients", type := (.object "java/util/Set"), accessFlags := 18, slot := 2, constantValue := 0 }, { name := "acceptedAt", type := .long, accessFlags := 18, slot := 3, constantValue := 0 }, { name := "number", type := .long, accessFlags := 18, slot := 4, constantValue := 0 }, { name := "placed", type := .boolean, accessFlags := 2, slot := 5, constantValue := 0 }, { name := "answer", type := (.object "com/example/lively_broker/livelybroker/wire/Message"), accessFlags := 2, slot := 6, constantValue := 0 }, { name := "answeredAt", type := .long, accessFlags := 2, slot := 7, constantValue := 0 }, { name := "takenBack", type := .boolean, accessFlags := 2, slot := 8, constantValue := 0 }, { name := "lostWorkers", type := .int, accessFlags := 2, slot := 9, constantValue := 0 }]
  methods := #[k2m0, k2m1, k2m2, k2m3, k2m4, k2m5, k2m6, k2m7]
  instanceTypes := #[(.array .byte), (.array .byte), (.object "java/util/Set"), .long, .long, .boolean, (.object "com/example/lively_broker/livelybroker/wire/Message"), .long, .boolean, .int]
  staticTypes := #[]
  resolved := Array.replicate 86 none
  statics := none }

def pool3 : Array CpInfo := pool [(8, .class_ 10), (1, u "java/lang/Iterable"), (24, .class_ 36), (0, u "java/lang/Object")] 25

/-- java/lang/Iterable -/
def k3 : Class := { plain "java/lang/Iterable" (some 0) with
  accessFlags := 1537
  interfaces := #[]
  cf := some (fileOf pool3 8 #[] #[] 1537 35 #[] #[])
  fields := #[]
  methods := #[]
  instanceTypes := #[]
  staticTypes := #[]
  resolved := Array.replicate 62 none
  statics := none }

def pool4 : Array CpInfo := pool [(10, .class_ 12), (1, u "java/util/Collection"), (0, u "toArray"), (46, .class_ 61), (0, u "java/lang/Object"), (0, .class_ 63), (0, u "java/lang/Iterable"), (6, u "()[Ljava/lang/Object;")] 44

def k4m0 : Method := { name := "toArray", desc := "()[Ljava/lang/Object;", sig := { parameters := [], returnType := some (.array (.object "java/lang/Object")) }, accessFlags := 1025, code := none }
/-- java/util/Collection -/
def k4 : Class := { plain "java/util/Collection" (some 0) with
  accessFlags := 1537
  interfaces := #[3]
  cf := some (fileOf pool4 10 #[] #[{ accessFlags := 1025, nameIndex := 13, descriptorIndex := 70, attributes := #[] }] 1537 60 #[62] #[])
  fields := #[]
  methods := #[k4m0]
  instanceTypes := #[]
  staticTypes := #[]
  resolved := Array.replicate 115 none
  statics := none }

def pool5 : Array CpInfo := pool [(1, .methodref 2 3), (0, .class_ 4), (0, .nameAndType 5 6), (0, u "java/lang/Object"), (0, u "<init>"), (0, u "()V"), (1, .class_ 10), (1, u "java/util/AbstractCollection"), (66, .class_ 78), (0, u "java/util/Collection")] 81

def k5c0 : Code := { maxStack := 1, maxLocals := 1, code := jdk_22_method_1_code, exceptionTable := #[], attributes := #[] }
def k5m0 : Method := { name := "<init>", desc := "()V", sig := { parameters := [], returnType := none }, accessFlags := 4, code := some k5c0 }
/-- java/util/AbstractCollection -/
def k5 : Class := { plain "java/util/AbstractCollection" (some 0) with
  accessFlags := 1057
  interfaces := #[4]
  cf := some (fileOf pool5 8 #[] #[{ accessFlags := 4, nameIndex := 5, descriptorIndex := 6, attributes := #[] }] 1057 2 #[77] #[])
  fields := #[]
  methods := #[k5m0]
  instanceTypes := #[]
  staticTypes := #[]
  resolved := Array.replicate 160 none
  statics := none }

def pool6 : Array CpInfo := pool [(26, .class_ 27), (0, u "java/lang/Object"), (5, .class_ 34), (0, u "java/util/Set"), (1, .class_ 38), (1, u "java/util/Collection"), (38, u "clear"), (0, u "()V")] 65

def k6m0 : Method := { name := "clear", desc := "()V", sig := { parameters := [], returnType := none }, accessFlags := 1025, code := none }
/-- java/util/Set -/
def k6 : Class := { plain "java/util/Set" (some 0) with
  accessFlags := 1537
  interfaces := #[4]
  cf := some (fileOf pool6 33 #[] #[{ accessFlags := 1025, nameIndex := 77, descriptorIndex := 78, attributes := #[] }] 1537 26 #[36] #[])
  fields := #[]
  methods := #[k6m0]
  instanceTypes := #[]
  staticTypes := #[]
  resolved := Array.replicate 144 none
  statics := none }

def pool7 : Array CpInfo := pool [(1, .methodref 2 3), (0, .class_ 4), (0, .nameAndType 5 6), (0, u "java/util/AbstractCollection"), (0, u "<init>"), (0, u "()V"), (0, .class_ 8), (0, u "java/util/Set"), (7, .class_ 17), (0, u "java/util/AbstractSet")] 78

def k7c0 : Code := { maxStack := 1, maxLocals := 1, code := jdk_91_method_1_code, exceptionTable := #[], attributes := #[] }
def k7m0 : Method := { name := "<init>", desc := "()V", sig := { parameters := [], returnType := none }, accessFlags := 4, code := some k7c0 }
/-- java/util/AbstractSet -/
def k7 : Class := { plain "java/util/AbstractSet" (some 5) with
  accessFlags := 1057
  interfaces := #[6]
  cf := some (fileOf pool7 16 #[] #[{ accessFlags := 4, nameIndex := 5, descriptorIndex := 6, attributes := #[] }] 1057 2 #[7] #[])
  fields := #[]
  methods := #[k7m0]
  instanceTypes := #[]
  staticTypes := #[]
  resolved := Array.replicate 96 none
  statics := none }

def pool8 : Array CpInfo := pool [(1, .class_ 2), (0, u "java/lang/Cloneable"), (0, .class_ 4), (0, u "java/lang/Object")] 2

/-- java/lang/Cloneable -/
def k8 : Class := { plain "java/lang/Cloneable" (some 0) with
  accessFlags := 1537
  interfaces := #[]
  cf := some (fileOf pool8 1 #[] #[] 1537 3 #[] #[])
  fields := #[]
  methods := #[]
  instanceTypes := #[]
  staticTypes := #[]
  resolved := Array.replicate 7 none
  statics := none }

def pool9 : Array CpInfo := pool [(1, .class_ 2), (0, u "java/io/Serializable"), (0, .class_ 4), (0, u "java/lang/Object")] 2

/-- java/io/Serializable -/
def k9 : Class := { plain "java/io/Serializable" (some 0) with
  accessFlags := 1537
  interfaces := #[]
  cf := some (fileOf pool9 1 #[] #[] 1537 3 #[] #[])
  fields := #[]
  methods := #[]
  instanceTypes := #[]
  staticTypes := #[]
  resolved := Array.replicate 7 none
  statics := none }

def pool10 : Array CpInfo := pool [(1, .methodref 2 3), (0, .class_ 4), (0, .nameAndType 5 6), (0, u "java/util/AbstractSet"), (0, u "<init>"), (0, u "()V"), (0, .class_ 8), (0, u "java/util/HashMap"), (1, .fieldref 11 12), (0, .class_ 13), (0, .nameAndType 14 15), (0, u "java/util/HashSet"), (0, u "map"), (0, u "Ljava/util/HashMap;"), (2, .nameAndType 20 21), (1, u "size"), (0, u "()I"), (15, .nameAndType 5 38), (0, u "(IF)V"), (3, .class_ 43), (0, u "java/util/LinkedHashMap"), (0, .methodref 42 37), (5, .class_ 52), (1, u "java/util/Set"), (2, .methodref 7 18), (10, u "PRESENT"), (0, u "Ljava/lang/Object;"), (8, .methodref 7 77), (0, .nameAndType 78 6), (0, u "clear"), (1, .class_ 82), (1, u "java/lang/Object"), (126, .methodref 7 210), (0, .nameAndType 211 212), (0, u "keysToArray"), (0, u "([Ljava/lang/Object;)[Ljava/lang/Object;"), (13, .class_ 227), (0, u "java/lang/Cloneable"), (0, .class_ 229), (0, u "java/io/Serializable"), (0, u "serialVersionUID"), (0, u "J"), (20, u "(IFZ)V"), (26, u "toArray"), (0, u "()[Ljava/lang/Object;")] 22

def k10m0 : Method := { name := "<init>", desc := "()V", sig := { parameters := [], returnType := none }, accessFlags := 1, code := none }
def k10c1 : Code := { maxStack := 5, maxLocals := 4, code := jdk_93_method_5_code, exceptionTable := #[], attributes := #[] }
def k10m1 : Method := { name := "<init>", desc := "(IFZ)V", sig := { parameters := [.int, .float, .boolean], returnType := none }, accessFlags := 0, code := some k10c1 }
def k10c2 : Code := { maxStack := 1, maxLocals := 1, code := jdk_93_method_12_code, exceptionTable := #[], attributes := #[] }
def k10m2 : Method := { name := "clear", desc := "()V", sig := { parameters := [], returnType := none }, accessFlags := 1, code := some k10c2 }
def k10c3 : Code := { maxStack := 2, maxLocals := 1, code := jdk_93_method_17_code, exceptionTable := #[], attributes := #[] }
def k10m3 : Method := { name := "toArray", desc := "()[Ljava/lang/Object;", sig := { parameters := [], returnType := some (.array (.object "java/lang/Object")) }, accessFlags := 1, code := some k10c3 }
/-- java/util/HashSet -/
def k10 : Class := { plain "java/util/HashSet" (some 7) with
  accessFlags := 33
  interfaces := #[6, 8, 9]
  cf := some (fileOf pool10 11 #[] #[{ accessFlags := 1, nameIndex := 5, descriptorIndex := 6, attributes := #[] }, { accessFlags := 0, nameIndex := 5, descriptorIndex := 252, attributes := #[] }, { accessFlags := 1, nameIndex := 78, descriptorIndex := 6, attributes := #[] }, { accessFlags := 1, nameIndex := 279, descriptorIndex := 280, attributes := #[] }] 33 2 #[50, 226, 228] #[{ accessFlags := 24, nameIndex := 230, descriptorIndex := 231, attributes := #[] }, { accessFlags := 128, nameIndex := 14, descriptorIndex := 15, attributes := #[] }, { accessFlags := 24, nameIndex := 66, descriptorIndex := 67, attributes := #[] }])
  fields := #[{ name := "serialVersionUID", type := .long, accessFlags := 24, slot := 0, constantValue := 0 }, { name := "map", type := (.object "java/util/HashMap"), accessFlags := 128, slot := 0, constantValue := 0 }, { name := "PRESENT", type := (.object "java/lang/Object"), accessFlags := 24, slot := 1, constantValue := 0 }]
  methods := #[k10m0, k10m1, k10m2, k10m3]
  instanceTypes := #[(.object "java/util/HashMap")]
  staticTypes := #[.long, (.object "java/lang/Object")]
  resolved := Array.replicate 303 none
  statics := none }

def pool11 : Array CpInfo := pool [(8, .class_ 10), (1, u "java/util/SequencedCollection"), (15, .class_ 27), (0, u "java/lang/Object"), (0, .class_ 29), (0, u "java/util/Collection")] 27

/-- java/util/SequencedCollection -/
def k11 : Class := { plain "java/util/SequencedCollection" (some 0) with
  accessFlags := 1537
  interfaces := #[4]
  cf := some (fileOf pool11 8 #[] #[] 1537 26 #[28] #[])
  fields := #[]
  methods := #[]
  instanceTypes := #[]
  staticTypes := #[]
  resolved := Array.replicate 57 none
  statics := none }

def pool12 : Array CpInfo := pool [(2, .class_ 4), (1, u "java/util/SequencedSet"), (2, .class_ 8), (0, u "java/lang/Object"), (0, .class_ 10), (0, u "java/util/SequencedCollection"), (0, .class_ 12), (0, u "java/util/Set")] 13

/-- java/util/SequencedSet -/
def k12 : Class := { plain "java/util/SequencedSet" (some 0) with
  accessFlags := 1537
  interfaces := #[11, 6]
  cf := some (fileOf pool12 2 #[] #[] 1537 7 #[9, 11] #[])
  fields := #[]
  methods := #[]
  instanceTypes := #[]
  staticTypes := #[]
  resolved := Array.replicate 26 none
  statics := none }

def pool13 : Array CpInfo := pool [(1, .methodref 2 3), (0, .class_ 4), (0, .nameAndType 5 6), (0, u "java/util/HashSet"), (0, u "<init>"), (0, u "(IFZ)V"), (0, .float 1061158912), (19, .class_ 29), (1, u "java/util/LinkedHashSet"), (16, u "()V"), (44, .class_ 93), (1, u "java/util/SequencedSet"), (11, .class_ 106), (0, u "java/util/LinkedHashSet$1ReverseLinkedHashSetView"), (6, .class_ 114), (0, u "java/lang/Cloneable"), (0, .class_ 116), (0, u "java/io/Serializable"), (0, u "serialVersionUID"), (0, u "J")] 44

def k13c0 : Code := { maxStack := 4, maxLocals := 1, code := jdk_2620_method_3_code, exceptionTable := #[], attributes := #[] }
def k13m0 : Method := { name := "<init>", desc := "()V", sig := { parameters := [], returnType := none }, accessFlags := 1, code := some k13c0 }
/-- java/util/LinkedHashSet -/
def k13 : Class := { plain "java/util/LinkedHashSet" (some 10) with
  accessFlags := 33
  interfaces := #[12, 8, 9]
  cf := some (fileOf pool13 27 #[.nestMembers #[105]] #[{ accessFlags := 1, nameIndex := 5, descriptorIndex := 46, attributes := #[] }] 33 2 #[91, 113, 115] #[{ accessFlags := 26, nameIndex := 117, descriptorIndex := 118, attributes := #[] }])
  fields := #[{ name := "serialVersionUID", type := .long, accessFlags := 26, slot := 0, constantValue := 0 }]
  methods := #[k13m0]
  instanceTypes := #[(.object "java/util/HashMap")]
  staticTypes := #[.long]
  resolved := Array.replicate 163 none
  statics := none }

def pool14 : Array CpInfo := pool [(2, .class_ 4), (1, u "java/util/Map"), (31, .class_ 37), (0, u "java/util/Map$Entry"), (55, .class_ 94), (0, u "java/lang/Object")] 168

/-- java/util/Map -/
def k14 : Class := { plain "java/util/Map" (some 0) with
  accessFlags := 1537
  interfaces := #[]
  cf := some (fileOf pool14 2 #[.nestMembers #[36]] #[] 1537 93 #[] #[])
  fields := #[]
  methods := #[]
  instanceTypes := #[]
  staticTypes := #[]
  resolved := Array.replicate 263 none
  statics := none }

def pool15 : Array CpInfo := pool [(1, .methodref 2 3), (0, .class_ 4), (0, .nameAndType 5 6), (0, u "java/lang/Object"), (0, u "<init>"), (0, u "()V"), (1, .class_ 10), (1, u "java/util/AbstractMap"), (42, .class_ 54), (0, u "java/util/Map"), (9, u "keySet"), (0, u "Ljava/util/Set;"), (0, .class_ 67), (0, u "java/util/AbstractMap$1"), (5, u "values"), (0, u "Ljava/util/Collection;"), (0, .class_ 76), (0, u "java/util/AbstractMap$2"), (104, .class_ 182), (0, u "java/util/AbstractMap$ViewCollection"), (0, .class_ 184), (0, u "java/util/AbstractMap$SimpleImmutableEntry"), (0, .class_ 186), (0, u "java/util/AbstractMap$SimpleEntry"), (0, .class_ 188), (0, u "java/util/AbstractMap$2$1"), (0, .class_ 190), (0, u "java/util/AbstractMap$1$1")] 5

def k15c0 : Code := { maxStack := 1, maxLocals := 1, code := jdk_71_method_1_code, exceptionTable := #[], attributes := #[] }
def k15m0 : Method := { name := "<init>", desc := "()V", sig := { parameters := [], returnType := none }, accessFlags := 4, code := some k15c0 }
/-- java/util/AbstractMap -/
def k15 : Class := { plain "java/util/AbstractMap" (some 0) with
  accessFlags := 1057
  interfaces := #[14]
  cf := some (fileOf pool15 8 #[.nestMembers #[181, 183, 185, 75, 187, 66, 189]] #[{ accessFlags := 4, nameIndex := 5, descriptorIndex := 6, attributes := #[] }] 1057 2 #[53] #[{ accessFlags := 128, nameIndex := 64, descriptorIndex := 65, attributes := #[] }, { accessFlags := 128, nameIndex := 73, descriptorIndex := 74, attributes := #[] }])
  fields := #[{ name := "keySet", type := (.object "java/util/Set"), accessFlags := 128, slot := 0, constantValue := 0 }, { name := "values", type := (.object "java/util/Collection"), accessFlags := 128, slot := 1, constantValue := 0 }]
  methods := #[k15m0]
  instanceTypes := #[(.object "java/util/Set"), (.object "java/util/Collection")]
  staticTypes := #[]
  resolved := Array.replicate 196 none
  statics := none }

def pool16 : Array CpInfo := pool [(6, u "()I"), (27, .methodref 35 36), (0, .class_ 37), (0, .nameAndType 38 39), (0, u "java/lang/Integer"), (0, u "numberOfLeadingZeros"), (0, u "(I)I"), (0, .class_ 41), (0, u "java/util/HashMap"), (0, .integer 1073741824), (0, .methodref 44 45), (0, .class_ 46), (0, .nameAndType 47 48), (0, u "java/util/AbstractMap"), (0, u "<init>"), (0, u "()V"), (21, .methodref 71 72), (0, .class_ 73), (0, .nameAndType 74 75), (0, u "java/lang/Float"), (0, u "isNaN"), (0, u "(F)Z"), (5, .fieldref 40 82), (0, .nameAndType 83 84), (0, u "loadFactor"), (0, u "F"), (0, .methodref 40 86), (0, .nameAndType 87 39), (0, u "tableSizeFor"), (0, .fieldref 40 89), (0, .nameAndType 90 91), (0, u "threshold"), (0, u "I"), (3, u "(IF)V"), (5, .class_ 103), (1, u "java/util/Map"), (0, u "size"), (0, .fieldref 40 106), (0, .nameAndType 107 108), (0, u "table"), (0, u "[Ljava/util/HashMap$Node;"), (14, u "entrySet"), (32, .fieldref 40 157), (0, .nameAndType 104 91), (5, .class_ 165), (1, u "java/util/HashMap$Node"), (14, .class_ 181), (0, u "java/util/HashMap$TreeNode"), (20, .fieldref 40 203), (0, .nameAndType 204 91), (0, u "modCount"), (37, u "Ljava/util/Set;"), (0, .class_ 244), (0, u "java/util/HashMap$KeySet"), (18, .class_ 264), (0, u "java/util/HashMap$Values"), (3, .class_ 269), (0, u "java/util/HashMap$EntrySet"), (76, .class_ 348), (1, u "java/util/HashMap$UnsafeHolder"), (43, .class_ 393), (0, u "java/lang/Cloneable"), (0, .class_ 395), (0, u "java/io/Serializable"), (0, u "serialVersionUID"), (0, u "J"), (3, u "DEFAULT_INITIAL_CAPACITY"), (1, u "MAXIMUM_CAPACITY"), (0, u "DEFAULT_LOAD_FACTOR"), (0, u "TREEIFY_THRESHOLD"), (1, u "UNTREEIFY_THRESHOLD"), (1, u "MIN_TREEIFY_CAPACITY"), (92, u "clear"), (5, u "([Ljava/lang/Object;)[Ljava/lang/Object;"), (3, u "keysToArray"), (83, .class_ 597), (0, u "java/util/HashMap$EntrySpliterator"), (0, .class_ 599), (0, u "java/util/HashMap$ValueSpliterator"), (0, .class_ 601), (0, u "java/util/HashMap$KeySpliterator"), (0, .class_ 603), (0, u "java/util/HashMap$HashMapSpliterator"), (0, .class_ 605), (0, u "java/util/HashMap$EntryIterator"), (0, .class_ 607), (0, u "java/util/HashMap$ValueIterator"), (0, .class_ 609), (0, u "java/util/HashMap$KeyIterator"), (0, .class_ 611), (0, u "java/util/HashMap$HashIterator")] 17

def k16c0 : Code := { maxStack := 3, maxLocals := 2, code := jdk_69_method_4_code, exceptionTable := #[], attributes := #[] }
def k16m0 : Method := { name := "tableSizeFor", desc := "(I)I", sig := { parameters := [.int], returnType := some .int }, accessFlags := 24, code := some k16c0 }
def k16c1 : Code := { maxStack := 4, maxLocals := 3, code := jdk_69_method_5_code, exceptionTable := #[], attributes := #[] }
def k16m1 : Method := { name := "<init>", desc := "(IF)V", sig := { parameters := [.int, .float], returnType := none }, accessFlags := 1, code := some k16c1 }
def k16m2 : Method := { name := "<init>", desc := "()V", sig := { parameters := [], returnType := none }, accessFlags := 1, code := none }
def k16c3 : Code := { maxStack := 1, maxLocals := 1, code := jdk_69_method_10_code, exceptionTable := #[], attributes := #[] }
def k16m3 : Method := { name := "size", desc := "()I", sig := { parameters := [], returnType := some .int }, accessFlags := 1, code := some k16c3 }
def k16c4 : Code := { maxStack := 3, maxLocals := 3, code := jdk_69_method_22_code, exceptionTable := #[], attributes := #[] }
def k16m4 : Method := { name := "clear", desc := "()V", sig := { parameters := [], returnType := none }, accessFlags := 1, code := some k16c4 }
def k16c5 : Code := { maxStack := 3, maxLocals := 9, code := ⟨#[0x2b, 0x4d, 0x03, 0x36, 0x04, 0x2a, 0xb4, 0x00, 0x9c, 0x9e, 0x00, 0x46, 0x2a, 0xb4, 0x00, 0x69, 0x59, 0x4e, 0xc6, 0x00, 0x3d, 0x2d, 0x3a, 0x05, 0x19, 0x05, 0xbe, 0x36, 0x06, 0x03, 0x36, 0x07, 0x15, 0x07, 0x15, 0x06, 0xa2, 0x00, 0x2b, 0x19, 0x05, 0x15, 0x07, 0x32, 0x3a, 0x08, 0x19, 0x08, 0xc6, 0x00, 0x19, 0x2c, 0x15, 0x04, 0x84, 0x04, 0x01, 0x19, 0x08, 0xb4, 0x00, 0xaa, 0x53, 0x19, 0x08, 0xb4, 0x00, 0xb1, 0x3a, 0x08, 0xa7, 0xff, 0xe8, 0x84, 0x07, 0x01, 0xa7, 0xff, 0xd4, 0x2b, 0xb0]⟩, exceptionTable := #[], attributes := #[] }
def k16m5 : Method := { name := "keysToArray", desc := "([Ljava/lang/Object;)[Ljava/lang/Object;", sig := { parameters := [(.array (.object "java/lang/Object"))], returnType := some (.array (.object "java/lang/Object")) }, accessFlags := 0, code := some k16c5 }
/-- java/util/HashMap -/
def k16 : Class := { plain "java/util/HashMap" (some 15) with
  accessFlags := 33
  interfaces := #[14, 8, 9]
  cf := some (fileOf pool16 40 #[.nestMembers #[180, 596, 598, 600, 602, 604, 606, 608, 610, 346, 268, 263, 243, 163]] #[{ accessFlags := 24, nameIndex := 87, descriptorIndex := 39, attributes := #[] }, { accessFlags := 1, nameIndex := 47, descriptorIndex := 95, attributes := #[] }, { accessFlags := 1, nameIndex := 47, descriptorIndex := 48, attributes := #[] }, { accessFlags := 1, nameIndex := 104, descriptorIndex := 6, attributes := #[] }, { accessFlags := 1, nameIndex := 502, descriptorIndex := 48, attributes := #[] }, { accessFlags := 0, nameIndex := 512, descriptorIndex := 508, attributes := #[] }] 33 44 #[101, 392, 394] #[{ accessFlags := 26, nameIndex := 396, descriptorIndex := 397, attributes := #[] }, { accessFlags := 24, nameIndex := 401, descriptorIndex := 91, attributes := #[] }, { accessFlags := 24, nameIndex := 403, descriptorIndex := 91, attributes := #[] }, { accessFlags := 24, nameIndex := 404, descriptorIndex := 84, attributes := #[] }, { accessFlags := 24, nameIndex := 405, descriptorIndex := 91, attributes := #[] }, { accessFlags := 24, nameIndex := 407, descriptorIndex := 91, attributes := #[] }, { accessFlags := 24, nameIndex := 409, descriptorIndex := 91, attributes := #[] }, { accessFlags := 128, nameIndex := 107, descriptorIndex := 108, attributes := #[] }, { accessFlags := 128, nameIndex := 123, descriptorIndex := 242, attributes := #[] }, { accessFlags := 128, nameIndex := 104, descriptorIndex := 91, attributes := #[] }, { accessFlags := 128, nameIndex := 204, descriptorIndex := 91, attributes := #[] }, { accessFlags := 0, nameIndex := 90, descriptorIndex := 91, attributes := #[] }, { accessFlags := 16, nameIndex := 83, descriptorIndex := 84, attributes := #[] }])
  fields := #[{ name := "serialVersionUID", type := .long, accessFlags := 26, slot := 0, constantValue := 0 }, { name := "DEFAULT_INITIAL_CAPACITY", type := .int, accessFlags := 24, slot := 1, constantValue := 0 }, { name := "MAXIMUM_CAPACITY", type := .int, accessFlags := 24, slot := 2, constantValue := 0 }, { name := "DEFAULT_LOAD_FACTOR", type := .float, accessFlags := 24, slot := 3, constantValue := 0 }, { name := "TREEIFY_THRESHOLD", type := .int, accessFlags := 24, slot := 4, constantValue := 0 }, { name := "UNTREEIFY_THRESHOLD", type := .int, accessFlags := 24, slot := 5, constantValue := 0 }, { name := "MIN_TREEIFY_CAPACITY", type := .int, accessFlags := 24, slot := 6, constantValue := 0 }, { name := "table", type := (.array (.object "java/util/HashMap$Node")), accessFlags := 128, slot := 2, constantValue := 0 }, { name := "entrySet", type := (.object "java/util/Set"), accessFlags := 128, slot := 3, constantValue := 0 }, { name := "size", type := .int, accessFlags := 128, slot := 4, constantValue := 0 }, { name := "modCount", type := .int, accessFlags := 128, slot := 5, constantValue := 0 }, { name := "threshold", type := .int, accessFlags := 0, slot := 6, constantValue := 0 }, { name := "loadFactor", type := .float, accessFlags := 16, slot := 7, constantValue := 0 }]
  methods := #[k16m0, k16m1, k16m2, k16m3, k16m4, k16m5]
  instanceTypes := #[(.object "java/util/Set"), (.object "java/util/Collection"), (.array (.object "java/util/HashMap$Node")), (.object "java/util/Set"), .int, .int, .int, .float]
  staticTypes := #[.long, .int, .int, .float, .int, .int, .int]
  resolved := Array.replicate 629 none
  statics := none }

def pool17 : Array CpInfo := pool [(2, .class_ 4), (1, u "java/util/SequencedMap"), (38, .class_ 44), (0, u "java/util/SequencedMap$1SeqKeySet"), (3, .class_ 49), (0, u "java/util/SequencedMap$1SeqValues"), (1, .class_ 52), (0, u "java/util/SequencedMap$1SeqEntrySet"), (1, .class_ 55), (0, u "java/lang/Object"), (0, .class_ 57), (0, u "java/util/Map")] 48

/-- java/util/SequencedMap -/
def k17 : Class := { plain "java/util/SequencedMap" (some 0) with
  accessFlags := 1537
  interfaces := #[14]
  cf := some (fileOf pool17 2 #[.nestMembers #[51, 48, 43]] #[] 1537 54 #[56] #[])
  fields := #[]
  methods := #[]
  instanceTypes := #[]
  staticTypes := #[]
  resolved := Array.replicate 106 none
  statics := none }

def pool18 : Array CpInfo := pool [(1, .fieldref 2 3), (0, .class_ 4), (0, .nameAndType 5 6), (0, u "java/util/LinkedHashMap"), (0, u "putMode"), (0, u "I"), (0, .fieldref 2 8), (0, .nameAndType 9 10), (0, u "head"), (0, u "Ljava/util/LinkedHashMap$Entry;"), (0, .fieldref 2 12), (0, .nameAndType 13 10), (0, u "tail"), (1, .class_ 17), (1, u "java/util/LinkedHashMap$Entry"), (5, .class_ 25), (1, u "java/util/HashMap"), (1, u "()V"), (2, u "<init>"), (33, .fieldref 2 65), (0, .nameAndType 66 67), (0, u "accessOrder"), (0, u "Z"), (13, .methodref 23 82), (0, .nameAndType 30 83), (0, u "(IF)V"), (26, .methodref 23 111), (0, .nameAndType 112 27), (0, u "clear"), (8, .class_ 122), (0, u "java/util/LinkedHashMap$LinkedKeySet"), (8, .methodref 2 132), (0, .nameAndType 133 134), (0, u "keysToArray"), (0, u "([Ljava/lang/Object;Z)[Ljava/lang/Object;"), (8, .class_ 144), (0, u "java/util/LinkedHashMap$LinkedValues"), (9, .class_ 155), (0, u "java/util/LinkedHashMap$LinkedEntrySet"), (44, .class_ 201), (0, u "java/util/LinkedHashMap$ReversedLinkedHashMapView"), (3, .class_ 206), (0, u "java/util/SequencedMap"), (0, u "serialVersionUID"), (0, u "J"), (5, u "PUT_NORM"), (1, u "PUT_FIRST"), (1, u "PUT_LAST"), (94, u "([Ljava/lang/Object;)[Ljava/lang/Object;"), (48, .class_ 363), (0, u "java/util/LinkedHashMap$LinkedEntryIterator"), (0, .class_ 365), (0, u "java/util/LinkedHashMap$LinkedValueIterator"), (0, .class_ 367), (0, u "java/util/LinkedHashMap$LinkedKeyIterator"), (0, .class_ 369), (0, u "java/util/LinkedHashMap$LinkedHashIterator")] 16

def k18c0 : Code := { maxStack := 3, maxLocals := 3, code := jdk_94_method_14_code, exceptionTable := #[], attributes := #[] }
def k18m0 : Method := { name := "<init>", desc := "(IF)V", sig := { parameters := [.int, .float], returnType := none }, accessFlags := 1, code := some k18c0 }
def k18m1 : Method := { name := "<init>", desc := "()V", sig := { parameters := [], returnType := none }, accessFlags := 1, code := none }
def k18c2 : Code := { maxStack := 4, maxLocals := 1, code := jdk_94_method_22_code, exceptionTable := #[], attributes := #[] }
def k18m2 : Method := { name := "clear", desc := "()V", sig := { parameters := [], returnType := none }, accessFlags := 1, code := some k18c2 }
def k18c3 : Code := { maxStack := 3, maxLocals := 2, code := jdk_94_method_27_code, exceptionTable := #[], attributes := #[] }
def k18m3 : Method := { name := "keysToArray", desc := "([Ljava/lang/Object;)[Ljava/lang/Object;", sig := { parameters := [(.array (.object "java/lang/Object"))], returnType := some (.array (.object "java/lang/Object")) }, accessFlags := 16, code := some k18c3 }
def k18c4 : Code := { maxStack := 3, maxLocals := 6, code := jdk_94_method_28_code, exceptionTable := #[], attributes := #[] }
def k18m4 : Method := { name := "keysToArray", desc := "([Ljava/lang/Object;Z)[Ljava/lang/Object;", sig := { parameters := [(.array (.object "java/lang/Object")), .boolean], returnType := some (.array (.object "java/lang/Object")) }, accessFlags := 16, code := some k18c4 }
/-- java/util/LinkedHashMap -/
def k18 : Class := { plain "java/util/LinkedHashMap" (some 16) with
  accessFlags := 33
  interfaces := #[17]
  cf := some (fileOf pool18 2 #[.nestMembers #[200, 362, 364, 366, 368, 154, 143, 121, 15]] #[{ accessFlags := 1, nameIndex := 30, descriptorIndex := 83, attributes := #[] }, { accessFlags := 1, nameIndex := 30, descriptorIndex := 27, attributes := #[] }, { accessFlags := 1, nameIndex := 112, descriptorIndex := 27, attributes := #[] }, { accessFlags := 16, nameIndex := 133, descriptorIndex := 313, attributes := #[] }, { accessFlags := 16, nameIndex := 133, descriptorIndex := 134, attributes := #[] }] 33 23 #[205] #[{ accessFlags := 26, nameIndex := 207, descriptorIndex := 208, attributes := #[] }, { accessFlags := 128, nameIndex := 9, descriptorIndex := 10, attributes := #[] }, { accessFlags := 128, nameIndex := 13, descriptorIndex := 10, attributes := #[] }, { accessFlags := 16, nameIndex := 66, descriptorIndex := 67, attributes := #[] }, { accessFlags := 24, nameIndex := 214, descriptorIndex := 6, attributes := #[] }, { accessFlags := 24, nameIndex := 216, descriptorIndex := 6, attributes := #[] }, { accessFlags := 24, nameIndex := 218, descriptorIndex := 6, attributes := #[] }, { accessFlags := 128, nameIndex := 5, descriptorIndex := 6, attributes := #[] }])
  fields := #[{ name := "serialVersionUID", type := .long, accessFlags := 26, slot := 0, constantValue := 0 }, { name := "head", type := (.object "java/util/LinkedHashMap$Entry"), accessFlags := 128, slot := 8, constantValue := 0 }, { name := "tail", type := (.object "java/util/LinkedHashMap$Entry"), accessFlags := 128, slot := 9, constantValue := 0 }, { name := "accessOrder", type := .boolean, accessFlags := 16, slot := 10, constantValue := 0 }, { name := "PUT_NORM", type := .int, accessFlags := 24, slot := 1, constantValue := 0 }, { name := "PUT_FIRST", type := .int, accessFlags := 24, slot := 2, constantValue := 0 }, { name := "PUT_LAST", type := .int, accessFlags := 24, slot := 3, constantValue := 0 }, { name := "putMode", type := .int, accessFlags := 128, slot := 11, constantValue := 0 }]
  methods := #[k18m0, k18m1, k18m2, k18m3, k18m4]
  instanceTypes := #[(.object "java/util/Set"), (.object "java/util/Collection"), (.array (.object "java/util/HashMap$Node")), (.object "java/util/Set"), .int, .int, .int, .float, (.object "java/util/LinkedHashMap$Entry"), (.object "java/util/LinkedHashMap$Entry"), .boolean, .int]
  staticTypes := #[.long, .int, .int, .int]
  resolved := Array.replicate 386 none
  statics := none }

def pool19 : Array CpInfo := pool [(2, .class_ 4), (1, u "java/lang/Object"), (0, u "<init>"), (0, u "()V"), (1, .class_ 10), (1, u "java/lang/Number"), (2, .class_ 14), (0, u "java/io/Serializable"), (0, u "serialVersionUID"), (0, u "J")] 20

def k19m0 : Method := { name := "<init>", desc := "()V", sig := { parameters := [], returnType := none }, accessFlags := 1, code := none }
/-- java/lang/Number -/
def k19 : Class := { plain "java/lang/Number" (some 0) with
  accessFlags := 1057
  interfaces := #[9]
  cf := some (fileOf pool19 8 #[] #[{ accessFlags := 1, nameIndex := 5, descriptorIndex := 6, attributes := #[] }] 1057 2 #[13] #[{ accessFlags := 26, nameIndex := 15, descriptorIndex := 16, attributes := #[] }])
  fields := #[{ name := "serialVersionUID", type := .long, accessFlags := 26, slot := 0, constantValue := 0 }]
  methods := #[k19m0]
  instanceTypes := #[]
  staticTypes := #[.long]
  resolved := Array.replicate 37 none
  statics := none }

def pool20 : Array CpInfo := pool [(1, .class_ 2), (0, u "java/lang/Comparable"), (0, .class_ 4), (0, u "java/lang/Object")] 7

/-- java/lang/Comparable -/
def k20 : Class := { plain "java/lang/Comparable" (some 0) with
  accessFlags := 1537
  interfaces := #[]
  cf := some (fileOf pool20 1 #[] #[] 1537 3 #[] #[])
  fields := #[]
  methods := #[]
  instanceTypes := #[]
  staticTypes := #[]
  resolved := Array.replicate 12 none
  statics := none }

def pool21 : Array CpInfo := pool [(1, .class_ 2), (0, u "java/lang/constant/Constable"), (0, .class_ 4), (0, u "java/lang/Object")] 6

/-- java/lang/constant/Constable -/
def k21 : Class := { plain "java/lang/constant/Constable" (some 0) with
  accessFlags := 1537
  interfaces := #[]
  cf := some (fileOf pool21 1 #[] #[] 1537 3 #[] #[])
  fields := #[]
  methods := #[]
  instanceTypes := #[]
  staticTypes := #[]
  resolved := Array.replicate 11 none
  statics := none }

def pool22 : Array CpInfo := pool [(1, .class_ 2), (0, u "java/lang/constant/ConstantDesc"), (0, .class_ 4), (0, u "java/lang/Object")] 32

/-- java/lang/constant/ConstantDesc -/
def k22 : Class := { plain "java/lang/constant/ConstantDesc" (some 0) with
  accessFlags := 1537
  interfaces := #[]
  cf := some (fileOf pool22 1 #[] #[] 1537 3 #[] #[])
  fields := #[]
  methods := #[]
  instanceTypes := #[]
  staticTypes := #[]
  resolved := Array.replicate 37 none
  statics := none }

def pool23 : Array CpInfo := pool [(1, .class_ 2), (0, u "java/lang/Float"), (48, .class_ 53), (1, u "java/lang/Number"), (3, u "value"), (0, u "F"), (2, u "isNaN"), (0, u "(F)Z"), (28, u "$assertionsDisabled"), (0, u "Z"), (52, u "TYPE"), (0, u "Ljava/lang/Class;"), (0, .class_ 148), (0, u "java/lang/Comparable"), (0, .class_ 150), (0, u "java/lang/constant/Constable"), (0, .class_ 152), (0, u "java/lang/constant/ConstantDesc"), (0, u "POSITIVE_INFINITY"), (1, u "NEGATIVE_INFINITY"), (1, u "NaN"), (1, u "MAX_VALUE"), (0, u "MIN_NORMAL"), (0, u "MIN_VALUE"), (1, u "SIZE"), (0, u "I"), (1, u "PRECISION"), (1, u "MAX_EXPONENT"), (1, u "MIN_EXPONENT"), (1, u "BYTES"), (3, u "serialVersionUID"), (0, u "J")] 101

def k23c0 : Code := { maxStack := 2, maxLocals := 1, code := jdk_118_method_6_code, exceptionTable := #[], attributes := #[] }
def k23m0 : Method := { name := "isNaN", desc := "(F)Z", sig := { parameters := [.float], returnType := some .boolean }, accessFlags := 9, code := some k23c0 }
/-- java/lang/Float -/
def k23 : Class := { plain "java/lang/Float" (some 19) with
  accessFlags := 49
  interfaces := #[20, 21, 22]
  cf := some (fileOf pool23 1 #[] #[{ accessFlags := 9, nameIndex := 61, descriptorIndex := 62, attributes := #[] }] 49 51 #[147, 149, 151] #[{ accessFlags := 25, nameIndex := 153, descriptorIndex := 58, attributes := #[] }, { accessFlags := 25, nameIndex := 155, descriptorIndex := 58, attributes := #[] }, { accessFlags := 25, nameIndex := 157, descriptorIndex := 58, attributes := #[] }, { accessFlags := 25, nameIndex := 159, descriptorIndex := 58, attributes := #[] }, { accessFlags := 25, nameIndex := 160, descriptorIndex := 58, attributes := #[] }, { accessFlags := 25, nameIndex := 161, descriptorIndex := 58, attributes := #[] }, { accessFlags := 25, nameIndex := 163, descriptorIndex := 164, attributes := #[] }, { accessFlags := 25, nameIndex := 166, descriptorIndex := 164, attributes := #[] }, { accessFlags := 25, nameIndex := 168, descriptorIndex := 164, attributes := #[] }, { accessFlags := 25, nameIndex := 170, descriptorIndex := 164, attributes := #[] }, { accessFlags := 25, nameIndex := 172, descriptorIndex := 164, attributes := #[] }, { accessFlags := 25, nameIndex := 145, descriptorIndex := 146, attributes := #[] }, { accessFlags := 18, nameIndex := 57, descriptorIndex := 58, attributes := #[] }, { accessFlags := 26, nameIndex := 176, descriptorIndex := 177, attributes := #[] }, { accessFlags := 4120, nameIndex := 91, descriptorIndex := 92, attributes := #[] }])
  fields := #[{ name := "POSITIVE_INFINITY", type := .float, accessFlags := 25, slot := 0, constantValue := 0 }, { name := "NEGATIVE_INFINITY", type := .float, accessFlags := 25, slot := 1, constantValue := 0 }, { name := "NaN", type := .float, accessFlags := 25, slot := 2, constantValue := 0 }, { name := "MAX_VALUE", type := .float, accessFlags := 25, slot := 3, constantValue := 0 }, { name := "MIN_NORMAL", type := .float, accessFlags := 25, slot := 4, constantValue := 0 }, { name := "MIN_VALUE", type := .float, accessFlags := 25, slot := 5, constantValue := 0 }, { name := "SIZE", type := .int, accessFlags := 25, slot := 6, constantValue := 0 }, { name := "PRECISION", type := .int, accessFlags := 25, slot := 7, constantValue := 0 }, { name := "MAX_EXPONENT", type := .int, accessFlags := 25, slot := 8, constantValue := 0 }, { name := "MIN_EXPONENT", type := .int, accessFlags := 25, slot := 9, constantValue := 0 }, { name := "BYTES", type := .int, accessFlags := 25, slot := 10, constantValue := 0 }, { name := "TYPE", type := (.object "java/lang/Class"), accessFlags := 25, slot := 11, constantValue := 0 }, { name := "value", type := .float, accessFlags := 18, slot := 0, constantValue := 0 }, { name := "serialVersionUID", type := .long, accessFlags := 26, slot := 12, constantValue := 0 }, { name := "$assertionsDisabled", type := .boolean, accessFlags := 4120, slot := 13, constantValue := 0 }]
  methods := #[k23m0]
  instanceTypes := #[.float]
  staticTypes := #[.float, .float, .float, .float, .float, .float, .int, .int, .int, .int, .int, (.object "java/lang/Class"), .long, .boolean]
  resolved := Array.replicate 279 none
  statics := none }

def pool24 : Array CpInfo := pool [(1, .class_ 2), (0, u "java/lang/Integer"), (16, u "digits"), (0, u "[C"), (32, u "numberOfLeadingZeros"), (0, u "(I)I"), (30, u "DigitOnes"), (0, u "[B"), (2, u "DigitTens"), (99, .class_ 190), (0, u "java/lang/Integer$IntegerCache"), (3, u "I"), (8, .class_ 204), (0, u "java/lang/Number"), (2, u "value"), (56, .integer 65536), (37, u "TYPE"), (0, u "Ljava/lang/Class;"), (0, .class_ 305), (0, u "java/lang/Comparable"), (0, .class_ 307), (0, u "java/lang/constant/Constable"), (0, .class_ 309), (0, u "java/lang/constant/ConstantDesc"), (0, u "MIN_VALUE"), (1, u "MAX_VALUE"), (3, u "SIZE"), (1, u "BYTES"), (1, u "serialVersionUID"), (0, u "J")] 131

def k24c0 : Code := { maxStack := 3, maxLocals := 2, code := jdk_33_method_47_code, exceptionTable := #[], attributes := #[] }
def k24m0 : Method := { name := "numberOfLeadingZeros", desc := "(I)I", sig := { parameters := [.int], returnType := some .int }, accessFlags := 9, code := some k24c0 }
/-- java/lang/Integer -/
def k24 : Class := { plain "java/lang/Integer" (some 19) with
  accessFlags := 49
  interfaces := #[20, 21, 22]
  cf := some (fileOf pool24 1 #[.nestMembers #[189]] #[{ accessFlags := 9, nameIndex := 53, descriptorIndex := 54, attributes := #[] }] 49 203 #[304, 306, 308] #[{ accessFlags := 25, nameIndex := 310, descriptorIndex := 194, attributes := #[] }, { accessFlags := 25, nameIndex := 312, descriptorIndex := 194, attributes := #[] }, { accessFlags := 25, nameIndex := 302, descriptorIndex := 303, attributes := #[] }, { accessFlags := 24, nameIndex := 19, descriptorIndex := 20, attributes := #[] }, { accessFlags := 24, nameIndex := 89, descriptorIndex := 86, attributes := #[] }, { accessFlags := 24, nameIndex := 85, descriptorIndex := 86, attributes := #[] }, { accessFlags := 18, nameIndex := 207, descriptorIndex := 194, attributes := #[] }, { accessFlags := 25, nameIndex := 316, descriptorIndex := 194, attributes := #[] }, { accessFlags := 25, nameIndex := 318, descriptorIndex := 194, attributes := #[] }, { accessFlags := 26, nameIndex := 320, descriptorIndex := 321, attributes := #[] }])
  fields := #[{ name := "MIN_VALUE", type := .int, accessFlags := 25, slot := 0, constantValue := 0 }, { name := "MAX_VALUE", type := .int, accessFlags := 25, slot := 1, constantValue := 0 }, { name := "TYPE", type := (.object "java/lang/Class"), accessFlags := 25, slot := 2, constantValue := 0 }, { name := "digits", type := (.array .char), accessFlags := 24, slot := 3, constantValue := 0 }, { name := "DigitTens", type := (.array .byte), accessFlags := 24, slot := 4, constantValue := 0 }, { name := "DigitOnes", type := (.array .byte), accessFlags := 24, slot := 5, constantValue := 0 }, { name := "value", type := .int, accessFlags := 18, slot := 0, constantValue := 0 }, { name := "SIZE", type := .int, accessFlags := 25, slot := 6, constantValue := 0 }, { name := "BYTES", type := .int, accessFlags := 25, slot := 7, constantValue := 0 }, { name := "serialVersionUID", type := .long, accessFlags := 26, slot := 8, constantValue := 0 }]
  methods := #[k24m0]
  instanceTypes := #[.int]
  staticTypes := #[.int, .int, (.object "java/lang/Class"), (.array .char), (.array .byte), (.array .byte), .int, .int, .long]
  resolved := Array.replicate 453 none
  statics := none }

def pool25 : Array CpInfo := pool [(1, .methodref 2 3), (0, .class_ 4), (0, .nameAndType 5 6), (0, u "java/lang/Object"), (0, u "<init>"), (0, u "()V"), (0, .fieldref 8 9), (0, .class_ 10), (0, .nameAndType 11 12), (0, u "com/example/lively_broker/livelybroker/wire/Message"), (0, u "command"), (0, u "Lcom/example/lively_broker/livelybroker/wire/Command;"), (0, .fieldref 8 14), (0, .nameAndType 15 16), (0, u "jobId"), (0, u "[B"), (0, .fieldref 8 18), (0, .nameAndType 19 20), (0, u "state"), (0, u "Lcom/example/lively_broker/livelybroker/wire/WorkerState;"), (0, .fieldref 8 22), (0, .nameAndType 23 24), (0, u "reason"), (0, u "Lcom/example/lively_broker/livelybroker/wire/FailureReason;"), (0, .fieldref 8 26), (0, .nameAndType 27 16), (0, u "body"), (1, .class_ 31), (1, u "com/example/lively_broker/livelybroker/wire/Command"), (1, .methodref 8 34), (0, .nameAndType 5 35), (0, u "(Lcom/example/lively_broker/livelybroker/wire/Command;[BLcom/example/lively_broker/livelybroker/wire/WorkerState;Lcom/example/lively_broker/livelybroker/wire/FailureReason;[B)V"), (4, .methodref 41 42), (0, .class_ 43), (0, .nameAndType 44 45), (0, u "java/util/Objects"), (0, u "requireNonNull"), (0, u "(Ljava/lang/Object;Ljava/lang/String;)Ljava/lang/Object;"), (10, .class_ 16), (0, .methodref 8 58), (0, .nameAndType 59 60), (0, u "forJob"), (0, u "(Lcom/example/lively_broker/livelybroker/wire/Command;[BLcom/example/lively_broker/livelybroker/wire/FailureReason;[B)Lcom/example/lively_broker/livelybroker/wire/Message;"), (3, .string 65), (0, u "result"), (11, .fieldref 29 78), (0, .nameAndType 79 12), (0, u "DONE"), (0, .fieldref 29 81), (0, .nameAndType 82 12), (0, u "FAILED"), (0, .string 23), (0, .class_ 85), (0, u "com/example/lively_broker/livelybroker/wire/FailureReason"), (0, .string 87), (0, u "detail"), (0, .string 15), (0, .methodref 8 90), (0, .nameAndType 91 92), (0, u "checkJobId"), (0, u "([B)V"), (0, .methodref 8 94), (0, .nameAndType 95 96), (0, u "isJobId"), (0, u "([B)Z"), (64, .class_ 163), (1, u "com/example/lively_broker/livelybroker/wire/Message$1"), (156, u "MAX_JOB_ID_LENGTH"), (0, u "I"), (2, u "SHOWN_BYTES"), (9, u "([B[B)Lcom/example/lively_broker/livelybroker/wire/Message;"), (4, u "done"), (0, u "failed"), (0, u "([BLcom/example/lively_broker/livelybroker/wire/FailureReason;[B)Lcom/example/lively_broker/livelybroker/wire/Message;")] 66

def k25c0 : Code := { maxStack := 2, maxLocals := 6, code := prog_15_method_1_code, exceptionTable := #[], attributes := #[] }
def k25m0 : Method := { name := "<init>", desc := "(Lcom/example/lively_broker/livelybroker/wire/Command;[BLcom/example/lively_broker/livelybroker/wire/WorkerState;Lcom/example/lively_broker/livelybroker/wire/FailureReason;[B)V", sig := { parameters := [(.object "com/example/lively_broker/livelybroker/wire/Command"), (.array .byte), (.object "com/example/lively_broker/livelybroker/wire/WorkerState"), (.object "com/example/lively_broker/livelybroker/wire/FailureReason"), (.array .byte)], returnType := none }, accessFlags := 2, code := some k25c0 }
def k25c1 : Code := { maxStack := 5, maxLocals := 2, code := prog_15_method_10_code, exceptionTable := #[], attributes := #[] }
def k25m1 : Method := { name := "done", desc := "([B[B)Lcom/example/lively_broker/livelybroker/wire/Message;", sig := { parameters := [(.array .byte), (.array .byte)], returnType := some (.object "com/example/lively_broker/livelybroker/wire/Message") }, accessFlags := 9, code := some k25c1 }
def k25c2 : Code := { maxStack := 5, maxLocals := 3, code := prog_15_method_11_code, exceptionTable := #[], attributes := #[] }
def k25m2 : Method := { name := "failed", desc := "([BLcom/example/lively_broker/livelybroker/wire/FailureReason;[B)Lcom/example/lively_broker/livelybroker/wire/Message;", sig := { parameters := [(.array .byte), (.object "com/example/lively_broker/livelybroker/wire/FailureReason"), (.array .byte)], returnType := some (.object "com/example/lively_broker/livelybroker/wire/Message") }, accessFlags := 9, code := some k25c2 }
def k25c3 : Code := { maxStack := 7, maxLocals := 4, code := prog_15_method_12_code, exceptionTable := #[], attributes := #[] }
def k25m3 : Method := { name := "forJob", desc := "(Lcom/example/lively_broker/livelybroker/wire/Command;[BLcom/example/lively_broker/livelybroker/wire/FailureReason;[B)Lcom/example/lively_broker/livelybroker/wire/Message;", sig := { parameters := [(.object "com/example/lively_broker/livelybroker/wire/Command"), (.array .byte), (.object "com/example/lively_broker/livelybroker/wire/FailureReason"), (.array .byte)], returnType := some (.object "com/example/lively_broker/livelybroker/wire/Message") }, accessFlags := 10, code := some k25c3 }
def k25c4 : Code := { maxStack := 3, maxLocals := 1, code := prog_15_method_13_code, exceptionTable := #[], attributes := #[] }
def k25m4 : Method := { name := "checkJobId", desc := "([B)V", sig := { parameters := [(.array .byte)], returnType := none }, accessFlags := 9, code := some k25c4 }
def k25c5 : Code := { maxStack := 2, maxLocals := 1, code := prog_15_method_24_code, exceptionTable := #[], attributes := #[] }
def k25m5 : Method := { name := "isJobId", desc := "([B)Z", sig := { parameters := [(.array .byte)], returnType := some .boolean }, accessFlags := 10, code := some k25c5 }
/-- com/example/lively_broker/livelybroker/wire/Message -/
def k25 : Class := { plain "com/example/lively_broker/livelybroker/wire/Message" (some 0) with
  accessFlags := 33
  interfaces := #[]
  cf := some (fileOf pool25 8 #[.nestMembers #[161]] #[{ accessFlags := 2, nameIndex := 5, descriptorIndex := 35, attributes := #[] }, { accessFlags := 9, nameIndex := 339, descriptorIndex := 334, attributes := #[] }, { accessFlags := 9, nameIndex := 340, descriptorIndex := 341, attributes := #[] }, { accessFlags := 10, nameIndex := 59, descriptorIndex := 60, attributes := #[] }, { accessFlags := 9, nameIndex := 91, descriptorIndex := 92, attributes := #[] }, { accessFlags := 10, nameIndex := 95, descriptorIndex := 96, attributes := #[] }] 33 2 #[] #[{ accessFlags := 25, nameIndex := 320, descriptorIndex := 321, attributes := #[] }, { accessFlags := 26, nameIndex := 324, descriptorIndex := 321, attributes := #[] }, { accessFlags := 18, nameIndex := 11, descriptorIndex := 12, attributes := #[] }, { accessFlags := 18, nameIndex := 15, descriptorIndex := 16, attributes := #[] }, { accessFlags := 18, nameIndex := 19, descriptorIndex := 20, attributes := #[] }, { accessFlags := 18, nameIndex := 23, descriptorIndex := 24, attributes := #[] }, { accessFlags := 18, nameIndex := 27, descriptorIndex := 16, attributes := #[] }])
  fields := #[{ name := "MAX_JOB_ID_LENGTH", type := .int, accessFlags := 25, slot := 0, constantValue := 0 }, { name := "SHOWN_BYTES", type := .int, accessFlags := 26, slot := 1, constantValue := 0 }, { name := "command", type := (.object "com/example/lively_broker/livelybroker/wire/Command"), accessFlags := 18, slot := 0, constantValue := 0 }, { name := "jobId", type := (.array .byte), accessFlags := 18, slot := 1, constantValue := 0 }, { name := "state", type := (.object "com/example/lively_broker/livelybroker/wire/WorkerState"), accessFlags := 18, slot := 2, constantValue := 0 }, { name := "reason", type := (.object "com/example/lively_broker/livelybroker/wire/FailureReason"), accessFlags := 18, slot := 3, constantValue := 0 }, { name := "body", type := (.array .byte), accessFlags := 18, slot := 4, constantValue := 0 }]
  methods := #[k25m0, k25m1, k25m2, k25m3, k25m4, k25m5]
  instanceTypes := #[(.object "com/example/lively_broker/livelybroker/wire/Command"), (.array .byte), (.object "com/example/lively_broker/livelybroker/wire/WorkerState"), (.object "com/example/lively_broker/livelybroker/wire/FailureReason"), (.array .byte)]
  staticTypes := #[.int, .int]
  resolved := Array.replicate 408 none
  statics := none }

def pool26 : Array CpInfo := pool [(2, .class_ 4), (1, u "java/lang/Enum"), (0, u "name"), (0, u "Ljava/lang/String;"), (2, u "ordinal"), (0, u "I"), (1, .class_ 14), (1, u "java/lang/Object"), (4, u "hash"), (86, .class_ 108), (1, u "java/lang/Enum$EnumDesc"), (2, .class_ 112), (0, u "java/lang/constant/Constable"), (0, .class_ 114), (0, u "java/lang/Comparable"), (0, .class_ 116), (0, u "java/io/Serializable")] 87

/-- java/lang/Enum -/
def k26 : Class := { plain "java/lang/Enum" (some 0) with
  accessFlags := 1057
  interfaces := #[21, 20, 9]
  cf := some (fileOf pool26 2 #[.nestMembers #[106]] #[] 1057 12 #[111, 113, 115] #[{ accessFlags := 18, nameIndex := 5, descriptorIndex := 6, attributes := #[] }, { accessFlags := 18, nameIndex := 9, descriptorIndex := 10, attributes := #[] }, { accessFlags := 2, nameIndex := 19, descriptorIndex := 10, attributes := #[] }])
  fields := #[{ name := "name", type := (.object "java/lang/String"), accessFlags := 18, slot := 0, constantValue := 0 }, { name := "ordinal", type := .int, accessFlags := 18, slot := 1, constantValue := 0 }, { name := "hash", type := .int, accessFlags := 2, slot := 2, constantValue := 0 }]
  methods := #[]
  instanceTypes := #[(.object "java/lang/String"), .int, .int]
  staticTypes := #[]
  resolved := Array.replicate 204 none
  statics := none }

def pool27 : Array CpInfo := pool [(1, .class_ 2), (0, u "com/example/lively_broker/livelybroker/wire/Command"), (2, u "READY"), (0, u "Lcom/example/lively_broker/livelybroker/wire/Command;"), (2, u "PING"), (2, u "PONG"), (2, u "JOB"), (2, u "RESULT"), (2, u "ERROR"), (2, u "SUBMIT"), (2, u "ACCEPTED"), (2, u "DONE"), (2, u "FAILED"), (2, u "$VALUES"), (0, u "[Lcom/example/lively_broker/livelybroker/wire/Command;"), (6, .class_ 46), (1, u "java/lang/Enum"), (14, u "parts"), (0, u "Ljava/util/List;"), (1, .class_ 65), (0, u "com/example/lively_broker/livelybroker/wire/Command$Part")] 47

/-- com/example/lively_broker/livelybroker/wire/Command -/
def k27 : Class := { plain "com/example/lively_broker/livelybroker/wire/Command" (some 26) with
  accessFlags := 16433
  interfaces := #[]
  cf := some (fileOf pool27 1 #[.nestMembers #[64]] #[] 16433 44 #[] #[{ accessFlags := 16409, nameIndex := 5, descriptorIndex := 6, attributes := #[] }, { accessFlags := 16409, nameIndex := 9, descriptorIndex := 6, attributes := #[] }, { accessFlags := 16409, nameIndex := 12, descriptorIndex := 6, attributes := #[] }, { accessFlags := 16409, nameIndex := 15, descriptorIndex := 6, attributes := #[] }, { accessFlags := 16409, nameIndex := 18, descriptorIndex := 6, attributes := #[] }, { accessFlags := 16409, nameIndex := 21, descriptorIndex := 6, attributes := #[] }, { accessFlags := 16409, nameIndex := 24, descriptorIndex := 6, attributes := #[] }, { accessFlags := 16409, nameIndex := 27, descriptorIndex := 6, attributes := #[] }, { accessFlags := 16409, nameIndex := 30, descriptorIndex := 6, attributes := #[] }, { accessFlags := 16409, nameIndex := 33, descriptorIndex := 6, attributes := #[] }, { accessFlags := 18, nameIndex := 61, descriptorIndex := 62, attributes := #[] }, { accessFlags := 4122, nameIndex := 36, descriptorIndex := 37, attributes := #[] }])
  fields := #[{ name := "READY", type := (.object "com/example/lively_broker/livelybroker/wire/Command"), accessFlags := 16409, slot := 0, constantValue := 0 }, { name := "PING", type := (.object "com/example/lively_broker/livelybroker/wire/Command"), accessFlags := 16409, slot := 1, constantValue := 0 }, { name := "PONG", type := (.object "com/example/lively_broker/livelybroker/wire/Command"), accessFlags := 16409, slot := 2, constantValue := 0 }, { name := "JOB", type := (.object "com/example/lively_broker/livelybroker/wire/Command"), accessFlags := 16409, slot := 3, constantValue := 0 }, { name := "RESULT", type := (.object "com/example/lively_broker/livelybroker/wire/Command"), accessFlags := 16409, slot := 4, constantValue := 0 }, { name := "ERROR", type := (.object "com/example/lively_broker/livelybroker/wire/Command"), accessFlags := 16409, slot := 5, constantValue := 0 }, { name := "SUBMIT", type := (.object "com/example/lively_broker/livelybroker/wire/Command"), accessFlags := 16409, slot := 6, constantValue := 0 }, { name := "ACCEPTED", type := (.object "com/example/lively_broker/livelybroker/wire/Command"), accessFlags := 16409, slot := 7, constantValue := 0 }, { name := "DONE", type := (.object "com/example/lively_broker/livelybroker/wire/Command"), accessFlags := 16409, slot := 8, constantValue := 0 }, { name := "FAILED", type := (.object "com/example/lively_broker/livelybroker/wire/Command"), accessFlags := 16409, slot := 9, constantValue := 0 }, { name := "parts", type := (.object "java/util/List"), accessFlags := 18, slot := 3, constantValue := 0 }, { name := "$VALUES", type := (.array (.object "com/example/lively_broker/livelybroker/wire/Command")), accessFlags := 4122, slot := 10, constantValue := 0 }]
  methods := #[]
  instanceTypes := #[(.object "java/lang/String"), .int, .int, (.object "java/util/List")]
  staticTypes := #[(.object "com/example/lively_broker/livelybroker/wire/Command"), (.object "com/example/lively_broker/livelybroker/wire/Command"), (.object "com/example/lively_broker/livelybroker/wire/Command"), (.object "com/example/lively_broker/livelybroker/wire/Command"), (.object "com/example/lively_broker/livelybroker/wire/Command"), (.object "com/example/lively_broker/livelybroker/wire/Command"), (.object "com/example/lively_broker/livelybroker/wire/Command"), (.object "com/example/lively_broker/livelybroker/wire/Command"), (.object "com/example/lively_broker/livelybroker/wire/Command"), (.object "com/example/lively_broker/livelybroker/wire/Command"), (.array (.object "com/example/lively_broker/livelybroker/wire/Command"))]
  resolved := Array.replicate 113 none
  statics := some 0 }

def pool28 : Array CpInfo := pool [(2, .class_ 4), (1, u "java/lang/CharSequence"), (42, .class_ 48), (0, u "java/lang/CharSequence$1CodePointIterator"), (10, .class_ 60), (0, u "java/lang/CharSequence$1CharIterator"), (5, .class_ 67), (0, u "java/lang/Object")] 63

/-- java/lang/CharSequence -/
def k28 : Class := { plain "java/lang/CharSequence" (some 0) with
  accessFlags := 1537
  interfaces := #[]
  cf := some (fileOf pool28 2 #[.nestMembers #[47, 59]] #[] 1537 66 #[] #[])
  fields := #[]
  methods := #[]
  instanceTypes := #[]
  staticTypes := #[]
  resolved := Array.replicate 131 none
  statics := none }

def pool29 : Array CpInfo := pool [(2, .class_ 4), (1, u "java/lang/Object"), (0, u "<init>"), (0, u "()V"), (3, .class_ 12), (1, u "java/lang/String"), (0, u "value"), (0, u "[B"), (2, u "coder"), (0, u "B"), (2, u "hash"), (0, u "I"), (2, u "hashIsZero"), (0, u "Z"), (13, u "COMPACT_STRINGS"), (534, .class_ 576), (0, u "java/lang/CharSequence"), (22, u "CASE_INSENSITIVE_ORDER"), (0, u "Ljava/util/Comparator;"), (500, u "serialPersistentFields"), (0, u "[Ljava/io/ObjectStreamField;"), (0, .class_ 1104), (0, u "java/lang/String$CaseInsensitiveComparator"), (1, .class_ 1107), (0, u "java/io/Serializable"), (0, .class_ 1109), (0, u "java/lang/Comparable"), (0, .class_ 1111), (0, u "java/lang/constant/Constable"), (0, .class_ 1113), (0, u "java/lang/constant/ConstantDesc"), (2, u "serialVersionUID"), (0, u "J"), (3, u "REPL"), (0, u "C"), (2, u "LATIN1"), (1, u "UTF16")] 323

def k29m0 : Method := { name := "<init>", desc := "()V", sig := { parameters := [], returnType := none }, accessFlags := 1, code := none }
/-- java/lang/String -/
def k29 : Class := { plain "java/lang/String" (some 0) with
  accessFlags := 49
  interfaces := #[9, 20, 28, 21, 22]
  cf := some (fileOf pool29 10 #[.nestMembers #[1103]] #[{ accessFlags := 1, nameIndex := 5, descriptorIndex := 6, attributes := #[] }] 49 2 #[1106, 1108, 575, 1110, 1112] #[{ accessFlags := 18, nameIndex := 13, descriptorIndex := 14, attributes := #[] }, { accessFlags := 18, nameIndex := 17, descriptorIndex := 18, attributes := #[] }, { accessFlags := 2, nameIndex := 21, descriptorIndex := 22, attributes := #[] }, { accessFlags := 2, nameIndex := 25, descriptorIndex := 26, attributes := #[] }, { accessFlags := 26, nameIndex := 1116, descriptorIndex := 1117, attributes := #[] }, { accessFlags := 24, nameIndex := 40, descriptorIndex := 26, attributes := #[] }, { accessFlags := 26, nameIndex := 1101, descriptorIndex := 1102, attributes := #[] }, { accessFlags := 26, nameIndex := 1121, descriptorIndex := 1122, attributes := #[] }, { accessFlags := 25, nameIndex := 599, descriptorIndex := 600, attributes := #[] }, { accessFlags := 24, nameIndex := 1125, descriptorIndex := 18, attributes := #[] }, { accessFlags := 24, nameIndex := 1127, descriptorIndex := 18, attributes := #[] }])
  fields := #[{ name := "value", type := (.array .byte), accessFlags := 18, slot := 0, constantValue := 0 }, { name := "coder", type := .byte, accessFlags := 18, slot := 1, constantValue := 0 }, { name := "hash", type := .int, accessFlags := 2, slot := 2, constantValue := 0 }, { name := "hashIsZero", type := .boolean, accessFlags := 2, slot := 3, constantValue := 0 }, { name := "serialVersionUID", type := .long, accessFlags := 26, slot := 0, constantValue := 0 }, { name := "COMPACT_STRINGS", type := .boolean, accessFlags := 24, slot := 1, constantValue := 0 }, { name := "serialPersistentFields", type := (.array (.object "java/io/ObjectStreamField")), accessFlags := 26, slot := 2, constantValue := 0 }, { name := "REPL", type := .char, accessFlags := 26, slot := 3, constantValue := 0 }, { name := "CASE_INSENSITIVE_ORDER", type := (.object "java/util/Comparator"), accessFlags := 25, slot := 4, constantValue := 0 }, { name := "LATIN1", type := .byte, accessFlags := 24, slot := 5, constantValue := 0 }, { name := "UTF16", type := .byte, accessFlags := 24, slot := 6, constantValue := 0 }]
  methods := #[k29m0]
  instanceTypes := #[(.array .byte), .byte, .int, .boolean]
  staticTypes := #[.long, .boolean, (.array (.object "java/io/ObjectStreamField")), .char, (.object "java/util/Comparator"), .byte, .byte]
  resolved := Array.replicate 1451 none
  statics := none }

def pool30 : Array CpInfo := pool [(2, .class_ 4), (1, u "java/lang/Object"), (0, u "<init>"), (0, u "()V"), (35, .class_ 44), (1, u "java/util/Objects"), (0, u "requireNonNull"), (48, u "(Ljava/lang/Object;Ljava/lang/String;)Ljava/lang/Object;")] 89

def k30m0 : Method := { name := "<init>", desc := "()V", sig := { parameters := [], returnType := none }, accessFlags := 2, code := none }
def k30c1 : Code := { maxStack := 3, maxLocals := 2, code := jdk_31_method_11_code, exceptionTable := #[], attributes := #[] }
def k30m1 : Method := { name := "requireNonNull", desc := "(Ljava/lang/Object;Ljava/lang/String;)Ljava/lang/Object;", sig := { parameters := [(.object "java/lang/Object"), (.object "java/lang/String")], returnType := some (.object "java/lang/Object") }, accessFlags := 9, code := some k30c1 }
/-- java/util/Objects -/
def k30 : Class := { plain "java/util/Objects" (some 0) with
  accessFlags := 49
  interfaces := #[]
  cf := some (fileOf pool30 42 #[] #[{ accessFlags := 2, nameIndex := 5, descriptorIndex := 6, attributes := #[] }, { accessFlags := 9, nameIndex := 45, descriptorIndex := 94, attributes := #[] }] 49 2 #[] #[])
  fields := #[]
  methods := #[k30m0, k30m1]
  instanceTypes := #[]
  staticTypes := #[]
  resolved := Array.replicate 184 none
  statics := none }

def pool31 : Array CpInfo := pool [(8, .class_ 10), (1, u "java/util/List"), (92, .class_ 104), (0, u "java/lang/Object"), (15, .class_ 121), (0, u "java/util/SequencedCollection")] 129

/-- java/util/List -/
def k31 : Class := { plain "java/util/List" (some 0) with
  accessFlags := 1537
  interfaces := #[11]
  cf := some (fileOf pool31 8 #[] #[] 1537 103 #[120] #[])
  fields := #[]
  methods := #[]
  instanceTypes := #[]
  staticTypes := #[]
  resolved := Array.replicate 251 none
  statics := none }

def pool32 : Array CpInfo := pool [(1, .methodref 2 3), (0, .class_ 4), (0, .nameAndType 5 6), (0, u "java/util/AbstractCollection"), (0, u "<init>"), (0, u "()V"), (0, .fieldref 8 9), (0, .class_ 10), (0, .nameAndType 11 12), (0, u "java/util/AbstractList"), (0, u "modCount"), (0, u "I"), (64, .class_ 78), (0, u "java/util/AbstractList$Itr"), (3, .class_ 83), (0, u "java/util/AbstractList$ListItr"), (9, .class_ 94), (0, u "java/util/AbstractList$RandomAccessSubList"), (3, .class_ 99), (0, u "java/util/AbstractList$SubList"), (33, .class_ 134), (0, u "java/util/List"), (73, .class_ 209), (0, u "java/util/AbstractList$SubList$1"), (0, .class_ 211), (0, u "java/util/AbstractList$RandomAccessSpliterator")] 6

def k32c0 : Code := { maxStack := 2, maxLocals := 1, code := jdk_39_method_1_code, exceptionTable := #[], attributes := #[] }
def k32m0 : Method := { name := "<init>", desc := "()V", sig := { parameters := [], returnType := none }, accessFlags := 4, code := some k32c0 }
/-- java/util/AbstractList -/
def k32 : Class := { plain "java/util/AbstractList" (some 5) with
  accessFlags := 1057
  interfaces := #[31]
  cf := some (fileOf pool32 8 #[.nestMembers #[93, 98, 208, 210, 82, 77]] #[{ accessFlags := 4, nameIndex := 5, descriptorIndex := 6, attributes := #[] }] 1057 2 #[133] #[{ accessFlags := 132, nameIndex := 11, descriptorIndex := 12, attributes := #[] }])
  fields := #[{ name := "modCount", type := .int, accessFlags := 132, slot := 0, constantValue := 0 }]
  methods := #[k32m0]
  instanceTypes := #[.int]
  staticTypes := #[]
  resolved := Array.replicate 218 none
  statics := none }

def pool33 : Array CpInfo := pool [(1, .class_ 2), (0, u "java/util/RandomAccess"), (0, .class_ 4), (0, u "java/lang/Object")] 2

/-- java/util/RandomAccess -/
def k33 : Class := { plain "java/util/RandomAccess" (some 0) with
  accessFlags := 1537
  interfaces := #[]
  cf := some (fileOf pool33 1 #[] #[] 1537 3 #[] #[])
  fields := #[]
  methods := #[]
  instanceTypes := #[]
  staticTypes := #[]
  resolved := Array.replicate 7 none
  statics := none }

def pool34 : Array CpInfo := pool [(1, .methodref 2 3), (0, .class_ 4), (0, .nameAndType 5 6), (0, u "java/util/AbstractList"), (0, u "<init>"), (0, u "()V"), (2, .fieldref 10 11), (0, .class_ 12), (0, .nameAndType 13 14), (0, u "java/util/ArrayList"), (0, u "elementData"), (0, u "[Ljava/lang/Object;"), (0, .fieldref 10 16), (0, .nameAndType 17 14), (0, u "EMPTY_ELEMENTDATA"), (23, u "DEFAULTCAPACITY_EMPTY_ELEMENTDATA"), (0, .interfaceMethodref 43 44), (0, .class_ 45), (0, .nameAndType 46 47), (0, u "java/util/Collection"), (0, u "toArray"), (0, u "()[Ljava/lang/Object;"), (0, .fieldref 10 49), (0, .nameAndType 50 51), (0, u "size"), (0, u "I"), (96, .class_ 149), (0, u "java/util/List"), (112, .class_ 263), (0, u "java/util/ArrayList$ListItr"), (3, .class_ 268), (0, u "java/util/ArrayList$Itr"), (7, .class_ 277), (0, u "java/util/ArrayList$SubList"), (12, .class_ 291), (0, u "java/util/ArrayList$ArrayListSpliterator"), (37, .class_ 330), (0, u "java/util/RandomAccess"), (0, .class_ 332), (0, u "java/lang/Cloneable"), (0, .class_ 334), (0, u "java/io/Serializable"), (0, u "serialVersionUID"), (0, u "J"), (3, u "DEFAULT_CAPACITY"), (10, u "(Ljava/util/Collection;)V"), (148, .class_ 501), (0, u "java/util/ArrayList$SubList$2"), (0, .class_ 503), (0, u "java/util/ArrayList$SubList$1")] 5

def k34m0 : Method := { name := "<init>", desc := "()V", sig := { parameters := [], returnType := none }, accessFlags := 1, code := none }
def k34c1 : Code := { maxStack := 4, maxLocals := 3, code := jdk_38_method_3_code, exceptionTable := #[], attributes := #[] }
def k34m1 : Method := { name := "<init>", desc := "(Ljava/util/Collection;)V", sig := { parameters := [(.object "java/util/Collection")], returnType := none }, accessFlags := 1, code := some k34c1 }
/-- java/util/ArrayList -/
def k34 : Class := { plain "java/util/ArrayList" (some 32) with
  accessFlags := 33
  interfaces := #[31, 33, 8, 9]
  cf := some (fileOf pool34 10 #[.nestMembers #[290, 276, 500, 502, 262, 267]] #[{ accessFlags := 1, nameIndex := 5, descriptorIndex := 6, attributes := #[] }, { accessFlags := 1, nameIndex := 5, descriptorIndex := 351, attributes := #[] }] 33 2 #[148, 329, 331, 333] #[{ accessFlags := 26, nameIndex := 335, descriptorIndex := 336, attributes := #[] }, { accessFlags := 26, nameIndex := 340, descriptorIndex := 51, attributes := #[] }, { accessFlags := 26, nameIndex := 17, descriptorIndex := 14, attributes := #[] }, { accessFlags := 26, nameIndex := 41, descriptorIndex := 14, attributes := #[] }, { accessFlags := 128, nameIndex := 13, descriptorIndex := 14, attributes := #[] }, { accessFlags := 2, nameIndex := 50, descriptorIndex := 51, attributes := #[] }])
  fields := #[{ name := "serialVersionUID", type := .long, accessFlags := 26, slot := 0, constantValue := 0 }, { name := "DEFAULT_CAPACITY", type := .int, accessFlags := 26, slot := 1, constantValue := 0 }, { name := "EMPTY_ELEMENTDATA", type := (.array (.object "java/lang/Object")), accessFlags := 26, slot := 2, constantValue := 0 }, { name := "DEFAULTCAPACITY_EMPTY_ELEMENTDATA", type := (.array (.object "java/lang/Object")), accessFlags := 26, slot := 3, constantValue := 0 }, { name := "elementData", type := (.array (.object "java/lang/Object")), accessFlags := 128, slot := 1, constantValue := 0 }, { name := "size", type := .int, accessFlags := 2, slot := 2, constantValue := 0 }]
  methods := #[k34m0, k34m1]
  instanceTypes := #[.int, (.array (.object "java/lang/Object")), .int]
  staticTypes := #[.long, .int, (.array (.object "java/lang/Object")), (.array (.object "java/lang/Object"))]
  resolved := Array.replicate 509 none
  statics := some 1 }

def pool35 : Array CpInfo := pool [(1, .class_ 2), (0, u "com/example/lively_broker/livelybroker/wire/FailureReason"), (2, u "ERROR"), (0, u "Lcom/example/lively_broker/livelybroker/wire/FailureReason;"), (2, u "NOT_PLACED"), (2, u "WORKER_LOST"), (2, u "$VALUES"), (0, u "[Lcom/example/lively_broker/livelybroker/wire/FailureReason;"), (6, .class_ 25), (1, u "java/lang/Enum"), (8, u "word"), (0, u "Ljava/lang/String;")] 29

/-- com/example/lively_broker/livelybroker/wire/FailureReason -/
def k35 : Class := { plain "com/example/lively_broker/livelybroker/wire/FailureReason" (some 26) with
  accessFlags := 16433
  interfaces := #[]
  cf := some (fileOf pool35 1 #[] #[] 16433 23 #[] #[{ accessFlags := 16409, nameIndex := 5, descriptorIndex := 6, attributes := #[] }, { accessFlags := 16409, nameIndex := 9, descriptorIndex := 6, attributes := #[] }, { accessFlags := 16409, nameIndex := 12, descriptorIndex := 6, attributes := #[] }, { accessFlags := 18, nameIndex := 34, descriptorIndex := 35, attributes := #[] }, { accessFlags := 4122, nameIndex := 15, descriptorIndex := 16, attributes := #[] }])
  fields := #[{ name := "ERROR", type := (.object "com/example/lively_broker/livelybroker/wire/FailureReason"), accessFlags := 16409, slot := 0, constantValue := 0 }, { name := "NOT_PLACED", type := (.object "com/example/lively_broker/livelybroker/wire/FailureReason"), accessFlags := 16409, slot := 1, constantValue := 0 }, { name := "WORKER_LOST", type := (.object "com/example/lively_broker/livelybroker/wire/FailureReason"), accessFlags := 16409, slot := 2, constantValue := 0 }, { name := "word", type := (.object "java/lang/String"), accessFlags := 18, slot := 3, constantValue := 0 }, { name := "$VALUES", type := (.array (.object "com/example/lively_broker/livelybroker/wire/FailureReason")), accessFlags := 4122, slot := 3, constantValue := 0 }]
  methods := #[]
  instanceTypes := #[(.object "java/lang/String"), .int, .int, (.object "java/lang/String")]
  staticTypes := #[(.object "com/example/lively_broker/livelybroker/wire/FailureReason"), (.object "com/example/lively_broker/livelybroker/wire/FailureReason"), (.object "com/example/lively_broker/livelybroker/wire/FailureReason"), (.array (.object "com/example/lively_broker/livelybroker/wire/FailureReason"))]
  resolved := Array.replicate 65 none
  statics := some 2 }

/-- the primitive byte -/
def k36 : Class := { plain "byte" none with kind := .primitive 'B', accessFlags := 0x411 }
/-- [B -/
def k37 : Class := { plain "[B" (some 0) with kind := .array 36 .byte, interfaces := #[8, 9], accessFlags := 1041 }

/-- the primitive int -/
def k38 : Class := { plain "int" none with kind := .primitive 'I', accessFlags := 0x411 }
/-- [I -/
def k39 : Class := { plain "[I" (some 0) with kind := .array 38 .int, interfaces := #[8, 9], accessFlags := 1041 }

/-- [Ljava/lang/Object; -/
def k40 : Class := { plain "[Ljava/lang/Object;" (some 0) with kind := .array 0 (.object "java/lang/Object"), interfaces := #[8, 9], accessFlags := 1041 }

def heap : Heap := #[{ cls := 27, slots := #[.null, .null, .null, .null, .null, .null, .null, .null, .ref 3, .ref 3, .null], vm := .statics 27 },
  { cls := 34, slots := #[.long 0, .int 0, .ref 5, .ref 6], vm := .statics 34 },
  { cls := 35, slots := #[.ref 4, .ref 4, .ref 4, .null], vm := .statics 35 },
  { cls := 27, slots := #[.null, .int 0, .int 0, .null], vm := .none },
  { cls := 35, slots := #[.null, .int 0, .int 0, .null], vm := .none },
  { cls := 40, slots := #[], vm := .none },
  { cls := 40, slots := #[], vm := .none }]
def classes : Array Class := #[k0, k1, k2, k3, k4, k5, k6, k7, k8, k9, k10, k11, k12, k13, k14, k15, k16, k17, k18, k19, k20, k21, k22, k23, k24, k25, k26, k27, k28, k29, k30, k31, k32, k33, k34, k35, k36, k37, k38, k39, k40]
def interned : List (Array UInt16 × Addr) := []
def slotsUsed : Nat := 27
def theMethod : MethodId := ⟨1, 1⟩
def args0 : Array Value := #[.int 5, .long 2, .long 1, .long 1, .int 1, .int 1]
def aboutOver (below : List Frame) : State where
  vm := { classes := classes, interned := interned.toArray }
  heap := heap
  slotsUsed := slotsUsed
  threads := #[{ frames := .invoking theMethod args0 :: below }]
def below0 : List Frame := [.native { method := ⟨0, 0⟩, args := #[] }]
def about1 : State := aboutOver below0
def p0 : Program := .bare "" "" ""
def e0 : Env := launch0.env 0 0 0
theorem w_frames : about1.frames = Frame.invoking theMethod args0 :: below0 := rfl
set_option maxRecDepth 65536 in
theorem w_args : argsFit about1.vm theMethod args0 = true := by decide +kernel
set_option maxRecDepth 65536 in
theorem w_heap : heapFits about1 = true := by decide +kernel
set_option maxRecDepth 65536 in
theorem w_runnable : about1.curStatus? = some .runnable := by decide +kernel
set_option maxRecDepth 65536 in
theorem w_alone : about1.alone = true := by decide +kernel
set_option maxRecDepth 65536 in
theorem w_named : about1.methodNamed? x = some theMethod := by decide +kernel
set_option maxRecDepth 65536 in
theorem w_hears : about1.hears theMethod below0 = true := by decide +kernel
set_option maxRecDepth 65536 in
theorem w_ripe : about1.ripe theMethod args0 below0 = true := by decide +kernel
theorem w_running : about1.status = .running := rfl
set_option maxRecDepth 65536 in
theorem w_room : about1.hasRoom e0.platform room_1 = true :=
  launch0.hasRoom_least _ room_1 (by decide +kernel) (by decide +kernel) (by decide +kernel) (by decide +kernel) (by decide +kernel) (by decide +kernel)
theorem allAtoms_all (ts : List Jvm.Cond) (a : Array Jvm.Value) (st : Jvm.State) : (allAtoms ts).before a st = ts.all (fun c => c.before a st) := by
  induction ts with
  | nil => rfl
  | cons c t ih =>
    show (Jvm.Cond.and c (allAtoms t)).before a st = _
    rw [Jvm.Cond.before_and, ih, List.all_cons]
def words1 : List Jvm.Cond := Jvm.Cond.code x code maxLocals ret :: tables_1
/-- a 'code' word, met by the world's own term for the bytes: nothing is compared byte by byte -/
theorem code_word {y : MethodName} {bytes : ByteArray} {mx : Nat} {rt : Option FieldType} {a : Array Value} {s : State} {m : MethodId} {meth : Method} {c : Code} (h1 : s.methodNamed? y = some m) (h2 : s.vm.method? m = some meth) (h3 : meth.code = some c) (h4 : c.code = bytes)
    (h5 : (c.maxLocals == mx && c.exceptionTable.isEmpty && decide (c.maxStack ≤ mostOperands) && decide (meth.sig.returnType = rt) && !meth.locks && decide (parseMethodDescriptor y.desc = some meth.sig)) = true) : (Jvm.Cond.code y bytes mx rt).before a s = true := by
  simp only [Bool.and_eq_true, beq_iff_eq, Bool.not_eq_true', decide_eq_true_eq] at h5
  obtain ⟨⟨⟨⟨⟨g1, g2⟩, g3⟩, g4⟩, g5⟩, g6⟩ := h5
  simp [Cond.before, Cond.holds, Cond.value, h1, h2, h3, h4, g1, g2, g3, g4, g5, g6]
def isCode : Jvm.Cond → Bool
  | .code _ _ _ _ => true
  | _ => false
theorem all_split {L : List Jvm.Cond} {P : Jvm.Cond → Bool} (h1 : L.all (fun c => isCode c || P c) = true) (h2 : ∀ c ∈ L.filter isCode, P c = true) : L.all P = true := by
  refine List.all_eq_true.mpr fun c hc => ?_
  have h := List.all_eq_true.mp h1 c hc
  rcases Bool.eq_false_or_eq_true (isCode c) with hi | hi
  · exact h2 c (List.mem_filter.mpr ⟨hc, hi⟩)
  · simpa [hi] using h
set_option maxRecDepth 65536 in
theorem w_c0 : (Jvm.Cond.code x code maxLocals ret).before args0 about1 = true := code_word (m := ⟨1, 1⟩) (meth := k1m1) (c := k1c1) (by decide +kernel) rfl rfl rfl (by decide +kernel)
set_option maxRecDepth 65536 in
theorem w_c1 : (Jvm.Cond.code ({ cls := "com/example/lively_broker/livelybroker/broker/Job", name := "<init>", desc := "([B[BJJ)V" } : Jvm.MethodName) prog_1_method_1_code (7 : Nat) (Option.none : Option Jvm.ClassFile.FieldType)).before args0 about1 = true := code_word (m := ⟨2, 0⟩) (meth := k2m0) (c := k2c0) (by decide +kernel) rfl rfl rfl (by decide +kernel)
set_option maxRecDepth 65536 in
theorem w_c2 : (Jvm.Cond.code ({ cls := "java/lang/Object", name := "<init>", desc := "()V" } : Jvm.MethodName) object_method_1_code (1 : Nat) (Option.none : Option Jvm.ClassFile.FieldType)).before args0 about1 = true := code_word (m := ⟨0, 0⟩) (meth := k0m0) (c := k0c0) (by decide +kernel) rfl rfl rfl (by decide +kernel)
set_option maxRecDepth 65536 in
theorem w_c3 : (Jvm.Cond.code ({ cls := "java/util/LinkedHashSet", name := "<init>", desc := "()V" } : Jvm.MethodName) jdk_2620_method_3_code (1 : Nat) (Option.none : Option Jvm.ClassFile.FieldType)).before args0 about1 = true := code_word (m := ⟨13, 0⟩) (meth := k13m0) (c := k13c0) (by decide +kernel) rfl rfl rfl (by decide +kernel)
set_option maxRecDepth 65536 in
theorem w_c4 : (Jvm.Cond.code ({ cls := "java/util/HashSet", name := "<init>", desc := "(IFZ)V" } : Jvm.MethodName) jdk_93_method_5_code (4 : Nat) (Option.none : Option Jvm.ClassFile.FieldType)).before args0 about1 = true := code_word (m := ⟨10, 1⟩) (meth := k10m1) (c := k10c1) (by decide +kernel) rfl rfl rfl (by decide +kernel)
set_option maxRecDepth 65536 in
theorem w_c5 : (Jvm.Cond.code ({ cls := "java/util/AbstractSet", name := "<init>", desc := "()V" } : Jvm.MethodName) jdk_91_method_1_code (1 : Nat) (Option.none : Option Jvm.ClassFile.FieldType)).before args0 about1 = true := code_word (m := ⟨7, 0⟩) (meth := k7m0) (c := k7c0) (by decide +kernel) rfl rfl rfl (by decide +kernel)
set_option maxRecDepth 65536 in
theorem w_c6 : (Jvm.Cond.code ({ cls := "java/util/AbstractCollection", name := "<init>", desc := "()V" } : Jvm.MethodName) jdk_22_method_1_code (1 : Nat) (Option.none : Option Jvm.ClassFile.FieldType)).before args0 about1 = true := code_word (m := ⟨5, 0⟩) (meth := k5m0) (c := k5c0) (by decide +kernel) rfl rfl rfl (by decide +kernel)
set_option maxRecDepth 65536 in
theorem w_c7 : (Jvm.Cond.code ({ cls := "java/util/LinkedHashMap", name := "<init>", desc := "(IF)V" } : Jvm.MethodName) jdk_94_method_14_code (3 : Nat) (Option.none : Option Jvm.ClassFile.FieldType)).before args0 about1 = true := code_word (m := ⟨18, 0⟩) (meth := k18m0) (c := k18c0) (by decide +kernel) rfl rfl rfl (by decide +kernel)
set_option maxRecDepth 65536 in
theorem w_c8 : (Jvm.Cond.code ({ cls := "java/util/HashMap", name := "<init>", desc := "(IF)V" } : Jvm.MethodName) jdk_69_method_5_code (3 : Nat) (Option.none : Option Jvm.ClassFile.FieldType)).before args0 about1 = true := code_word (m := ⟨16, 1⟩) (meth := k16m1) (c := k16c1) (by decide +kernel) rfl rfl rfl (by decide +kernel)
set_option maxRecDepth 65536 in
theorem w_c9 : (Jvm.Cond.code ({ cls := "java/util/AbstractMap", name := "<init>", desc := "()V" } : Jvm.MethodName) jdk_71_method_1_code (1 : Nat) (Option.none : Option Jvm.ClassFile.FieldType)).before args0 about1 = true := code_word (m := ⟨15, 0⟩) (meth := k15m0) (c := k15c0) (by decide +kernel) rfl rfl rfl (by decide +kernel)
set_option maxRecDepth 65536 in
theorem w_c10 : (Jvm.Cond.code ({ cls := "java/lang/Float", name := "isNaN", desc := "(F)Z" } : Jvm.MethodName) jdk_118_method_6_code (1 : Nat) (Option.some Jvm.ClassFile.FieldType.boolean)).before args0 about1 = true := code_word (m := ⟨23, 0⟩) (meth := k23m0) (c := k23c0) (by decide +kernel) rfl rfl rfl (by decide +kernel)
set_option maxRecDepth 65536 in
theorem w_c11 : (Jvm.Cond.code ({ cls := "java/util/HashMap", name := "tableSizeFor", desc := "(I)I" } : Jvm.MethodName) jdk_69_method_4_code (2 : Nat) (Option.some Jvm.ClassFile.FieldType.int)).before args0 about1 = true := code_word (m := ⟨16, 0⟩) (meth := k16m0) (c := k16c0) (by decide +kernel) rfl rfl rfl (by decide +kernel)
set_option maxRecDepth 65536 in
theorem w_c12 : (Jvm.Cond.code ({ cls := "java/lang/Integer", name := "numberOfLeadingZeros", desc := "(I)I" } : Jvm.MethodName) jdk_33_method_47_code (2 : Nat) (Option.some Jvm.ClassFile.FieldType.int)).before args0 about1 = true := code_word (m := ⟨24, 0⟩) (meth := k24m0) (c := k24c0) (by decide +kernel) rfl rfl rfl (by decide +kernel)
set_option maxRecDepth 65536 in
theorem w_c13 : (Jvm.Cond.code ({ cls := "com/example/lively_broker/livelybroker/broker/Job", name := "answered", desc := "()Z" } : Jvm.MethodName) prog_1_method_9_code (1 : Nat) (Option.some Jvm.ClassFile.FieldType.boolean)).before args0 about1 = true := code_word (m := ⟨2, 2⟩) (meth := k2m2) (c := k2c2) (by decide +kernel) rfl rfl rfl (by decide +kernel)
set_option maxRecDepth 65536 in
theorem w_c14 : (Jvm.Cond.code ({ cls := "com/example/lively_broker/livelybroker/broker/Job", name := "countLostWorker", desc := "()I" } : Jvm.MethodName) prog_1_method_15_code (1 : Nat) (Option.some Jvm.ClassFile.FieldType.int)).before args0 about1 = true := code_word (m := ⟨2, 6⟩) (meth := k2m6) (c := k2c6) (by decide +kernel) rfl rfl rfl (by decide +kernel)
set_option maxRecDepth 65536 in
theorem w_c15 : (Jvm.Cond.code ({ cls := "com/example/lively_broker/livelybroker/broker/Job", name := "markTakenBack", desc := "()V" } : Jvm.MethodName) prog_1_method_14_code (1 : Nat) (Option.none : Option Jvm.ClassFile.FieldType)).before args0 about1 = true := code_word (m := ⟨2, 5⟩) (meth := k2m5) (c := k2c5) (by decide +kernel) rfl rfl rfl (by decide +kernel)
set_option maxRecDepth 65536 in
theorem w_c16 : (Jvm.Cond.code ({ cls := "com/example/lively_broker/livelybroker/broker/Job", name := "restoreProgress", desc := "(ZI)V" } : Jvm.MethodName) prog_1_method_17_code (3 : Nat) (Option.none : Option Jvm.ClassFile.FieldType)).before args0 about1 = true := code_word (m := ⟨2, 7⟩) (meth := k2m7) (c := k2c7) (by decide +kernel) rfl rfl rfl (by decide +kernel)
set_option maxRecDepth 65536 in
theorem w_c17 : (Jvm.Cond.code ({ cls := "com/example/lively_broker/livelybroker/broker/Job", name := "markPlaced", desc := "()V" } : Jvm.MethodName) prog_1_method_8_code (1 : Nat) (Option.none : Option Jvm.ClassFile.FieldType)).before args0 about1 = true := code_word (m := ⟨2, 1⟩) (meth := k2m1) (c := k2c1) (by decide +kernel) rfl rfl rfl (by decide +kernel)
set_option maxRecDepth 65536 in
theorem w_c18 : (Jvm.Cond.code ({ cls := "com/example/lively_broker/livelybroker/wire/Message", name := "done", desc := "([B[B)Lcom/example/lively_broker/livelybroker/wire/Message;" } : Jvm.MethodName) prog_15_method_10_code (2 : Nat) (Option.some (Jvm.ClassFile.FieldType.object "com/example/lively_broker/livelybroker/wire/Message"))).before args0 about1 = true := code_word (m := ⟨25, 1⟩) (meth := k25m1) (c := k25c1) (by decide +kernel) rfl rfl rfl (by decide +kernel)
set_option maxRecDepth 65536 in
theorem w_c19 : (Jvm.Cond.code ({ cls := "java/util/Objects", name := "requireNonNull", desc := "(Ljava/lang/Object;Ljava/lang/String;)Ljava/lang/Object;" } : Jvm.MethodName) jdk_31_method_11_code (2 : Nat) (Option.some (Jvm.ClassFile.FieldType.object "java/lang/Object"))).before args0 about1 = true := code_word (m := ⟨30, 1⟩) (meth := k30m1) (c := k30c1) (by decide +kernel) rfl rfl rfl (by decide +kernel)
set_option maxRecDepth 65536 in
theorem w_c20 : (Jvm.Cond.code ({ cls := "com/example/lively_broker/livelybroker/wire/Message", name := "forJob", desc := "(Lcom/example/lively_broker/livelybroker/wire/Command;[BLcom/example/lively_broker/livelybroker/wire/FailureReason;[B)Lcom/example/lively_broker/livelybroker/wire/Message;" } : Jvm.MethodName) prog_15_method_12_code (4 : Nat) (Option.some (Jvm.ClassFile.FieldType.object "com/example/lively_broker/livelybroker/wire/Message"))).before args0 about1 = true := code_word (m := ⟨25, 3⟩) (meth := k25m3) (c := k25c3) (by decide +kernel) rfl rfl rfl (by decide +kernel)
set_option maxRecDepth 65536 in
theorem w_c21 : (Jvm.Cond.code ({ cls := "com/example/lively_broker/livelybroker/wire/Message", name := "checkJobId", desc := "([B)V" } : Jvm.MethodName) prog_15_method_13_code (1 : Nat) (Option.none : Option Jvm.ClassFile.FieldType)).before args0 about1 = true := code_word (m := ⟨25, 4⟩) (meth := k25m4) (c := k25c4) (by decide +kernel) rfl rfl rfl (by decide +kernel)
set_option maxRecDepth 65536 in
theorem w_c22 : (Jvm.Cond.code ({ cls := "com/example/lively_broker/livelybroker/wire/Message", name := "isJobId", desc := "([B)Z" } : Jvm.MethodName) prog_15_method_24_code (1 : Nat) (Option.some Jvm.ClassFile.FieldType.boolean)).before args0 about1 = true := code_word (m := ⟨25, 5⟩) (meth := k25m5) (c := k25c5) (by decide +kernel) rfl rfl rfl (by decide +kernel)
set_option maxRecDepth 65536 in
theorem w_c23 : (Jvm.Cond.code ({ cls := "com/example/lively_broker/livelybroker/wire/Message", name := "<init>", desc := "(Lcom/example/lively_broker/livelybroker/wire/Command;[BLcom/example/lively_broker/livelybroker/wire/WorkerState;Lcom/example/lively_broker/livelybroker/wire/FailureReason;[B)V" } : Jvm.MethodName) prog_15_method_1_code (6 : Nat) (Option.none : Option Jvm.ClassFile.FieldType)).before args0 about1 = true := code_word (m := ⟨25, 0⟩) (meth := k25m0) (c := k25c0) (by decide +kernel) rfl rfl rfl (by decide +kernel)
set_option maxRecDepth 65536 in
theorem w_c24 : (Jvm.Cond.code ({ cls := "com/example/lively_broker/livelybroker/broker/Job", name := "markAnswered", desc := "(Lcom/example/lively_broker/livelybroker/wire/Message;J)Ljava/util/List;" } : Jvm.MethodName) prog_1_method_12_code (5 : Nat) (Option.some (Jvm.ClassFile.FieldType.object "java/util/List"))).before args0 about1 = true := code_word (m := ⟨2, 4⟩) (meth := k2m4) (c := k2c4) (by decide +kernel) rfl rfl rfl (by decide +kernel)
set_option maxRecDepth 65536 in
theorem w_c25 : (Jvm.Cond.code ({ cls := "java/util/ArrayList", name := "<init>", desc := "(Ljava/util/Collection;)V" } : Jvm.MethodName) jdk_38_method_3_code (3 : Nat) (Option.none : Option Jvm.ClassFile.FieldType)).before args0 about1 = true := code_word (m := ⟨34, 1⟩) (meth := k34m1) (c := k34c1) (by decide +kernel) rfl rfl rfl (by decide +kernel)
set_option maxRecDepth 65536 in
theorem w_c26 : (Jvm.Cond.code ({ cls := "java/util/AbstractList", name := "<init>", desc := "()V" } : Jvm.MethodName) jdk_39_method_1_code (1 : Nat) (Option.none : Option Jvm.ClassFile.FieldType)).before args0 about1 = true := code_word (m := ⟨32, 0⟩) (meth := k32m0) (c := k32c0) (by decide +kernel) rfl rfl rfl (by decide +kernel)
set_option maxRecDepth 65536 in
theorem w_c27 : (Jvm.Cond.code ({ cls := "java/util/HashSet", name := "toArray", desc := "()[Ljava/lang/Object;" } : Jvm.MethodName) jdk_93_method_17_code (1 : Nat) (Option.some (Jvm.ClassFile.FieldType.array (Jvm.ClassFile.FieldType.object "java/lang/Object")))).before args0 about1 = true := code_word (m := ⟨10, 3⟩) (meth := k10m3) (c := k10c3) (by decide +kernel) rfl rfl rfl (by decide +kernel)
set_option maxRecDepth 65536 in
theorem w_c28 : (Jvm.Cond.code ({ cls := "java/util/HashMap", name := "size", desc := "()I" } : Jvm.MethodName) jdk_69_method_10_code (1 : Nat) (Option.some Jvm.ClassFile.FieldType.int)).before args0 about1 = true := code_word (m := ⟨16, 3⟩) (meth := k16m3) (c := k16c3) (by decide +kernel) rfl rfl rfl (by decide +kernel)
set_option maxRecDepth 65536 in
theorem w_c29 : (Jvm.Cond.code ({ cls := "java/util/LinkedHashMap", name := "keysToArray", desc := "([Ljava/lang/Object;)[Ljava/lang/Object;" } : Jvm.MethodName) jdk_94_method_27_code (2 : Nat) (Option.some (Jvm.ClassFile.FieldType.array (Jvm.ClassFile.FieldType.object "java/lang/Object")))).before args0 about1 = true := code_word (m := ⟨18, 3⟩) (meth := k18m3) (c := k18c3) (by decide +kernel) rfl rfl rfl (by decide +kernel)
set_option maxRecDepth 65536 in
theorem w_c30 : (Jvm.Cond.code ({ cls := "java/util/LinkedHashMap", name := "keysToArray", desc := "([Ljava/lang/Object;Z)[Ljava/lang/Object;" } : Jvm.MethodName) jdk_94_method_28_code (6 : Nat) (Option.some (Jvm.ClassFile.FieldType.array (Jvm.ClassFile.FieldType.object "java/lang/Object")))).before args0 about1 = true := code_word (m := ⟨18, 4⟩) (meth := k18m4) (c := k18c4) (by decide +kernel) rfl rfl rfl (by decide +kernel)
set_option maxRecDepth 65536 in
theorem w_c31 : (Jvm.Cond.code ({ cls := "java/util/HashSet", name := "clear", desc := "()V" } : Jvm.MethodName) jdk_93_method_12_code (1 : Nat) (Option.none : Option Jvm.ClassFile.FieldType)).before args0 about1 = true := code_word (m := ⟨10, 2⟩) (meth := k10m2) (c := k10c2) (by decide +kernel) rfl rfl rfl (by decide +kernel)
set_option maxRecDepth 65536 in
theorem w_c32 : (Jvm.Cond.code ({ cls := "java/util/LinkedHashMap", name := "clear", desc := "()V" } : Jvm.MethodName) jdk_94_method_22_code (1 : Nat) (Option.none : Option Jvm.ClassFile.FieldType)).before args0 about1 = true := code_word (m := ⟨18, 2⟩) (meth := k18m2) (c := k18c2) (by decide +kernel) rfl rfl rfl (by decide +kernel)
set_option maxRecDepth 65536 in
theorem w_c33 : (Jvm.Cond.code ({ cls := "java/util/HashMap", name := "clear", desc := "()V" } : Jvm.MethodName) jdk_69_method_22_code (3 : Nat) (Option.none : Option Jvm.ClassFile.FieldType)).before args0 about1 = true := code_word (m := ⟨16, 4⟩) (meth := k16m4) (c := k16c4) (by decide +kernel) rfl rfl rfl (by decide +kernel)
set_option maxRecDepth 65536 in
theorem w_c34 : (Jvm.Cond.code ({ cls := "com/example/lively_broker/livelybroker/broker/Job", name := "answer", desc := "()Lcom/example/lively_broker/livelybroker/wire/Message;" } : Jvm.MethodName) prog_1_method_10_code (1 : Nat) (Option.some (Jvm.ClassFile.FieldType.object "com/example/lively_broker/livelybroker/wire/Message"))).before args0 about1 = true := code_word (m := ⟨2, 3⟩) (meth := k2m3) (c := k2c3) (by decide +kernel) rfl rfl rfl (by decide +kernel)
set_option maxRecDepth 65536 in
theorem w_c35 : (Jvm.Cond.code ({ cls := "com/example/lively_broker/livelybroker/wire/Message", name := "failed", desc := "([BLcom/example/lively_broker/livelybroker/wire/FailureReason;[B)Lcom/example/lively_broker/livelybroker/wire/Message;" } : Jvm.MethodName) prog_15_method_11_code (3 : Nat) (Option.some (Jvm.ClassFile.FieldType.object "com/example/lively_broker/livelybroker/wire/Message"))).before args0 about1 = true := code_word (m := ⟨25, 2⟩) (meth := k25m2) (c := k25c2) (by decide +kernel) rfl rfl rfl (by decide +kernel)
def codes1 : List Jvm.Cond := [Jvm.Cond.code x code maxLocals ret, Jvm.Cond.code ({ cls := "com/example/lively_broker/livelybroker/broker/Job", name := "<init>", desc := "([B[BJJ)V" } : Jvm.MethodName) prog_1_method_1_code (7 : Nat) (Option.none : Option Jvm.ClassFile.FieldType), Jvm.Cond.code ({ cls := "java/lang/Object", name := "<init>", desc := "()V" } : Jvm.MethodName) object_method_1_code (1 : Nat) (Option.none : Option Jvm.ClassFile.FieldType), Jvm.Cond.code ({ cls := "java/util/LinkedHashSet", name := "<init>", desc := "()V" } : Jvm.MethodName) jdk_2620_method_3_code (1 : Nat) (Option.none : Option Jvm.ClassFile.FieldType), Jvm.Cond.code ({ cls := "java/util/HashSet", name := "<init>", desc := "(IFZ)V" } : Jvm.MethodName) jdk_93_method_5_code (4 : Nat) (Option.none : Option Jvm.ClassFile.FieldType), Jvm.Cond.code ({ cls := "java/util/AbstractSet", name := "<init>", desc := "()V" } : Jvm.MethodName) jdk_91_method_1_code (1 : Nat) (Option.none : Option Jvm.ClassFile.FieldType), Jvm.Cond.code ({ cls := "java/util/AbstractCollection", name := "<init>", desc := "()V" } : Jvm.MethodName) jdk_22_method_1_code (1 : Nat) (Option.none : Option Jvm.ClassFile.FieldType), Jvm.Cond.code ({ cls := "java/util/LinkedHashMap", name := "<init>", desc := "(IF)V" } : Jvm.MethodName) jdk_94_method_14_code (3 : Nat) (Option.none : Option Jvm.ClassFile.FieldType), Jvm.Cond.code ({ cls := "java/util/HashMap", name := "<init>", desc := "(IF)V" } : Jvm.MethodName) jdk_69_method_5_code (3 : Nat) (Option.none : Option Jvm.ClassFile.FieldType), Jvm.Cond.code ({ cls := "java/util/AbstractMap", name := "<init>", desc := "()V" } : Jvm.MethodName) jdk_71_method_1_code (1 : Nat) (Option.none : Option Jvm.ClassFile.FieldType), Jvm.Cond.code ({ cls := "java/lang/Float", name := "isNaN", desc := "(F)Z" } : Jvm.MethodName) jdk_118_method_6_code (1 : Nat) (Option.some Jvm.ClassFile.FieldType.boolean), Jvm.Cond.code ({ cls := "java/util/HashMap", name := "tableSizeFor", desc := "(I)I" } : Jvm.MethodName) jdk_69_method_4_code (2 : Nat) (Option.some Jvm.ClassFile.FieldType.int), Jvm.Cond.code ({ cls := "java/lang/Integer", name := "numberOfLeadingZeros", desc := "(I)I" } : Jvm.MethodName) jdk_33_method_47_code (2 : Nat) (Option.some Jvm.ClassFile.FieldType.int), Jvm.Cond.code ({ cls := "com/example/lively_broker/livelybroker/broker/Job", name := "answered", desc := "()Z" } : Jvm.MethodName) prog_1_method_9_code (1 : Nat) (Option.some Jvm.ClassFile.FieldType.boolean), Jvm.Cond.code ({ cls := "com/example/lively_broker/livelybroker/broker/Job", name := "countLostWorker", desc := "()I" } : Jvm.MethodName) prog_1_method_15_code (1 : Nat) (Option.some Jvm.ClassFile.FieldType.int), Jvm.Cond.code ({ cls := "com/example/lively_broker/livelybroker/broker/Job", name := "markTakenBack", desc := "()V" } : Jvm.MethodName) prog_1_method_14_code (1 : Nat) (Option.none : Option Jvm.ClassFile.FieldType), Jvm.Cond.code ({ cls := "com/example/lively_broker/livelybroker/broker/Job", name := "restoreProgress", desc := "(ZI)V" } : Jvm.MethodName) prog_1_method_17_code (3 : Nat) (Option.none : Option Jvm.ClassFile.FieldType), Jvm.Cond.code ({ cls := "com/example/lively_broker/livelybroker/broker/Job", name := "markPlaced", desc := "()V" } : Jvm.MethodName) prog_1_method_8_code (1 : Nat) (Option.none : Option Jvm.ClassFile.FieldType), Jvm.Cond.code ({ cls := "com/example/lively_broker/livelybroker/wire/Message", name := "done", desc := "([B[B)Lcom/example/lively_broker/livelybroker/wire/Message;" } : Jvm.MethodName) prog_15_method_10_code (2 : Nat) (Option.some (Jvm.ClassFile.FieldType.object "com/example/lively_broker/livelybroker/wire/Message")), Jvm.Cond.code ({ cls := "java/util/Objects", name := "requireNonNull", desc := "(Ljava/lang/Object;Ljava/lang/String;)Ljava/lang/Object;" } : Jvm.MethodName) jdk_31_method_11_code (2 : Nat) (Option.some (Jvm.ClassFile.FieldType.object "java/lang/Object")), Jvm.Cond.code ({ cls := "com/example/lively_broker/livelybroker/wire/Message", name := "forJob", desc := "(Lcom/example/lively_broker/livelybroker/wire/Command;[BLcom/example/lively_broker/livelybroker/wire/FailureReason;[B)Lcom/example/lively_broker/livelybroker/wire/Message;" } : Jvm.MethodName) prog_15_method_12_code (4 : Nat) (Option.some (Jvm.ClassFile.FieldType.object "com/example/lively_broker/livelybroker/wire/Message")), Jvm.Cond.code ({ cls := "com/example/lively_broker/livelybroker/wire/Message", name := "checkJobId", desc := "([B)V" } : Jvm.MethodName) prog_15_method_13_code (1 : Nat) (Option.none : Option Jvm.ClassFile.FieldType), Jvm.Cond.code ({ cls := "com/example/lively_broker/livelybroker/wire/Message", name := "isJobId", desc := "([B)Z" } : Jvm.MethodName) prog_15_method_24_code (1 : Nat) (Option.some Jvm.ClassFile.FieldType.boolean), Jvm.Cond.code ({ cls := "com/example/lively_broker/livelybroker/wire/Message", name := "<init>", desc := "(Lcom/example/lively_broker/livelybroker/wire/Command;[BLcom/example/lively_broker/livelybroker/wire/WorkerState;Lcom/example/lively_broker/livelybroker/wire/FailureReason;[B)V" } : Jvm.MethodName) prog_15_method_1_code (6 : Nat) (Option.none : Option Jvm.ClassFile.FieldType), Jvm.Cond.code ({ cls := "com/example/lively_broker/livelybroker/broker/Job", name := "markAnswered", desc := "(Lcom/example/lively_broker/livelybroker/wire/Message;J)Ljava/util/List;" } : Jvm.MethodName) prog_1_method_12_code (5 : Nat) (Option.some (Jvm.ClassFile.FieldType.object "java/util/List")), Jvm.Cond.code ({ cls := "java/util/ArrayList", name := "<init>", desc := "(Ljava/util/Collection;)V" } : Jvm.MethodName) jdk_38_method_3_code (3 : Nat) (Option.none : Option Jvm.ClassFile.FieldType), Jvm.Cond.code ({ cls := "java/util/AbstractList", name := "<init>", desc := "()V" } : Jvm.MethodName) jdk_39_method_1_code (1 : Nat) (Option.none : Option Jvm.ClassFile.FieldType), Jvm.Cond.code ({ cls := "java/util/HashSet", name := "toArray", desc := "()[Ljava/lang/Object;" } : Jvm.MethodName) jdk_93_method_17_code (1 : Nat) (Option.some (Jvm.ClassFile.FieldType.array (Jvm.ClassFile.FieldType.object "java/lang/Object"))), Jvm.Cond.code ({ cls := "java/util/HashMap", name := "size", desc := "()I" } : Jvm.MethodName) jdk_69_method_10_code (1 : Nat) (Option.some Jvm.ClassFile.FieldType.int), Jvm.Cond.code ({ cls := "java/util/LinkedHashMap", name := "keysToArray", desc := "([Ljava/lang/Object;)[Ljava/lang/Object;" } : Jvm.MethodName) jdk_94_method_27_code (2 : Nat) (Option.some (Jvm.ClassFile.FieldType.array (Jvm.ClassFile.FieldType.object "java/lang/Object"))), Jvm.Cond.code ({ cls := "java/util/LinkedHashMap", name := "keysToArray", desc := "([Ljava/lang/Object;Z)[Ljava/lang/Object;" } : Jvm.MethodName) jdk_94_method_28_code (6 : Nat) (Option.some (Jvm.ClassFile.FieldType.array (Jvm.ClassFile.FieldType.object "java/lang/Object"))), Jvm.Cond.code ({ cls := "java/util/HashSet", name := "clear", desc := "()V" } : Jvm.MethodName) jdk_93_method_12_code (1 : Nat) (Option.none : Option Jvm.ClassFile.FieldType), Jvm.Cond.code ({ cls := "java/util/LinkedHashMap", name := "clear", desc := "()V" } : Jvm.MethodName) jdk_94_method_22_code (1 : Nat) (Option.none : Option Jvm.ClassFile.FieldType), Jvm.Cond.code ({ cls := "java/util/HashMap", name := "clear", desc := "()V" } : Jvm.MethodName) jdk_69_method_22_code (3 : Nat) (Option.none : Option Jvm.ClassFile.FieldType), Jvm.Cond.code ({ cls := "com/example/lively_broker/livelybroker/broker/Job", name := "answer", desc := "()Lcom/example/lively_broker/livelybroker/wire/Message;" } : Jvm.MethodName) prog_1_method_10_code (1 : Nat) (Option.some (Jvm.ClassFile.FieldType.object "com/example/lively_broker/livelybroker/wire/Message")), Jvm.Cond.code ({ cls := "com/example/lively_broker/livelybroker/wire/Message", name := "failed", desc := "([BLcom/example/lively_broker/livelybroker/wire/FailureReason;[B)Lcom/example/lively_broker/livelybroker/wire/Message;" } : Jvm.MethodName) prog_15_method_11_code (3 : Nat) (Option.some (Jvm.ClassFile.FieldType.object "com/example/lively_broker/livelybroker/wire/Message"))]
set_option maxRecDepth 65536 in
theorem codes_eq : words1.filter isCode = codes1 := rfl
theorem w_codes : ∀ c ∈ words1.filter isCode, c.before args0 about1 = true := by
  rw [codes_eq]
  intro c hc
  simp only [codes1, List.mem_cons, List.not_mem_nil, or_false] at hc
  rcases hc with rfl | rfl | rfl | rfl | rfl | rfl | rfl | rfl | rfl | rfl | rfl | rfl | rfl | rfl | rfl | rfl | rfl | rfl | rfl | rfl | rfl | rfl | rfl | rfl | rfl | rfl | rfl | rfl | rfl | rfl | rfl | rfl | rfl | rfl | rfl | rfl
  · exact w_c0
  · exact w_c1
  · exact w_c2
  · exact w_c3
  · exact w_c4
  · exact w_c5
  · exact w_c6
  · exact w_c7
  · exact w_c8
  · exact w_c9
  · exact w_c10
  · exact w_c11
  · exact w_c12
  · exact w_c13
  · exact w_c14
  · exact w_c15
  · exact w_c16
  · exact w_c17
  · exact w_c18
  · exact w_c19
  · exact w_c20
  · exact w_c21
  · exact w_c22
  · exact w_c23
  · exact w_c24
  · exact w_c25
  · exact w_c26
  · exact w_c27
  · exact w_c28
  · exact w_c29
  · exact w_c30
  · exact w_c31
  · exact w_c32
  · exact w_c33
  · exact w_c34
  · exact w_c35
set_option maxRecDepth 65536 in
theorem w_t1 : (words1.take 24).all (fun c => isCode c || c.before args0 about1) = true := by decide +kernel
set_option maxRecDepth 65536 in
theorem w_t2 : ((words1.drop 24).take 24).all (fun c => isCode c || c.before args0 about1) = true := by decide +kernel
set_option maxRecDepth 65536 in
theorem w_t3 : (((words1.drop 24).drop 24).take 24).all (fun c => isCode c || c.before args0 about1) = true := by decide +kernel
set_option maxRecDepth 65536 in
theorem w_t4 : ((((words1.drop 24).drop 24).drop 24).take 24).all (fun c => isCode c || c.before args0 about1) = true := by decide +kernel
set_option maxRecDepth 65536 in
theorem w_t5 : (((((words1.drop 24).drop 24).drop 24).drop 24).take 24).all (fun c => isCode c || c.before args0 about1) = true := by decide +kernel
set_option maxRecDepth 65536 in
theorem w_t6 : ((((((words1.drop 24).drop 24).drop 24).drop 24).drop 24).take 24).all (fun c => isCode c || c.before args0 about1) = true := by decide +kernel
set_option maxRecDepth 65536 in
theorem w_t7 : (((((((words1.drop 24).drop 24).drop 24).drop 24).drop 24).drop 24).take 24).all (fun c => isCode c || c.before args0 about1) = true := by decide +kernel
set_option maxRecDepth 65536 in
theorem w_t8 : ((((((((words1.drop 24).drop 24).drop 24).drop 24).drop 24).drop 24).drop 24).take 24).all (fun c => isCode c || c.before args0 about1) = true := by decide +kernel
set_option maxRecDepth 65536 in
theorem w_t9 : (((((((((words1.drop 24).drop 24).drop 24).drop 24).drop 24).drop 24).drop 24).drop 24).take 24).all (fun c => isCode c || c.before args0 about1) = true := by decide +kernel
set_option maxRecDepth 65536 in
theorem w_t10 : ((((((((((words1.drop 24).drop 24).drop 24).drop 24).drop 24).drop 24).drop 24).drop 24).drop 24).take 24).all (fun c => isCode c || c.before args0 about1) = true := by decide +kernel
set_option maxRecDepth 65536 in
theorem w_t11 : (((((((((((words1.drop 24).drop 24).drop 24).drop 24).drop 24).drop 24).drop 24).drop 24).drop 24).drop 24).take 24).all (fun c => isCode c || c.before args0 about1) = true := by decide +kernel
set_option maxRecDepth 65536 in
theorem w_t12 : (((((((((((words1.drop 24).drop 24).drop 24).drop 24).drop 24).drop 24).drop 24).drop 24).drop 24).drop 24).drop 24).all (fun c => isCode c || c.before args0 about1) = true := by decide +kernel
theorem w_tables : (allAtoms (Jvm.Cond.code x code maxLocals ret :: tables_1)).before args0 about1 = true := by
  rw [allAtoms_all]
  show words1.all (fun c => c.before args0 about1) = true
  refine all_split ?_ w_codes
  rw [← List.take_append_drop 24 words1, List.all_append, w_t1, ← List.take_append_drop 24 (words1.drop 24), List.all_append, w_t2, ← List.take_append_drop 24 ((words1.drop 24).drop 24), List.all_append, w_t3, ← List.take_append_drop 24 (((words1.drop 24).drop 24).drop 24), List.all_append, w_t4, ← List.take_append_drop 24 ((((words1.drop 24).drop 24).drop 24).drop 24), List.all_append, w_t5, ← List.take_append_drop 24 (((((words1.drop 24).drop 24).drop 24).drop 24).drop 24), List.all_append, w_t6, ← List.take_append_drop 24 ((((((words1.drop 24).drop 24).drop 24).drop 24).drop 24).drop 24), List.all_append, w_t7, ← List.take_append_drop 24 (((((((words1.drop 24).drop 24).drop 24).drop 24).drop 24).drop 24).drop 24), List.all_append, w_t8, ← List.take_append_drop 24 ((((((((words1.drop 24).drop 24).drop 24).drop 24).drop 24).drop 24).drop 24).drop 24), List.all_append, w_t9, ← List.take_append_drop 24 (((((((((words1.drop 24).drop 24).drop 24).drop 24).drop 24).drop 24).drop 24).drop 24).drop 24), List.all_append, w_t10, ← List.take_append_drop 24 ((((((((((words1.drop 24).drop 24).drop 24).drop 24).drop 24).drop 24).drop 24).drop 24).drop 24).drop 24), List.all_append, w_t11, w_t12]
  rfl
set_option maxRecDepth 65536 in
theorem w_rest : rest_1_c.before args0 about1 = true := by decide +kernel
set_option maxRecDepth 65536 in
theorem w_case : (Jvm.Cond.and given_1 narrow_1).before args0 about1 = true := by decide +kernel
theorem w_applies : (headSpec (Jvm.Cond.code x code maxLocals ret :: tables_1) room_1).applies x e0.platform about1 = true :=
  (Spec.applies_iff w_frames).mpr ⟨w_running, w_runnable, w_alone, w_named, w_hears, w_ripe, w_room, w_tables⟩
theorem atStart : AtStart classFile x code maxLocals ret World_1 tables_1 room_1 Calls_1 rest_1 Pre_1 launch0 p0 e0 about1 theMethod args0 below0 :=
  ⟨lists_1, trivial, launch0.admits_env _ _ _, launch0.least_env, fairChoices_fair.cas, fairChoices_fair.clock, w_frames, w_args, w_heap, w_applies, trivial, w_rest, w_case⟩
end start1
theorem witness_1 : WitnessClaimed_1 := ⟨start1.p0, start1.e0, start1.about1, start1.theMethod, start1.args0, start1.below0, start1.atStart⟩
end Jvm.Pilot.@@N@@
