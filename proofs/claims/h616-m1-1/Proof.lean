import JvmDerived
import JvmDerived.Pilot.@@N@@Statement
import JvmDerived.Pilot.@@N@@Code
set_option linter.unusedVariables false
set_option linter.unusedSimpArgs false
namespace Jvm.OwnS
open Sem ClassFile Op Lib Jvm.Stand Jvm.Free Jvm.LawKit Jvm.RoadKit
/-- x is a String of the chars cs, Latin-1; its bytes lie at t -/
def Str (Z : State) (h : Heap) (x t : Addr) (kb : ClassId) (cs : List Int32) : Prop :=
  Exa Z h x "java/lang/String" ∧ Fld Z h x "java/lang/String" "value" "[B" (.ref t) ∧ Fld Z h x "java/lang/String" "coder" "B" (.int 0) ∧ Arv Z h t kb .byte (Int32.ofNat cs.length) (cs.map fun c => Value.int (c.toInt8.toInt32)) (.int 0) ∧ (∀ c ∈ cs, ¬ c < 0 ∧ ¬ (255 : Int32) < c) ∧ cs.length ≤ 4000
theorem Str.keep {Z : State} {h h' : Heap} {x t : Addr} {kb : ClassId} {cs : List Int32} {ws : List Addr} (F : Str Z h x t kb cs) (K : Keep h h' ws) (q1 : x ∉ ws) (q2 : t ∉ ws) : Str Z h' x t kb cs :=
  ⟨F.1.keep K, F.2.1.keep K q1, F.2.2.1.keep K q1, F.2.2.2.1.keep K q2, F.2.2.2.2⟩
theorem Str.lt {Z : State} {h : Heap} {x t : Addr} {kb : ClassId} {cs : List Int32} (F : Str Z h x t kb cs) : x < h.size := F.1.lt
theorem Str.ltb {Z : State} {h : Heap} {x t : Addr} {kb : ClassId} {cs : List Int32} (F : Str Z h x t kb cs) : t < h.size := F.2.2.2.1.lt
end Jvm.OwnS
namespace Jvm.OwnN
open Sem ClassFile Op Lib Jvm.Stand Jvm.Free Jvm.LawKit Jvm.RoadKit
section Base
variable {p : Program} {l : Launch} {e : Env} {R : Room} {s : State} {m : MethodId} {args : Array Value} {below : List Frame} {meth : Method} {c : Code} {T : State} {h : Heap} {n0 k n : Nat} {Z : State} {a0 : Array Value}
/-- where a walk stands: the state, its heap, how many cells and slots have been made, and that nothing old has been written -/
def On (p : Program) (l : Launch) (e : Env) (R : Room) (s : State) (m : MethodId) (args : Array Value) (below : List Frame) (meth : Method) (c : Code) (n0 : Nat) (T : State) (h : Heap) (k n : Nat) : Prop :=
  ∃ locs, Stand p l e R s m args below meth c T locs k n ∧ T.heap = h ∧ Fr n0 locs
/-- what a walk aims at: from this frame the invocation ends, returns, and Q holds of what it returned and of the heap -/
def Aim (p : Program) (e : Env) (below : List Frame) (s : State) (CC SS n0 : Nat) (Q : Option Value → Heap → Prop) (T : State) (g : JFrame) : Prop :=
  ∃ s₂ o, Steps p.tables e below (T.setTop g) s₂ ∧ s₂.status = .running ∧ Ended s₂ below o ∧ ∃ v L, o = .returned v ∧ (Q v s₂.heap ∧ Fr n0 L) ∧ FrameEnd s o s₂ L CC SS
/-- a contract -/
def Con (l : Launch) (Z : State) (y : MethodName) (bytes : ByteArray) (maxL : Nat) (ret : Option FieldType) (rm : Room) (n0 : Nat) (as' : Array Value) (h0 : Heap) (Q : Option Value → Heap → Prop) : Prop :=
  ∀ ws, MetFree l y (head1 (Cond.code y bytes maxL ret :: ws) rm) (fun a U => a = as' ∧ Z.Warmed39 U.vm ∧ U.heap = h0) (fun _ _ _ _ _ => True) (fun _ U o U' => ∃ v L, o = .returned v ∧ (Q v U'.heap ∧ Fr n0 L) ∧ FrameEnd U o U' L rm.cells rm.slots)
/-- a callee that comes back -/
def Bk (l : Launch) (R : Room) (p : Program) (e : Env) (below : List Frame) (s : State) (sargs : Array Value) (y : MethodName) (len W : Nat) (as' : Array Value) (h : Heap) (dc ds n0 : Nat) (Q : Option Value → Heap → Prop) : Prop :=
  Back l R p e below s sargs y len W (fun A a => a = as' ∧ A.U.heap = h ∧ A.cells + dc ≤ R.cells ∧ A.slots + ds ≤ R.slots) (fun A _ v B => ∃ L, (Q v B.U.heap ∧ Fr n0 L) ∧ B.locs = A.locs ++ L ∧ B.cells = A.cells + dc ∧ B.slots = A.slots + ds)
variable {CC SS : Nat} {Q : Option Value → Heap → Prop}
theorem On.here (P : On p l e R s m args below meth c n0 T h k n) : At T m c below := by obtain ⟨_, X, -⟩ := P; exact X.here
theorem On.more {k' n' : Nat} (P : On p l e R s m args below meth c n0 T h k n) (hk : k ≤ k') (hn : n ≤ n') : On p l e R s m args below meth c n0 T h k' n' := by
  obtain ⟨L, X, r⟩ := P; exact ⟨L, X.more hk hn, r⟩
theorem Aim.of {T' : State} {g g' : JFrame} (st : ∀ t, Steps p.tables e below (T'.setTop g') t → Steps p.tables e below (T.setTop g) t) (a : Aim p e below s CC SS n0 Q T' g') : Aim p e below s CC SS n0 Q T g := by
  obtain ⟨s2, o, h1, r⟩ := a; exact ⟨s2, o, st _ h1, r⟩
theorem Aim.cast {g g' : JFrame} (q : g = g') (a : Aim p e below s CC SS n0 Q T g') : Aim p e below s CC SS n0 Q T g := q ▸ a
theorem Aim.imp {g : JFrame} {Q' : Option Value → Heap → Prop} (a : Aim p e below s CC SS n0 Q' T g) (q : ∀ v h, Q' v h → Q v h) : Aim p e below s CC SS n0 Q T g := by
  obtain ⟨s2, o, h1, h2, h3, v, L, h4, ⟨h5, h6⟩, h7⟩ := a; exact ⟨s2, o, h1, h2, h3, v, L, h4, ⟨q _ _ h5, h6⟩, h7⟩
theorem Con.imp {y : MethodName} {bytes : ByteArray} {maxL : Nat} {ret : Option FieldType} {rm : Room} {as' : Array Value} {Q' : Option Value → Heap → Prop} (a : Con l Z y bytes maxL ret rm n0 as' h Q') (q : ∀ v h, Q' v h → Q v h) : Con l Z y bytes maxL ret rm n0 as' h Q := by
  intro ws p e ha hc hk s m args below hf happ hP hK
  obtain ⟨nn, o, h1, h2, h3, v, L, h4, ⟨h5, h6⟩, h7⟩ := a ws p e ha hc hk s m args below hf happ hP hK
  exact ⟨nn, o, h1, h2, h3, v, L, h4, ⟨q _ _ h5, h6⟩, h7⟩
theorem Con.intro {y : MethodName} {bytes : ByteArray} {maxL : Nat} {ret : Option FieldType} {rm : Room} {as' : Array Value} (pl : plainFor y = true)
    (body : ∀ (p : Program) (e : Env) (s : State) (m : MethodId) (below : List Frame) (meth : Method) (c : Code) (s₁ : State), p.tables.exec = Jvm.exec → c.code = bytes → c.maxLocals = maxL → meth.sig.returnType = ret → meth.name = y.name → s.vm.findClass y.cls = some m.cls → meth.locks = false → Z.Warmed39 s.vm →
      On p l e rm s m as' below meth c n0 s₁ h 0 0 → Aim p e below s rm.cells rm.slots n0 Q s₁ (entryFrame m as' maxL)) : Con l Z y bytes maxL ret rm n0 as' h Q := by
  intro ws
  refine MetFree.of_bodySF pl hisR ?_
  intro p e s m args below meth c s₁ Bd hml0 hP hK
  obtain ⟨rfl, hZ, hh⟩ := hP
  have X0 : Stand p l e rm s m args below meth c s₁ [] 0 0 := Stand.of_body Bd
  obtain ⟨s2, o, h1, h2, h3, v, L, h4, h5, h6⟩ := body p e s m below meth c s₁ Bd.exec Bd.bytes hml0 Bd.returns (name_of_methodNamed Bd.named Bd.method).1 (findClass_of_methodNamed Bd.named) (BodyLoose.notSynchronized Bd) hZ ⟨[], X0, by rw [← hh, Bd.state]; rfl, Fr.nil n0⟩
  exact ⟨s2, o, h1, h2, h3, v, L, h4, h5, h6⟩
theorem Con.back {y : MethodName} {bytes : ByteArray} {maxL : Nat} {ret : Option FieldType} {rm : Room} {as' : Array Value} {len W : Nat} (hM : Con l Z y bytes maxL ret rm n0 as' h Q) (hZ : Z.Warmed39 s.vm) (wc : (Cond.code y bytes maxL ret).before a0 Z = true) (wz : (Cond.initialized y.cls).before a0 Z = true) (hf : rm.frames + 1 ≤ R.frames) (hl : W + (maxL + 11) + rm.locals ≤ R.locals) :
    Bk l R p e below s args y len W as' h rm.cells rm.slots n0 Q := backOf (Q := fun v h L => Q v h ∧ Fr n0 L) (hM []) hZ wc wz hf hl
theorem Bk.imp {y : MethodName} {len W dc ds : Nat} {as' : Array Value} {Q' : Option Value → Heap → Prop} (hK : Bk l R p e below s args y len W as' h dc ds n0 Q') (q : ∀ v h, Q' v h → Q v h) : Bk l R p e below s args y len W as' h dc ds n0 Q :=
  Back.mono hK (fun _ _ hp => hp) (fun _ _ _ _ _ ⟨L, ⟨h1, h2⟩, r⟩ => ⟨L, ⟨q _ _ h1, h2⟩, r⟩)
/-! the ways out -/
theorem Aim.retN {t : FieldType} {pc : Nat} {Ls : Array Slot} {z : Int32} {rest : List Value} (P : On p l e R s m args below meth c n0 T h k n) (hx : p.tables.exec = Jvm.exec) (hlk : meth.locks = false) (hret : meth.sig.returnType = some t) (ht : t = .boolean ∨ t = .byte ∨ t = .char ∨ t = .short) (hd : decode c.code pc = .ok (.ireturn, 1))
    (hk : k ≤ CC) (hn : n ≤ SS) (q : Q (some (.int (nar t z))) h) : Aim p e below s CC SS n0 Q T (mkF m pc Ls (.int z :: rest)) := by
  obtain ⟨L, X, eT, N⟩ := P
  obtain ⟨fs, hr, hrun, hended, hW, hsame⟩ := X.leave (v := some (.int (nar t z))) (fun h => by rw [hret] at h; cases h) hlk
  exact ⟨_, _, Jvm.RoadKit.retN X hx hret ht hd hr, hrun, hended, _, _, rfl, ⟨by show Q _ T.heap; rw [eT]; exact q, N⟩, ⟨_, rfl⟩, hW, hsame.mono hk hn⟩
theorem Aim.retW {t : FieldType} {i : Instr} {pc : Nat} {Ls : Array Slot} {w : Value} {rest : List Value} (P : On p l e R s m args below meth c n0 T h k n) (hx : p.tables.exec = Jvm.exec) (hlk : meth.locks = false) (hret : meth.sig.returnType = some t) (hn' : narrow t w = w)
    (hi : (i = .ireturn ∧ (t = .int ∨ t = .boolean ∨ t = .byte ∨ t = .char ∨ t = .short) ∧ ∃ z, w = .int z) ∨ (i = .lreturn ∧ t = .long ∧ ∃ z, w = .long z) ∨ (i = .dreturn ∧ t = .double ∧ ∃ z, w = .double z) ∨ (i = .freturn ∧ t = .float ∧ ∃ z, w = .float z) ∨ (i = .areturn ∧ t.isReference = true ∧ w.isRef = true)) (hd : decode c.code pc = .ok (i, 1))
    (hk : k ≤ CC) (hn : n ≤ SS) (q : Q (some w) h) : Aim p e below s CC SS n0 Q T (mkF m pc Ls (w :: rest)) := by
  obtain ⟨L, X, eT, N⟩ := P
  obtain ⟨fs, hr, hrun, hended, hW, hsame⟩ := X.leave (v := some w) (fun h => by rw [hret] at h; cases h) hlk
  exact ⟨_, _, Jvm.RoadKit.retOut X hx hret hn' hi hd hr, hrun, hended, _, _, rfl, ⟨by show Q _ T.heap; rw [eT]; exact q, N⟩, ⟨_, rfl⟩, hW, hsame.mono hk hn⟩
theorem Aim.retI {pc : Nat} {Ls : Array Slot} {z : Int32} {rest : List Value} (P : On p l e R s m args below meth c n0 T h k n) (hx : p.tables.exec = Jvm.exec) (hlk : meth.locks = false) (hret : meth.sig.returnType = some .int) (hd : decode c.code pc = .ok (.ireturn, 1))
    (hk : k ≤ CC) (hn : n ≤ SS) (q : Q (some (.int z)) h) : Aim p e below s CC SS n0 Q T (mkF m pc Ls (.int z :: rest)) := Aim.retW P hx hlk hret rfl (Or.inl ⟨rfl, Or.inl rfl, z, rfl⟩) hd hk hn q
theorem Aim.retJ {pc : Nat} {Ls : Array Slot} {z : Int64} {rest : List Value} (P : On p l e R s m args below meth c n0 T h k n) (hx : p.tables.exec = Jvm.exec) (hlk : meth.locks = false) (hret : meth.sig.returnType = some .long) (hd : decode c.code pc = .ok (.lreturn, 1))
    (hk : k ≤ CC) (hn : n ≤ SS) (q : Q (some (.long z)) h) : Aim p e below s CC SS n0 Q T (mkF m pc Ls (.long z :: rest)) := Aim.retW P hx hlk hret rfl (Or.inr (Or.inl ⟨rfl, rfl, z, rfl⟩)) hd hk hn q
theorem Aim.retA {t : FieldType} {pc : Nat} {Ls : Array Slot} {w : Value} {rest : List Value} (P : On p l e R s m args below meth c n0 T h k n) (hx : p.tables.exec = Jvm.exec) (hlk : meth.locks = false) (hret : meth.sig.returnType = some t) (ht : t.isReference = true) (hw : w.isRef = true) (hd : decode c.code pc = .ok (.areturn, 1))
    (hk : k ≤ CC) (hn : n ≤ SS) (q : Q (some w) h) : Aim p e below s CC SS n0 Q T (mkF m pc Ls (w :: rest)) := by
  have hn' : narrow t w = w := by cases t <;> cases w <;> first | rfl | (cases ht; done) | (cases hw; done)
  exact Aim.retW P hx hlk hret hn' (Or.inr (Or.inr (Or.inr (Or.inr ⟨rfl, ht, hw⟩)))) hd hk hn q
theorem Aim.retV {pc : Nat} {Ls : Array Slot} (P : On p l e R s m args below meth c n0 T h k n) (hx : p.tables.exec = Jvm.exec) (hlk : meth.locks = false) (hret : meth.sig.returnType = none) (hd : decode c.code pc = .ok (.return_, 1))
    (hk : k ≤ CC) (hn : n ≤ SS) (q : Q none h) : Aim p e below s CC SS n0 Q T (mkF m pc Ls []) := by
  obtain ⟨L, X, eT, N⟩ := P
  obtain ⟨fs, hr, hrun, hended, hW, hsame⟩ := X.leave (v := none) (fun _ => rfl) hlk
  exact ⟨_, _, X.returnOut hx hret hd hr, hrun, hended, _, _, rfl, ⟨by show Q _ T.heap; rw [eT]; exact q, N⟩, ⟨_, rfl⟩, hW, hsame.mono hk hn⟩
/-! steps that meet the heap -/
theorem Aim.newO {own C : String} {index nn pc : Nat} {Ls : Array Slot} {st : List Value} (P : On p l e R s m args below meth c n0 T h k n) (hx : p.tables.exec = Jvm.exec) (hZ : Z.Warmed39 s.vm) (hown : s.vm.findClass own = some m.cls) (w : (Cond.classLink own index C).before a0 Z = true) (wi : (Cond.instantiable C nn).before a0 Z = true) (wz : (Cond.initialized C).before a0 Z = true)
    (hd : decode c.code pc = .ok (.new index, 3)) (hc : k + 1 ≤ R.cells) (hl : n + nn ≤ R.slots)
    (cont : ∀ T' h' b, b = h.size → On p l e R s m args below meth c n0 T' h' (k + 1) (n + nn) → Ext h h' → Exa Z h' b C → (∀ {O nm d : String} {ty : FieldType}, Laid Z a0 C O nm d → parseFieldDescriptor d = some ty → Fld Z h' b O nm d (defaultValue ty)) → Unt h' b → Aim p e below s CC SS n0 Q T' (mkF m (pc + 3) Ls (.ref b :: st))) :
    Aim p e below s CC SS n0 Q T (mkF m pc Ls st) := by
  obtain ⟨L, X, eT, N⟩ := P
  obtain ⟨T', h', X', e', E, A, D, U, st'⟩ := RoadKit.newO X hx hZ hown w wi wz eT (g := mkF m pc Ls st) rfl hd hc hl
  exact Aim.of st' (cont T' h' _ rfl ⟨L, X', e', N⟩ E A D U)
theorem Aim.newP {aty : ArrayType} {pc : Nat} {Ls : Array Slot} {z : Int32} {st : List Value} (P : On p l e R s m args below meth c n0 T h k n) (hx : p.tables.exec = Jvm.exec) (hZ : Z.Warmed39 s.vm) (w : (Cond.arrayClass (newarray.typeOf aty)).before a0 Z = true) (hd : decode c.code pc = .ok (.newarray aty, 2))
    (hz : ¬ z < 0) {cap : Nat} (hcap : z.toNatClampNeg ≤ cap) (hb : cap * 8 ≤ 536870912) (hc : k + 1 ≤ R.cells) (hl : n + cap ≤ R.slots)
    (cont : ∀ T' h' kk b, b = h.size → On p l e R s m args below meth c n0 T' h' (k + 1) (n + cap) → Ext h h' → Arv Z h' b kk (newarray.typeOf aty) z [] (defaultValue (newarray.typeOf aty)) → Aim p e below s CC SS n0 Q T' (mkF m (pc + 2) Ls (.ref b :: st))) :
    Aim p e below s CC SS n0 Q T (mkF m pc Ls (.int z :: st)) := by
  obtain ⟨L, X, eT, N⟩ := P
  obtain ⟨T', h', kk, X', e', E, A, st'⟩ := RoadKit.newP X hx hZ w eT (g := mkF m pc Ls (.int z :: st)) rfl hd rfl hz hcap hb hc hl
  exact Aim.of st' (cont T' h' kk _ rfl ⟨L, X', e', N⟩ E (Arv.new A hz))
theorem Aim.newR {own C : String} {index pc : Nat} {Ls : Array Slot} {z : Int32} {st : List Value} (P : On p l e R s m args below meth c n0 T h k n) (hx : p.tables.exec = Jvm.exec) (hZ : Z.Warmed39 s.vm) (hown : s.vm.findClass own = some m.cls) (w1 : (Cond.classLink own index C).before a0 Z = true) (w2 : (Cond.arrayOver (.object C)).before a0 Z = true) (hd : decode c.code pc = .ok (.anewarray index, 3))
    (hz : ¬ z < 0) {cap : Nat} (hcap : z.toNatClampNeg ≤ cap) (hb : cap * 8 ≤ 536870912) (hc : k + 1 ≤ R.cells) (hl : n + cap ≤ R.slots)
    (cont : ∀ T' h' kk b, b = h.size → On p l e R s m args below meth c n0 T' h' (k + 1) (n + cap) → Ext h h' → Arv Z h' b kk (.object C) z [] .null → Ovr Z kk C → Aim p e below s CC SS n0 Q T' (mkF m (pc + 3) Ls (.ref b :: st))) :
    Aim p e below s CC SS n0 Q T (mkF m pc Ls (.int z :: st)) := by
  obtain ⟨L, X, eT, N⟩ := P
  obtain ⟨T', h', kk, X', e', E, A, O, st'⟩ := RoadKit.newR X hx hZ hown w1 w2 eT (g := mkF m pc Ls (.int z :: st)) rfl hd rfl hz hcap hb hc hl
  exact Aim.of st' (cont T' h' kk _ rfl ⟨L, X', e', N⟩ E (Arv.new A hz) O)
theorem Aim.getF {own R0 O f d host : String} {index pc : Nat} {Ls : Array Slot} {st : List Value} {a : Addr} {v : Value} (P : On p l e R s m args below meth c n0 T h k n) (hx : p.tables.exec = Jvm.exec) (hZ : Z.Warmed39 s.vm) (hown : s.vm.findClass own = some m.cls) (w : (Cond.fieldLink own index R0 f d).before a0 Z = true ∨ (Cond.fieldLinkNest own index R0 f d host).before a0 Z = true) (via : Via Z R0 O f d)
    (F : Fld Z h a O f d v) (hd : decode c.code pc = .ok (.getfield index, 3)) (cont : ∀ T', On p l e R s m args below meth c n0 T' h k n → Aim p e below s CC SS n0 Q T' (mkF m (pc + 3) Ls (v :: st))) :
    Aim p e below s CC SS n0 Q T (mkF m pc Ls (.ref a :: st)) := by
  obtain ⟨L, X, eT, N⟩ := P
  obtain ⟨T', X', e', st'⟩ := RoadKit.getF X hx hZ hown w via eT F (g := mkF m pc Ls (.ref a :: st)) rfl rfl hd
  exact Aim.of st' (cont T' ⟨L, X', e', N⟩)
theorem Aim.getS {own R0 O f d : String} {index pc : Nat} {Ls : Array Slot} {st : List Value} {v : Value} (P : On p l e R s m args below meth c n0 T h k n) (hx : p.tables.exec = Jvm.exec) (hZ : Z.Warmed39 s.vm) (hown : s.vm.findClass own = some m.cls) (w : (Cond.fieldLink own index R0 f d).before a0 Z = true) (via : Via Z R0 O f d)
    (F : Sta Z h O f d v) (hd : decode c.code pc = .ok (.getstatic index, 3)) (cont : ∀ T', On p l e R s m args below meth c n0 T' h k n → Aim p e below s CC SS n0 Q T' (mkF m (pc + 3) Ls (v :: st))) :
    Aim p e below s CC SS n0 Q T (mkF m pc Ls st) := by
  obtain ⟨L, X, eT, N⟩ := P
  obtain ⟨T', X', e', st'⟩ := RoadKit.getS (host := "") X hx hZ hown w via eT F (g := mkF m pc Ls st) rfl hd
  exact Aim.of st' (cont T' ⟨L, X', e', N⟩)
theorem Aim.getS2 {own R0 O f d host : String} {index pc : Nat} {Ls : Array Slot} {st : List Value} {v : Value} (P : On p l e R s m args below meth c n0 T h k n) (hx : p.tables.exec = Jvm.exec) (hZ : Z.Warmed39 s.vm) (hown : s.vm.findClass own = some m.cls) (w : (Cond.fieldLink own index R0 f d).before a0 Z = true ∨ (Cond.fieldLinkNest own index R0 f d host).before a0 Z = true) (via : Via Z R0 O f d)
    (F : Sta Z h O f d v) (hd : decode c.code pc = .ok (.getstatic index, 3)) (cont : ∀ T', On p l e R s m args below meth c n0 T' h k n → Aim p e below s CC SS n0 Q T' (mkF m (pc + 3) Ls (v :: st))) :
    Aim p e below s CC SS n0 Q T (mkF m pc Ls st) := by
  obtain ⟨L, X, eT, N⟩ := P
  obtain ⟨T', X', e', st'⟩ := RoadKit.getS2 X hx hZ hown w via eT F (g := mkF m pc Ls st) rfl hd
  exact Aim.of st' (cont T' ⟨L, X', e', N⟩)
theorem Aim.putF {own R0 O f d host C : String} {index kk pc : Nat} {ty : FieldType} {Ls : Array Slot} {st : List Value} {a : Addr} {v old : Value} (P : On p l e R s m args below meth c n0 T h k n) (hx : p.tables.exec = Jvm.exec) (hZ : Z.Warmed39 s.vm) (hown : s.vm.findClass own = some m.cls) (w : (Cond.fieldLink own index R0 f d).before a0 Z = true ∨ (Cond.fieldLinkNest own index R0 f d host).before a0 Z = true) (via : Via Z R0 O f d)
    (F : Fld Z h a O f d old) (E : Exa Z h a C) (hL : (Cond.lays C O f d).before a0 Z = true ∨ ((Cond.laysFinal C O f d).before a0 Z = true ∧ own = O ∧ meth.name = "<init>")) (wi : (Cond.instantiable C kk).before a0 Z = true)
    (hty : parseFieldDescriptor d = some ty) (hn : narrow ty v = v) (hf : fits ty v = true) (hd : decode c.code pc = .ok (.putfield index, 3)) (ga : n0 ≤ a)
    (cont : ∀ T' h', On p l e R s m args below meth c n0 T' h' k n → Wr h h' a (Jvm.RoadKit.slotOf Z O f d) v → Aim p e below s CC SS n0 Q T' (mkF m (pc + 3) Ls st)) :
    Aim p e below s CC SS n0 Q T (mkF m pc Ls (v :: .ref a :: st)) := by
  obtain ⟨L, X, eT, N⟩ := P
  obtain ⟨T', h', X', e', W, st'⟩ := RoadKit.putF X hx hZ hown w via eT F E hL wi hty hn hf (g := mkF m pc Ls (v :: .ref a :: st)) rfl rfl hd
  exact Aim.of st' (cont T' h' ⟨_, X', e', Fr.snoc X' N ga⟩ W)
theorem Aim.stC {pc : Nat} {Ls : Array Slot} {st : List Value} {a : Addr} {kk : ClassId} {j x z : Int32} {vs : List Value} {dv : Value} (P : On p l e R s m args below meth c n0 T h k n) (hx : p.tables.exec = Jvm.exec) (hZ : Z.Warmed39 s.vm) (V : Arv Z h a kk .char z vs dv) (hj : ¬ j < 0 ∧ j < z) (i : Nat) (hi : j.toNatClampNeg = i) (hv : i < vs.length)
    (hd : decode c.code pc = .ok (.castore, 1)) (ga : n0 ≤ a) (cont : ∀ T' h', On p l e R s m args below meth c n0 T' h' k n → Keep h h' [a] → Arv Z h' a kk .char z (vs.set i (.int (nar .char x))) dv → Aim p e below s CC SS n0 Q T' (mkF m (pc + 1) Ls st)) :
    Aim p e below s CC SS n0 Q T (mkF m pc Ls (.int x :: .int j :: .ref a :: st)) := by
  obtain ⟨L, X, eT, N⟩ := P
  obtain ⟨cl, A, q, S, M, H, U⟩ := V
  obtain ⟨T', h', X', e', W, st'⟩ := RoadKit.stC X hx hZ eT A (j := j) (inb_of S hj) (g := mkF m pc Ls (.int x :: .int j :: .ref a :: st)) rfl rfl hd
  exact Aim.of st' (cont T' h' ⟨_, X', e', Fr.snoc X' N ga⟩ (Keep.of_wr W) (Arv.set A q S M H U (fits_nar_char _) W i hi hv))
theorem Aim.stB {pc : Nat} {Ls : Array Slot} {st : List Value} {a : Addr} {kk : ClassId} {j x z : Int32} {vs : List Value} {dv : Value} (P : On p l e R s m args below meth c n0 T h k n) (hx : p.tables.exec = Jvm.exec) (hZ : Z.Warmed39 s.vm) (V : Arv Z h a kk .byte z vs dv) (hj : ¬ j < 0 ∧ j < z) (i : Nat) (hi : j.toNatClampNeg = i) (hv : i < vs.length)
    (hd : decode c.code pc = .ok (.bastore, 1)) (ga : n0 ≤ a) (cont : ∀ T' h', On p l e R s m args below meth c n0 T' h' k n → Keep h h' [a] → Arv Z h' a kk .byte z (vs.set i (.int x.toInt8.toInt32)) dv → Aim p e below s CC SS n0 Q T' (mkF m (pc + 1) Ls st)) :
    Aim p e below s CC SS n0 Q T (mkF m pc Ls (.int x :: .int j :: .ref a :: st)) := by
  obtain ⟨L, X, eT, N⟩ := P
  obtain ⟨cl, A, q, S, M, H, U⟩ := V
  obtain ⟨T', h', X', e', W, st'⟩ := RoadKit.stB X hx hZ eT A (j := j) (inb_of S hj) (g := mkF m pc Ls (.int x :: .int j :: .ref a :: st)) rfl rfl hd
  exact Aim.of st' (cont T' h' ⟨_, X', e', Fr.snoc X' N ga⟩ (Keep.of_wr W) (Arv.set A q S M H U (fits_nar_byte _) W i hi hv))
theorem Aim.alen {pc : Nat} {Ls : Array Slot} {st : List Value} {a : Addr} {kk : ClassId} {ty : FieldType} {z : Int32} {vs : List Value} {dv : Value} (P : On p l e R s m args below meth c n0 T h k n) (hx : p.tables.exec = Jvm.exec) (hZ : Z.Warmed39 s.vm) (V : Arv Z h a kk ty z vs dv)
    (hd : decode c.code pc = .ok (.arraylength, 1)) (cont : Aim p e below s CC SS n0 Q T (mkF m (pc + 1) Ls (.int z :: st))) : Aim p e below s CC SS n0 Q T (mkF m pc Ls (.ref a :: st)) := by
  obtain ⟨L, X, eT, N⟩ := P
  obtain ⟨cl, A, q, S, M, H, U⟩ := V
  refine Aim.of (fun t kt => X.arraylength hx (by rw [eT]; exact A.1) (State.isArrayOf_alike hZ.alike A.2.1) (g := mkF m pc Ls (.ref a :: st)) rfl rfl hd t ?_) cont
  rw [len_of S M]; exact kt
theorem Aim.ldC {pc : Nat} {Ls : Array Slot} {st : List Value} {a : Addr} {kk : ClassId} {j z : Int32} {vs : List Value} {dv v : Value} (P : On p l e R s m args below meth c n0 T h k n) (hx : p.tables.exec = Jvm.exec) (hZ : Z.Warmed39 s.vm) (V : Arv Z h a kk .char z vs dv) (hj : ¬ j < 0 ∧ j < z) (hv : vs.getD j.toNatClampNeg dv = v)
    (hd : decode c.code pc = .ok (.caload, 1)) (cont : Aim p e below s CC SS n0 Q T (mkF m (pc + 1) Ls (v :: st))) : Aim p e below s CC SS n0 Q T (mkF m pc Ls (.int j :: .ref a :: st)) := by
  obtain ⟨L, X, eT, N⟩ := P
  obtain ⟨cl, A, q, S, M, H, U⟩ := V
  exact Aim.of (fun t kt => X.caload hx (j := j) (v := v) (by rw [eT]; exact A.1) (State.isArrayOf_alike hZ.alike A.2.1) A.2.2 (inb_of S hj) (H.at (inb_of S hj) hv) (g := mkF m pc Ls (.int j :: .ref a :: st)) rfl rfl hd t kt) cont
theorem Aim.ldB {pc : Nat} {Ls : Array Slot} {st : List Value} {a : Addr} {kk : ClassId} {j z : Int32} {vs : List Value} {dv v : Value} (P : On p l e R s m args below meth c n0 T h k n) (hx : p.tables.exec = Jvm.exec) (hZ : Z.Warmed39 s.vm) (V : Arv Z h a kk .byte z vs dv) (hj : ¬ j < 0 ∧ j < z) (hv : vs.getD j.toNatClampNeg dv = v)
    (hd : decode c.code pc = .ok (.baload, 1)) (cont : Aim p e below s CC SS n0 Q T (mkF m (pc + 1) Ls (v :: st))) : Aim p e below s CC SS n0 Q T (mkF m pc Ls (.int j :: .ref a :: st)) := by
  obtain ⟨L, X, eT, N⟩ := P
  obtain ⟨cl, A, q, S, M, H, U⟩ := V
  exact Aim.of (fun t kt => X.baloadBytes hx (j := j) (v := v) (by rw [eT]; exact A.1) (State.isArrayOf_alike hZ.alike A.2.1) A.2.2 (inb_of S hj) (H.at (inb_of S hj) hv) (g := mkF m pc Ls (.int j :: .ref a :: st)) rfl rfl hd t kt) cont
theorem Aim.initO {own : String} {index pc mx : Nat} {Ls : Array Slot} {st : List Value} {a : Addr} (P : On p l e R s m args below meth c n0 T h k n) (hx : p.tables.exec = Jvm.exec) (hZ : Z.Warmed39 s.vm) (hml : c.maxLocals = mx) (hown : s.vm.findClass own = some m.cls) (w1 : (Cond.methodLink own index Lib.objectInit).before a0 Z = true) (w2 : (Cond.instanceMethod Lib.objectInit).before a0 Z = true)
    (w3 : (Cond.code Lib.objectInit ⟨#[0xb1]⟩ 1 none).before a0 Z = true) (hsz : Ls.size = mx) (hd : decode c.code pc = .ok (.invokespecial index, 3)) (hf : 1 ≤ R.frames) (hl : (st.map fun v => v.category).sum + 12 ≤ R.locals)
    (cont : ∀ T', On p l e R s m args below meth c n0 T' h k n → Aim p e below s CC SS n0 Q T' (mkF m (pc + 3) Ls st)) : Aim p e below s CC SS n0 Q T (mkF m pc Ls (.ref a :: st)) := by
  obtain ⟨L, X, eT, N⟩ := P
  obtain ⟨T', X', e', st'⟩ := RoadKit.initO X hx hZ hown w1 w2 w3 eT (g := mkF m pc Ls (.ref a :: st)) rfl (by rw [hml]; exact hsz) rfl hd hf (W := (st.map fun v => v.category).sum) (by show 2 * 0 + _ ≤ _; omega) hl
  exact Aim.of st' (cont T' ⟨L, X', e', N⟩)
theorem Aim.castY {own K : String} {index pc : Nat} {Ls : Array Slot} {st : List Value} {a : Addr} (P : On p l e R s m args below meth c n0 T h k n) (hx : p.tables.exec = Jvm.exec) (hZ : Z.Warmed39 s.vm) (hown : s.vm.findClass own = some m.cls) (w : (Cond.classLink own index K).before a0 Z = true) (F : Ins Z h a K true) (hd : decode c.code pc = .ok (.checkcast index, 3))
    (cont : ∀ T', On p l e R s m args below meth c n0 T' h k n → Aim p e below s CC SS n0 Q T' (mkF m (pc + 3) Ls (.ref a :: st))) : Aim p e below s CC SS n0 Q T (mkF m pc Ls (.ref a :: st)) := by
  obtain ⟨L, X, eT, N⟩ := P
  obtain ⟨T', X', e', st'⟩ := RoadKit.castY X hx hZ hown w eT F (g := mkF m pc Ls (.ref a :: st)) rfl rfl hd
  exact Aim.of st' (cont T' ⟨L, X', e', N⟩)
theorem Aim.instY {own K : String} {index pc : Nat} {Ls : Array Slot} {st : List Value} {a : Addr} (P : On p l e R s m args below meth c n0 T h k n) (hx : p.tables.exec = Jvm.exec) (hZ : Z.Warmed39 s.vm) (hown : s.vm.findClass own = some m.cls) (w : (Cond.classLink own index K).before a0 Z = true) (F : Ins Z h a K true) (hd : decode c.code pc = .ok (.instanceof index, 3))
    (cont : ∀ T', On p l e R s m args below meth c n0 T' h k n → Aim p e below s CC SS n0 Q T' (mkF m (pc + 3) Ls (.int 1 :: st))) : Aim p e below s CC SS n0 Q T (mkF m pc Ls (.ref a :: st)) := by
  obtain ⟨L, X, eT, N⟩ := P
  obtain ⟨T', X', e', st'⟩ := RoadKit.instY X hx hZ hown w eT F (g := mkF m pc Ls (.ref a :: st)) rfl rfl hd
  exact Aim.of st' (cont T' ⟨L, X', e', N⟩)
theorem Aim.ldcI {own : String} {index pc : Nat} {Ls : Array Slot} {st : List Value} {v : Int32} (P : On p l e R s m args below meth c n0 T h k n) (hx : p.tables.exec = Jvm.exec) (hZ : Z.Warmed39 s.vm) (hown : s.vm.findClass own = some m.cls) (w : (Cond.constant own index v).before a0 Z = true) (hd : decode c.code pc = .ok (.ldc index, 2))
    (cont : Aim p e below s CC SS n0 Q T (mkF m (pc + 2) Ls (.int v :: st))) : Aim p e below s CC SS n0 Q T (mkF m pc Ls st) := by
  obtain ⟨L, X, eT, N⟩ := P
  exact Aim.of (fun t kt => X.ldcInt hx hown (mvT hZ w) (g := mkF m pc Ls st) rfl hd t kt) cont
theorem own_irem {tb : Tables} [Ours tb] {e : Env} {below : List Frame} {T target : State} {m : MethodId} {c : Code} {g : JFrame} (h : At T m c below) (hx : tb.exec = Jvm.exec) (hg : g.method = m) {x y : Int32} {rest : List Value} (hd : decode c.code g.pc = .ok (.irem, 1)) (hs : g.stack = .int y :: .int x :: rest) (hy : y ≠ 0)
    (hr : Steps tb e below (T.setTop { g with pc := g.pc + 1, stack := .int (x % y) :: rest }) target) : Steps tb e below (T.setTop g) target := by
  have q : x - x / y * y = x % y := irem_eq_mod x y
  exact XS.irem h hx hg hd hs hy (by rw [q]; exact hr)
theorem own_lrem {tb : Tables} [Ours tb] {e : Env} {below : List Frame} {T target : State} {m : MethodId} {c : Code} {g : JFrame} (h : At T m c below) (hx : tb.exec = Jvm.exec) (hg : g.method = m) {x y : Int64} {rest : List Value} (hd : decode c.code g.pc = .ok (.lrem, 1)) (hs : g.stack = .long y :: .long x :: rest) (hy : y ≠ 0)
    (hr : Steps tb e below (T.setTop { g with pc := g.pc + 1, stack := .long (x % y) :: rest }) target) : Steps tb e below (T.setTop g) target := by
  have q : x - x / y * y = x % y := lrem_mod x y
  exact XS.lrem h hx hg hd hs hy (by rw [q]; exact hr)
theorem own_acmpEqT {x y : Value} (_ : x.isRef = true) (_ : y.isRef = true) (q : x = y) : XT.acmp .eq x y = true := by simp [XT.acmp, q]
theorem own_acmpNeT {x y : Value} (_ : x.isRef = true) (_ : y.isRef = true) (q : x = y) : XT.acmp .ne x y = false := by simp [XT.acmp, q]
theorem own_acmpEqF {x y : Value} (_ : x.isRef = true) (_ : y.isRef = true) (q : x ≠ y) : XT.acmp .eq x y = false := by simp [XT.acmp, q]
theorem own_acmpNeF {x y : Value} (_ : x.isRef = true) (_ : y.isRef = true) (q : x ≠ y) : XT.acmp .ne x y = true := by simp [XT.acmp, q]
theorem Aim.ldcwI {own : String} {index pc : Nat} {Ls : Array Slot} {st : List Value} {v : Int32} (P : On p l e R s m args below meth c n0 T h k n) (hx : p.tables.exec = Jvm.exec) (hZ : Z.Warmed39 s.vm) (hown : s.vm.findClass own = some m.cls) (w : (Cond.constant own index v).before a0 Z = true) (hd : decode c.code pc = .ok (.ldc_w index, 3))
    (cont : Aim p e below s CC SS n0 Q T (mkF m (pc + 3) Ls (.int v :: st))) : Aim p e below s CC SS n0 Q T (mkF m pc Ls st) := by
  obtain ⟨L, X, eT, N⟩ := P
  exact Aim.of (fun t kt => X.ldcwInt hx hown (mvT hZ w) (g := mkF m pc Ls st) rfl hd t kt) cont
theorem Aim.ldcJ {own : String} {index pc : Nat} {Ls : Array Slot} {st : List Value} {v : Int64} (P : On p l e R s m args below meth c n0 T h k n) (hx : p.tables.exec = Jvm.exec) (hZ : Z.Warmed39 s.vm) (hown : s.vm.findClass own = some m.cls) (w : (Cond.constantLong own index v).before a0 Z = true) (hd : decode c.code pc = .ok (.ldc2_w index, 3))
    (cont : Aim p e below s CC SS n0 Q T (mkF m (pc + 3) Ls (.long v :: st))) : Aim p e below s CC SS n0 Q T (mkF m pc Ls st) := by
  obtain ⟨L, X, eT, N⟩ := P
  exact Aim.of (fun t kt => X.ldc2Long hx hown (mvT hZ w) (g := mkF m pc Ls st) rfl hd t kt) cont
theorem Aim.ldcS {own text : String} {index pc : Nat} {Ls : Array Slot} {st : List Value} {a : Addr} (P : On p l e R s m args below meth c n0 T h k n) (hx : p.tables.exec = Jvm.exec) (hZ : Z.Warmed39 s.vm) (hown : s.vm.findClass own = some m.cls) (w : (Cond.stringRef own index text).before a0 Z = true) (hL : RoadKit.Lit Z own index a) (hd : decode c.code pc = .ok (.ldc index, 2))
    (cont : ∀ T', On p l e R s m args below meth c n0 T' h k n → Aim p e below s CC SS n0 Q T' (mkF m (pc + 2) Ls (.ref a :: st))) : Aim p e below s CC SS n0 Q T (mkF m pc Ls st) := by
  have P' := P
  obtain ⟨L, X, eT, N⟩ := P
  exact Aim.of (fun t kt => RoadKit.ldcR X hx hZ hown w hL (g := mkF m pc Ls st) rfl hd t kt) (cont T P')
theorem Aim.instNull {index pc : Nat} {Ls : Array Slot} {st : List Value} (P : On p l e R s m args below meth c n0 T h k n) (hx : p.tables.exec = Jvm.exec) (hd : decode c.code pc = .ok (.instanceof index, 3))
    (cont : Aim p e below s CC SS n0 Q T (mkF m (pc + 3) Ls (.int 0 :: st))) : Aim p e below s CC SS n0 Q T (mkF m pc Ls (.null :: st)) := by
  obtain ⟨L, X, eT, N⟩ := P
  exact Aim.of (fun t kt => X.instanceofNull hx (g := mkF m pc Ls (.null :: st)) rfl rfl hd t kt) cont
theorem Aim.castNull {index pc : Nat} {Ls : Array Slot} {st : List Value} (P : On p l e R s m args below meth c n0 T h k n) (hx : p.tables.exec = Jvm.exec) (hd : decode c.code pc = .ok (.checkcast index, 3))
    (cont : Aim p e below s CC SS n0 Q T (mkF m (pc + 3) Ls (.null :: st))) : Aim p e below s CC SS n0 Q T (mkF m pc Ls (.null :: st)) := by
  obtain ⟨L, X, eT, N⟩ := P
  exact Aim.of (fun t kt => X.checkcastNull hx (g := mkF m pc Ls (.null :: st)) rfl rfl hd t kt) cont
/-! calls -/
theorem Aim.callS {own : String} {index pc mx maxL dc ds W : Nat} {y : MethodName} {bytes : ByteArray} {ret : Option FieldType} {ps : List FieldType} {r : Option FieldType} {Ls : Array Slot} {argsL rest : List Value} {Q' : Option Value → Heap → Prop} (P : On p l e R s m args below meth c n0 T h k n) (hx : p.tables.exec = Jvm.exec) (hZ : Z.Warmed39 s.vm) (hml : c.maxLocals = mx) (hown : s.vm.findClass own = some m.cls)
    (w1 : (Cond.methodLink own index y).before a0 Z = true) (w2 : (Cond.static y).before a0 Z = true) (w3 : (Cond.initialized y.cls).before a0 Z = true) (w4 : (Cond.code y bytes maxL ret).before a0 Z = true) (hy : y.cls ≠ "java/lang/invoke/MethodHandle" ∧ y.cls ≠ "java/lang/invoke/VarHandle")
    (hK : Bk l R p e below s args y 3 W argsL.toArray h dc ds n0 Q') (hsz : Ls.size = mx) (hpd : parseMethodDescriptor y.desc = some ⟨ps, r⟩) (hln : argsL.length = ps.length) (hW : (rest.map fun v => v.category).sum ≤ W) (hd : decode c.code pc = .ok (.invokestatic index, 3)) (hc : k + dc ≤ R.cells) (hs : n + ds ≤ R.slots)
    (cont : ∀ T' h' v, On p l e R s m args below meth c n0 T' h' (k + dc) (n + ds) → Q' v h' → Aim p e below s CC SS n0 Q T' (mkF m (pc + 3) Ls (v.toList ++ rest))) : Aim p e below s CC SS n0 Q T (mkF m pc Ls (argsL.reverse ++ rest)) := by
  obtain ⟨L, X, eT, N⟩ := P
  obtain ⟨v, vm1, ⟨T', L', k', n'⟩, -, X', ⟨Lc, ⟨hq, N'⟩, l', y', z'⟩, st'⟩ := Jvm.LawKit.callS X hx (y := y) hown (mvT hZ w1) (mvT hZ w2) (mvT hZ w3) (mvT hZ w4) hy hK (g := mkF m pc Ls (argsL.reverse ++ rest)) rfl (by rw [hml]; exact hsz) (argsL := argsL) (rest := rest) (lenOf hpd hln) rfl (by show 2 * 0 + _ ≤ _; omega) hd (fun _ _ => ⟨rfl, eT, hc, hs⟩)
  dsimp only [Pt.U, Pt.locs, Pt.cells, Pt.slots] at X' l' y' z' st' hq
  subst l' y' z'
  exact Aim.of st' (cont T' _ v ⟨_, X', rfl, N.app N'⟩ hq)
theorem Aim.callC {own : String} {index pc mx maxL dc ds W : Nat} {y : MethodName} {bytes : ByteArray} {ps : List FieldType} {r : Option FieldType} {Ls : Array Slot} {a : Addr} {argsL rest : List Value} {Q' : Option Value → Heap → Prop} (P : On p l e R s m args below meth c n0 T h k n) (hx : p.tables.exec = Jvm.exec) (hZ : Z.Warmed39 s.vm) (hml : c.maxLocals = mx) (hown : s.vm.findClass own = some m.cls)
    (hy1 : y.name = "<init>") (w1 : (Cond.methodLink own index y).before a0 Z = true) (w2 : (Cond.instanceMethod y).before a0 Z = true) (w4 : (Cond.code y bytes maxL none).before a0 Z = true) (hy : y.cls ≠ "java/lang/invoke/MethodHandle" ∧ y.cls ≠ "java/lang/invoke/VarHandle")
    (hK : Bk l R p e below s args y 3 W (.ref a :: argsL).toArray h dc ds n0 Q') (hsz : Ls.size = mx) (hpd : parseMethodDescriptor y.desc = some ⟨ps, r⟩) (hln : argsL.length = ps.length) (hW : (rest.map fun v => v.category).sum ≤ W) (hd : decode c.code pc = .ok (.invokespecial index, 3)) (hc : k + dc ≤ R.cells) (hs : n + ds ≤ R.slots)
    (cont : ∀ T' h' v, On p l e R s m args below meth c n0 T' h' (k + dc) (n + ds) → Q' v h' → Aim p e below s CC SS n0 Q T' (mkF m (pc + 3) Ls (v.toList ++ rest))) : Aim p e below s CC SS n0 Q T (mkF m pc Ls (argsL.reverse ++ .ref a :: rest)) := by
  obtain ⟨L, X, eT, N⟩ := P
  obtain ⟨v, vm1, ⟨T', L', k', n'⟩, -, X', ⟨Lc, ⟨hq, N'⟩, l', y', z'⟩, st'⟩ := X.specialBack hx (y := y) hy1 hown (mvT hZ w1) (mvT hZ w2) (mvT hZ w4) hy hK (g := mkF m pc Ls (argsL.reverse ++ .ref a :: rest)) rfl (by rw [hml]; exact hsz) (Steps.refl _) (a := a) (argsL := argsL) (rest := rest) (lenOf hpd hln) rfl (by show 2 * 0 + _ ≤ _; omega) hd (fun _ _ => ⟨rfl, eT, hc, hs⟩)
  dsimp only [Pt.U, Pt.locs, Pt.cells, Pt.slots] at X' l' y' z' st' hq
  subst l' y' z'
  exact Aim.of (fun t kt => st'.trans kt) (cont T' _ v ⟨_, X', rfl, N.app N'⟩ hq)
theorem Aim.callV {own C : String} {index pc mx dc ds W : Nat} {y z : MethodName} {ps : List FieldType} {r : Option FieldType} {Ls : Array Slot} {a : Addr} {argsL rest : List Value} {Q' : Option Value → Heap → Prop} (P : On p l e R s m args below meth c n0 T h k n) (hx : p.tables.exec = Jvm.exec) (hZ : Z.Warmed39 s.vm) (hml : c.maxLocals = mx) (hown : s.vm.findClass own = some m.cls)
    (w1 : (Cond.methodLink own index y).before a0 Z = true) (w2 : (Cond.declares y).before a0 Z = true) (nf : NotFace s y) (w3 : (Cond.selects C y z).before a0 Z = true) (w4 : (Cond.instanceMethod z).before a0 Z = true) (hy : y.cls ≠ "java/lang/invoke/MethodHandle" ∧ y.cls ≠ "java/lang/invoke/VarHandle") (E : Exa Z h a C)
    (hK : Bk l R p e below s args z 3 W (.ref a :: argsL).toArray h dc ds n0 Q') (hsz : Ls.size = mx) (hpd : parseMethodDescriptor y.desc = some ⟨ps, r⟩) (hln : argsL.length = ps.length) (hW : (rest.map fun v => v.category).sum ≤ W) (hd : decode c.code pc = .ok (.invokevirtual index, 3)) (hc : k + dc ≤ R.cells) (hs : n + ds ≤ R.slots)
    (cont : ∀ T' h' v, On p l e R s m args below meth c n0 T' h' (k + dc) (n + ds) → Q' v h' → Aim p e below s CC SS n0 Q T' (mkF m (pc + 3) Ls (v.toList ++ rest))) : Aim p e below s CC SS n0 Q T (mkF m pc Ls (argsL.reverse ++ .ref a :: rest)) := by
  obtain ⟨L, X, eT, N⟩ := P
  obtain ⟨cq, kq, qa, qb, qc⟩ := isOf hZ eT E
  obtain ⟨v, vm1, ⟨T', L', k', n'⟩, -, X', ⟨Lc, ⟨hq, N'⟩, l', y', z'⟩, st'⟩ := X.virtualBack hx (y := y) (z := z) hown (mvT hZ w1) (mvT hZ w2) nf (mvT hZ w3) (mvT hZ w4) hy hK qa qc (g := mkF m pc Ls (argsL.reverse ++ .ref a :: rest)) rfl (by rw [hml]; exact hsz) (Steps.refl _) (argsL := argsL) (rest := rest) (lenOf hpd hln) rfl (by show 2 * 0 + _ ≤ _; omega) hd (fun _ _ => ⟨rfl, eT, hc, hs⟩)
  dsimp only [Pt.U, Pt.locs, Pt.cells, Pt.slots] at X' l' y' z' st' hq
  subst l' y' z'
  exact Aim.of (fun t kt => st'.trans kt) (cont T' _ v ⟨_, X', rfl, N.app N'⟩ hq)
theorem Aim.callI {own C : String} {index count pc mx dc ds W : Nat} {y z : MethodName} {ps : List FieldType} {r : Option FieldType} {Ls : Array Slot} {a : Addr} {argsL rest : List Value} {Q' : Option Value → Heap → Prop} (P : On p l e R s m args below meth c n0 T h k n) (hx : p.tables.exec = Jvm.exec) (hZ : Z.Warmed39 s.vm) (hml : c.maxLocals = mx) (hown : s.vm.findClass own = some m.cls)
    (w1 : (Cond.methodLink own index y).before a0 Z = true) (w2 : (Cond.declares y).before a0 Z = true) (w5 : (Cond.interfaceMethod y.cls y.cls y.name y.desc).before a0 Z = true) (w3 : (Cond.selects C y z).before a0 Z = true) (w4 : (Cond.instanceMethod z).before a0 Z = true) (w6 : (Cond.publicMethod z).before a0 Z = true) (w7 : (Cond.unhidden C y.name y.desc).before a0 Z = true) (w8 : (Cond.castable C y.cls).before a0 Z = true)
    (hy : y.cls ≠ "java/lang/invoke/MethodHandle" ∧ y.cls ≠ "java/lang/invoke/VarHandle") (E : Exa Z h a C)
    (hK : Bk l R p e below s args z 5 W (.ref a :: argsL).toArray h dc ds n0 Q') (hsz : Ls.size = mx) (hpd : parseMethodDescriptor y.desc = some ⟨ps, r⟩) (hln : argsL.length = ps.length) (hW : (rest.map fun v => v.category).sum ≤ W) (hd : decode c.code pc = .ok (.invokeinterface index count, 5)) (hc : k + dc ≤ R.cells) (hs : n + ds ≤ R.slots)
    (cont : ∀ T' h' v, On p l e R s m args below meth c n0 T' h' (k + dc) (n + ds) → Q' v h' → Aim p e below s CC SS n0 Q T' (mkF m (pc + 5) Ls (v.toList ++ rest))) : Aim p e below s CC SS n0 Q T (mkF m pc Ls (argsL.reverse ++ .ref a :: rest)) := by
  obtain ⟨L, X, eT, N⟩ := P
  obtain ⟨cq, kq, qa, qb, qc⟩ := isOf hZ eT E
  obtain ⟨v, vm1, ⟨T', L', k', n'⟩, -, X', ⟨Lc, ⟨hq, N'⟩, l', y', z'⟩, st'⟩ := X.interfaceBack hx (xi := y) (y := z) hown (mvT hZ w1) (mvT hZ w2) (mvT hZ w5 (by simp [Cond.onTables, Cond.keepsFace, Cond.keeps, Cond.steady, Cond.faceAtom, hy.1, hy.2])) (mvT hZ w3) (mvT hZ w4) (mvT hZ w6) (mvT hZ w7) (mvT hZ w8) hy hK qa qb qc (g := mkF m pc Ls (argsL.reverse ++ .ref a :: rest)) rfl (by rw [hml]; exact hsz) (Steps.refl _) (argsL := argsL) (rest := rest) (lenOf hpd hln) rfl (by show 2 * 0 + _ ≤ _; omega) hd (fun _ _ => ⟨rfl, eT, hc, hs⟩)
  dsimp only [Pt.U, Pt.locs, Pt.cells, Pt.slots] at X' l' y' z' st' hq
  subst l' y' z'
  exact Aim.of (fun t kt => st'.trans kt) (cont T' _ v ⟨_, X', rfl, N.app N'⟩ hq)
theorem Aim.cpA {own : String} {index pc mx : Nat} {Ls : Array Slot} {rest : List Value} {a b : Addr} {k1 k2 : ClassId} {ty ty' : FieldType} {z z' sp dp nn : Int32} {vs vd us : List Value} {dv dd : Value} (P : On p l e R s m args below meth c n0 T h k n) (hx : p.tables.exec = Jvm.exec) (hZ : Z.Warmed39 s.vm) (hml : c.maxLocals = mx) (hown : s.vm.findClass own = some m.cls)
    (w1 : (Cond.methodLink own index Jvm.Stand.acN).before a0 Z = true) (w2 : (Cond.native Jvm.Stand.acN).before a0 Z = true) (w3 : (Cond.static Jvm.Stand.acN).before a0 Z = true) (w4 : (Cond.initialized "java/lang/System").before a0 Z = true)
    (A : Arv Z h a k1 ty z vs dv) (B : Arv Z h b k2 ty' z' vd dd) (hty : (ty = ty' ∧ refKind ty = false) ∨ (refKind ty = true ∧ refKind ty' = true ∧ StoL Z h b us))
    (h1 : ¬ sp < 0) (h2 : ¬ dp < 0) (h3 : ¬ nn < 0) (h4 : sp.toNatClampNeg + nn.toNatClampNeg ≤ z.toNatClampNeg) (h5 : dp.toNatClampNeg + nn.toNatClampNeg ≤ z'.toNatClampNeg)
    (hus : us = (List.range nn.toNatClampNeg).map fun i => vs.getD (sp.toNatClampNeg + i) dv) (hl : dp.toNatClampNeg + nn.toNatClampNeg ≤ vd.length) (ge : n0 ≤ b) (hsz : Ls.size = mx) (hd : decode c.code pc = .ok (.invokestatic index, 3))
    (hf : 1 ≤ R.frames) (hlo : (rest.map fun v => v.category).sum + (nativeFrameWords "java/lang/System" "arraycopy" 5 + 11) ≤ R.locals)
    (cont : ∀ T' h', On p l e R s m args below meth c n0 T' h' k n → Keep h h' [b] → Arv Z h' b k2 ty' z' (vd.take dp.toNatClampNeg ++ us ++ vd.drop (dp.toNatClampNeg + nn.toNatClampNeg)) dd → Aim p e below s CC SS n0 Q T' (mkF m (pc + 3) Ls rest)) :
    Aim p e below s CC SS n0 Q T (mkF m pc Ls (.int nn :: .int dp :: .ref b :: .int sp :: .ref a :: rest)) := by
  obtain ⟨L, X, eT, N⟩ := P
  obtain ⟨T', h', L', X', e', N', K, V, st'⟩ := RoadKit.cpA X hx hZ hown w1 w2 w3 w4 eT A B hty h1 h2 h3 h4 h5 hus hl N ge (g := mkF m pc Ls (.int nn :: .int dp :: .ref b :: .int sp :: .ref a :: rest)) rfl (by rw [hml]; exact hsz) rfl hd hf (W := (rest.map fun v => v.category).sum) (by show 2 * 0 + _ ≤ _; omega) hlo
  exact Aim.of st' (cont T' h' ⟨L', X', e', N'⟩ K V)
theorem Aim.newPE {ad : String} {aty : ArrayType} {pc : Nat} {Ls : Array Slot} {z : Int32} {st : List Value} (P : On p l e R s m args below meth c n0 T h k n) (hx : p.tables.exec = Jvm.exec) (hZ : Z.Warmed39 s.vm) (w : (Cond.arrayClass (newarray.typeOf aty)).before a0 Z = true) (had : "[" ++ (newarray.typeOf aty).toString = ad) (hd : decode c.code pc = .ok (.newarray aty, 2))
    (hz : ¬ z < 0) {cap : Nat} (hcap : z.toNatClampNeg ≤ cap) (hb : cap * 8 ≤ 536870912) (hc : k + 1 ≤ R.cells) (hl : n + cap ≤ R.slots)
    (cont : ∀ T' h' kk b, b = h.size → On p l e R s m args below meth c n0 T' h' (k + 1) (n + cap) → Ext h h' → Arv Z h' b kk (newarray.typeOf aty) z [] (defaultValue (newarray.typeOf aty)) → Exa Z h' b ad → Aim p e below s CC SS n0 Q T' (mkF m (pc + 2) Ls (.ref b :: st))) :
    Aim p e below s CC SS n0 Q T (mkF m pc Ls (.int z :: st)) := by
  obtain ⟨L, X, eT, N⟩ := P
  obtain ⟨T', h', kk, X', e', E, A, E2, st'⟩ := RoadKit.newPE X hx hZ w eT (g := mkF m pc Ls (.int z :: st)) rfl hd rfl hz hcap hb hc hl had
  exact Aim.of st' (cont T' h' kk _ rfl ⟨L, X', e', N⟩ E (Arv.new A hz) E2)
theorem Aim.ldX {pc : Nat} {Ls : Array Slot} {st : List Value} {a : Addr} {cl : Cell} {ty : FieldType} {j : Int32} {v : Value} (P : On p l e R s m args below meth c n0 T h k n) (hx : p.tables.exec = Jvm.exec) (hZ : Z.Warmed39 s.vm) (A : Arr Z h a cl ty) (hty : ty.isReference = true) (hj : ¬ (j < 0 ∨ cl.slots.size ≤ j.toNatClampNeg)) (hv : cl.slots[j.toNatClampNeg]? = some v)
    (hd : decode c.code pc = .ok (.aaload, 1)) (cont : Aim p e below s CC SS n0 Q T (mkF m (pc + 1) Ls (v :: st))) : Aim p e below s CC SS n0 Q T (mkF m pc Ls (.int j :: .ref a :: st)) := by
  obtain ⟨L, X, eT, N⟩ := P
  exact Aim.of (fun t kt => X.aaload hx (j := j) (v := v) (by rw [eT]; exact A.1) (State.isArrayOf_alike (T := s) hZ.alike A.2.1) hty A.2.2 hj hv (g := mkF m pc Ls (.int j :: .ref a :: st)) rfl rfl hd t kt) cont
theorem Aim.ldR {pc : Nat} {Ls : Array Slot} {st : List Value} {a : Addr} {kk : ClassId} {ty : FieldType} {j z : Int32} {vs : List Value} {dv v : Value} (P : On p l e R s m args below meth c n0 T h k n) (hx : p.tables.exec = Jvm.exec) (hZ : Z.Warmed39 s.vm) (V : Arv Z h a kk ty z vs dv) (hty : ty.isReference = true) (hj : ¬ j < 0 ∧ j < z) (hv : vs.getD j.toNatClampNeg dv = v)
    (hd : decode c.code pc = .ok (.aaload, 1)) (cont : Aim p e below s CC SS n0 Q T (mkF m (pc + 1) Ls (v :: st))) : Aim p e below s CC SS n0 Q T (mkF m pc Ls (.int j :: .ref a :: st)) := by
  obtain ⟨L, X, eT, N⟩ := P
  obtain ⟨cl, A, q, S, M, H, U⟩ := V
  exact Aim.of (fun t kt => X.aaload hx (j := j) (v := v) (by rw [eT]; exact A.1) (State.isArrayOf_alike (T := s) hZ.alike A.2.1) hty A.2.2 (inb_of S hj) (H.at (inb_of S hj) hv) (g := mkF m pc Ls (.int j :: .ref a :: st)) rfl rfl hd t kt) cont
theorem Aim.stR {C : String} {pc : Nat} {Ls : Array Slot} {st : List Value} {a y : Addr} {kk : ClassId} {j z : Int32} {vs : List Value} {dv : Value} (P : On p l e R s m args below meth c n0 T h k n) (hx : p.tables.exec = Jvm.exec) (hZ : Z.Warmed39 s.vm) (V : Arv Z h a kk (.object C) z vs dv) (O : Ovr Z kk C) (I : Ins Z h y C true) (hj : ¬ j < 0 ∧ j < z) (i : Nat) (hi : j.toNatClampNeg = i) (hv : i < vs.length)
    (hd : decode c.code pc = .ok (.aastore, 1)) (ga : n0 ≤ a) (cont : ∀ T' h', On p l e R s m args below meth c n0 T' h' k n → Keep h h' [a] → Arv Z h' a kk (.object C) z (vs.set i (.ref y)) dv → Aim p e below s CC SS n0 Q T' (mkF m (pc + 1) Ls st)) :
    Aim p e below s CC SS n0 Q T (mkF m pc Ls (.ref y :: .int j :: .ref a :: st)) := by
  obtain ⟨L, X, eT, N⟩ := P
  obtain ⟨cl, A, q, S, M, H, U⟩ := V
  obtain ⟨T', h', X', e', W, st'⟩ := RoadKit.stR X hx hZ eT A (j := j) (v := .ref y) (inb_of S hj) rfl (Sto.ofV A q O I) (g := mkF m pc Ls (.ref y :: .int j :: .ref a :: st)) rfl rfl hd
  exact Aim.of st' (cont T' h' ⟨_, X', e', Fr.snoc X' N ga⟩ (Keep.of_wr W) (Arv.set A q S M H U rfl W i hi hv))
theorem Aim.instNo {own C K : String} {index pc : Nat} {Ls : Array Slot} {st : List Value} {a : Addr} (P : On p l e R s m args below meth c n0 T h k n) (hx : p.tables.exec = Jvm.exec) (hZ : Z.Warmed39 s.vm) (hown : s.vm.findClass own = some m.cls) (w : (Cond.classLink own index K).before a0 Z = true) (E : Exa Z h a C) (F : ∃ c t, Z.vm.findClass C = some c ∧ Z.vm.findClass K = some t ∧ Z.vm.assignable c t = false)
    (hd : decode c.code pc = .ok (.instanceof index, 3)) (cont : ∀ T', On p l e R s m args below meth c n0 T' h k n → Aim p e below s CC SS n0 Q T' (mkF m (pc + 3) Ls (.int 0 :: st))) : Aim p e below s CC SS n0 Q T (mkF m pc Ls (.ref a :: st)) := by
  obtain ⟨L, X, eT, N⟩ := P
  obtain ⟨T', X', e', st'⟩ := RoadKit.instNo X hx hZ hown w eT E F (g := mkF m pc Ls (.ref a :: st)) rfl rfl hd
  exact Aim.of st' (cont T' ⟨L, X', e', N⟩)
theorem no_cast {C S K : String} {nn : Nat} (w : (Cond.superclass C S).before a0 Z = true) (wo : (Cond.noSuperclass S).before a0 Z = true) (wi : (Cond.instantiable K nn).before a0 Z = true) (h1 : C ≠ K) (h2 : S ≠ K) : ∃ c t, Z.vm.findClass C = some c ∧ Z.vm.findClass K = some t ∧ Z.vm.assignable c t = false := by
  obtain ⟨t, kt, g1, g2, g3, g4, -⟩ := Cond.instantiable_spec wi
  obtain ⟨c, h0⟩ := found_sup w
  obtain ⟨q, k, kp, e1, e2, e3, e4, e5, -⟩ := Cond.superclass_spec h0 w
  obtain ⟨o, ko, f1, f2, f3, -⟩ := Cond.noSuperclass_spec wo
  cases e1.symm.trans f1
  have n1 := ids_ne h0 g1 h1
  have n2 := ids_ne f1 g1 h2
  have n3 : ∀ fuel, Z.vm.isSubclassAux fuel c t = false := fun fuel => by
    cases fuel with
    | zero => rfl
    | succ f => cases f with
      | zero => simp [Vm.isSubclassAux, n1, e2, e4]
      | succ f => simp [Vm.isSubclassAux, n1, n2, e2, e4, f2, f3]
  have g7 : kt.isInterface = false := by simp only [Bool.or_eq_false_iff] at g4; exact g4.1
  refine ⟨c, t, h0, g1, ?_⟩
  show Z.vm.assignableAux (255 + 1) c t = false
  simp [Vm.assignableAux, n1, e2, g2, e5, g3, g7, Vm.isSubclass, n3]
theorem own_lsw {tb : Tables} [Ours tb] {e : Env} {below : List Frame} {T target : State} {m : MethodId} {c : Code} {g : JFrame} (h : At T m c below) (hx : tb.exec = Jvm.exec) (hg : g.method = m) {dflt : Int} {pairs : Array (Int × Int)} {len : Nat} {o : Int} {pc0 pc' : Nat} (hpc : g.pc = pc0) (hd : decode c.code g.pc = .ok (.lookupswitch dflt pairs, len)) {i : Int32} {rest : List Value} (hs : g.stack = .int i :: rest)
    (hso : (pairs.toList.zip (pairs.toList.drop 1)).all (fun (a, next) => a.1 < next.1) = true) (hoff : lookupswitch.offset pairs.toList dflt i.toInt = o) (ho : 0 ≤ (pc0 : Int) + o) (hp : ((pc0 : Int) + o).toNat = pc')
    (hr : Steps tb e below (T.setTop { g with pc := pc', stack := rest }) target) : Steps tb e below (T.setTop g) target := by
  subst hg hpc hp
  jvm_step h [h.top, hx, hd, hs, hoff, ho, lookupswitch.wp_chain]
  exact ⟨by simpa using hso, hr⟩
theorem oln_ne {t x n0 n : Nat} (h : t < n0 ∨ n ≤ t) (g : n0 ≤ x) (lt : x < n) : t ≠ x := fun e => h.elim (fun r => Nat.lt_irrefl _ (Nat.lt_of_lt_of_le r (e ▸ g))) (fun r => Nat.lt_irrefl _ (Nat.lt_of_lt_of_le lt (e ▸ r)))
theorem nf_same {y y2 : MethodName} {r2 : MethodId} (h : y.cls = y2.cls) (hn : s.methodNamed? y2 = some r2) (N : NotFace s y2) : NotFace s y := fun r0 h0 => by
  obtain ⟨kr, h1, h2⟩ := N r2 hn
  have e1 := findClass_of_methodNamed h0
  have e2 := findClass_of_methodNamed hn
  rw [h] at e1
  have e3 : r0.cls = r2.cls := Option.some.inj (e1.symm.trans e2)
  exact ⟨kr, by rw [e3]; exact h1, h2⟩
theorem nf_sel {C : String} {y y2 : MethodName} (h : y.cls = y2.cls) (w : (Cond.selects C y2 y2).before args s = true) : NotFace s y := by
  obtain ⟨c2, r2, m2, q1, q2, q3, q4, kP, hkP, hkPi⟩ := Cond.selects_spec w
  exact nf_same h q3 (notFace_of_selects w)
theorem declares_of {y : MethodName} {bytes : ByteArray} {maxL : Nat} {ret : Option FieldType} (wi : (Cond.instanceMethod y).before args s = true) (wc : (Cond.code y bytes maxL ret).before args s = true) : (Cond.declares y).before args s = true := by
  obtain ⟨mk, methM, hnamed, hmethM, hstM, habM⟩ := Cond.instanceMethod_spec wi
  obtain ⟨m2, cM, q1, -, -, -, -, -, -, hsig⟩ := Cond.code_spec hnamed wc
  cases hmethM.symm.trans q1
  simp [Cond.before, Cond.holds, Cond.value, hnamed, hmethM, hstM, hsig]
theorem same_of {y : MethodName} (hy : y.cls ≠ "java/lang/invoke/MethodHandle" ∧ y.cls ≠ "java/lang/invoke/VarHandle") (wi : (Cond.instanceMethod y).before args s = true) (nf : NotFace s y) : (Cond.sameMethod y.cls y.cls y.name y.desc).before args s = true := by
  obtain ⟨mk, methM, hnamed, hmethM, hstM, habM⟩ := Cond.instanceMethod_spec wi
  obtain ⟨kr, h1, h2⟩ := nf mk hnamed
  have hc := findClass_of_methodNamed hnamed
  have hf := State.methodFound?_of_named hnamed hy
  have hnamed' : s.methodNamed? ⟨y.cls, y.name, y.desc⟩ = some mk := hnamed
  simp [Cond.before, Cond.holds, Cond.value, hc, hf, hnamed', h1, h2]
theorem arv_eq {a : Addr} {kk : ClassId} {ty : FieldType} {z : Int32} {vs vs' : List Value} {dv : Value} (F : Arv Z h a kk ty z vs dv) (q : vs = vs') : Arv Z h a kk ty z vs' dv := q ▸ F
theorem arv_len {a : Addr} {kk : ClassId} {ty : FieldType} {z z' : Int32} {vs : List Value} {dv : Value} (F : Arv Z h a kk ty z vs dv) (q : z = z') : Arv Z h a kk ty z' vs dv := q ▸ F
theorem Aim.callU {own K : String} {index pc mx maxL dc ds W : Nat} {y : MethodName} {bytes : ByteArray} {ret : Option FieldType} {ps : List FieldType} {r : Option FieldType} {Ls : Array Slot} {a : Addr} {argsL rest : List Value} {Q' : Option Value → Heap → Prop} (P : On p l e R s m args below meth c n0 T h k n) (hx : p.tables.exec = Jvm.exec) (hZ : Z.Warmed39 s.vm) (hml : c.maxLocals = mx) (hown : s.vm.findClass own = some m.cls)
    (w1 : (Cond.methodLink own index y).before a0 Z = true) (w2 : (Cond.sameMethod y.cls y.cls y.name y.desc).before a0 Z = true) (w3 : (Cond.instanceMethod y).before a0 Z = true) (w5 : (Cond.superclass own y.cls).before a0 Z = true) (hn : y.name ≠ "<init>") (w4 : (Cond.code y bytes maxL ret).before a0 Z = true) (E : Ins Z h a K true)
    (hK : Bk l R p e below s args y 3 W (.ref a :: argsL).toArray h dc ds n0 Q') (hsz : Ls.size = mx) (hpd : parseMethodDescriptor y.desc = some ⟨ps, r⟩) (hln : argsL.length = ps.length) (hW : (rest.map fun v => v.category).sum ≤ W) (hd : decode c.code pc = .ok (.invokespecial index, 3)) (hc : k + dc ≤ R.cells) (hs : n + ds ≤ R.slots)
    (cont : ∀ T' h' v, On p l e R s m args below meth c n0 T' h' (k + dc) (n + ds) → Q' v h' → Aim p e below s CC SS n0 Q T' (mkF m (pc + 3) Ls (v.toList ++ rest))) : Aim p e below s CC SS n0 Q T (mkF m pc Ls (argsL.reverse ++ .ref a :: rest)) := by
  obtain ⟨L, X, eT, N⟩ := P
  obtain ⟨v, vm1, ⟨T', L', k', n'⟩, -, X', ⟨Lc, ⟨hq, N'⟩, l', y', z'⟩, st'⟩ := RoadKit.superBack X hx hZ (y := y) hown w1 w2 w3 w5 hn hK eT E (g := mkF m pc Ls (argsL.reverse ++ .ref a :: rest)) rfl (by rw [hml]; exact hsz) w4 (argsL := argsL) (rest := rest) (lenOf hpd hln) rfl (by show 2 * 0 + _ ≤ _; omega) hd (fun _ _ => ⟨rfl, eT, hc, hs⟩)
  dsimp only [Pt.U, Pt.locs, Pt.cells, Pt.slots] at X' l' y' z' st' hq
  subst l' y' z'
  exact Aim.of (fun t kt => st'.trans kt) (cont T' _ v ⟨_, X', rfl, N.app N'⟩ hq)
end Base
end Jvm.OwnN
/- laws to paste: Road.backV (cut by pick.py; bodies as the Statement names them) -/
namespace Jvm.Pilot.@@N@@
namespace StrChars
open Jvm Sem ClassFile Op Lib Jvm.Stand Jvm.Free.XT Jvm.Free.ALB Jvm.Free.JM Jvm.Free
open Jvm.Lib.Cold (StaticIs)
/-- a char array whose places are chars -/
def Ch (a : Addr) (A : Cell) (U : State) : Prop := Arr .char a A U ∧ Typed .char A
theorem Ch.mv {a : Addr} {A : Cell} {U U' : State} (h : Ch a A U) (hal : U.vm.Alike U'.vm) (hh : U'.heap = U.heap) : Ch a A U' := ⟨h.1.mv hal hh, h.2⟩
theorem Ch.keep {a : Addr} {A : Cell} {U U' : State} (h : Ch a A U) (hal : U.vm.Alike U'.vm) (hk : U'.heap[a]? = some A) : Ch a A U' := ⟨h.1.keep hal hk, h.2⟩
/-- what place i of a char[]'s cell holds -/
def cv (A : Cell) (i : Nat) : Int32 := match A.slots[i]? with | some (.int x) => x | _ => 0
theorem Ch.get {a : Addr} {A : Cell} {U : State} (h : Ch a A U) {i : Nat} (hi : i < A.slots.size) : A.slots[i]? = some (.int (cv A i)) := by
  have e := Array.getElem?_eq_getElem hi
  have f := h.2 i _ e
  unfold cv; rw [e]
  generalize A.slots[i] = v at f
  cases v <;> simp [fits] at f ⊢
/-- the byte that i2b leaves of a char -/
def lo8 (x : Int32) : Int32 := x.toInt8.toInt32
theorem fits_lo8 (y : Int32) : fits .byte (.int (lo8 y)) = true := by
  have h1 := y.toInt8.le_toInt
  have h2 := y.toInt8.toInt_lt
  simp only [lo8, fits, Bool.and_eq_true, decide_eq_true_eq, Int32.le_iff_toInt_le, Int8.toInt_toInt32, show (-128 : Int32).toInt = -128 from by decide, show (127 : Int32).toInt = 127 from by decide]
  omega
/-- A' is A but that each place j of lo .. hi - 1 holds f j -/
def Laid (A A' : Cell) (lo hi : Nat) (f : Nat → Value) : Prop := A'.cls = A.cls ∧ A'.vm = A.vm ∧ A'.slots.size = A.slots.size ∧ ∀ i, A'.slots[i]? = if lo ≤ i ∧ i < hi then some (f i) else A.slots[i]?
theorem Laid.zero (A : Cell) (lo : Nat) (f : Nat → Value) : Laid A A lo (lo + 0) f := ⟨rfl, rfl, rfl, fun i => by rw [if_neg (by omega)]⟩
theorem Laid.step {A Ak : Cell} {lo k : Nat} {f : Nat → Value} {v : Value} (h : Laid A Ak lo k f) (hlo : lo ≤ k) (hk : k < Ak.slots.size) (hv : v = f k) : Laid A (Ak.setSlot k v) lo (k + 1) f := by
  refine ⟨h.1, h.2.1, by simpa [Cell.setSlot] using h.2.2.1, fun i => ?_⟩
  by_cases e : k = i
  · subst e; rw [Cell.slots_setSlot_self v hk, if_pos (by omega), hv]
  · rw [Cell.slots_setSlot_ne v e, h.2.2.2 i]
    by_cases q : lo ≤ i ∧ i < k
    · rw [if_pos q, if_pos (by omega)]
    · rw [if_neg q, if_neg (by omega)]
def U16 : String := "java/lang/StringUTF16"
namespace Cmp5
def yN : MethodName := ⟨"java/lang/StringUTF16", "compress", "([CI[BII)I"⟩
abbrev yB : ByteArray := jdk_52_method_21_code
theorem d0 : decode yB 0 = .ok (.iconst 0, 1) := by decide +kernel
theorem d1 : decode yB 1 = .ok (.istore 5, 2) := by decide +kernel
theorem d3 : decode yB 3 = .ok (.iload 5, 2) := by decide +kernel
theorem d5 : decode yB 5 = .ok (.iload 4, 2) := by decide +kernel
theorem d7 : decode yB 7 = .ok (.if_icmp (.ge) 37, 3) := by decide +kernel
theorem d10 : decode yB 10 = .ok (.aload_n 0, 1) := by decide +kernel
theorem d11 : decode yB 11 = .ok (.iload_n 1, 1) := by decide +kernel
theorem d12 : decode yB 12 = .ok (.caload, 1) := by decide +kernel
theorem d13 : decode yB 13 = .ok (.istore 6, 2) := by decide +kernel
theorem d15 : decode yB 15 = .ok (.iload 6, 2) := by decide +kernel
theorem d17 : decode yB 17 = .ok (.sipush 255, 3) := by decide +kernel
theorem d20 : decode yB 20 = .ok (.if_icmp (.le) 6, 3) := by decide +kernel
theorem d26 : decode yB 26 = .ok (.aload_n 2, 1) := by decide +kernel
theorem d27 : decode yB 27 = .ok (.iload_n 3, 1) := by decide +kernel
theorem d28 : decode yB 28 = .ok (.iload 6, 2) := by decide +kernel
theorem d30 : decode yB 30 = .ok (.i2b, 1) := by decide +kernel
theorem d31 : decode yB 31 = .ok (.bastore, 1) := by decide +kernel
theorem d32 : decode yB 32 = .ok (.iinc 1 1, 3) := by decide +kernel
theorem d35 : decode yB 35 = .ok (.iinc 3 1, 3) := by decide +kernel
theorem d38 : decode yB 38 = .ok (.iinc 5 1, 3) := by decide +kernel
theorem d41 : decode yB 41 = .ok (.goto (-38), 3) := by decide +kernel
theorem d44 : decode yB 44 = .ok (.iload 4, 2) := by decide +kernel
theorem d46 : decode yB 46 = .ok (.ireturn, 1) := by decide +kernel
def site : List Cond := []
def tab : Cond := tabOf yN yB 7 (some .int) site
def P (b : Addr) (A : Cell) (d : Addr) (B : Cell) (o q len : Nat) (args : Array Value) (s : State) : Prop := args = #[.ref b, .int (Int32.ofNat o), .ref d, .int (Int32.ofNat q), .int (Int32.ofNat len)] ∧ Ch b A s ∧ Arr .byte d B s ∧ b ≠ d ∧ o + len ≤ A.slots.size ∧ q + len ≤ B.slots.size ∧ ∀ i, i < len → ¬ 255 < cv A (o + i)
def E (b : Addr) (A : Cell) (d : Addr) (B : Cell) (o q len : Nat) (r : Option Value) (s u : State) : Prop := r = some (.int (Int32.ofNat len)) ∧ ∃ B', Put d B' s u ∧ Laid B B' q (q + len) (fun j => Value.int (lo8 (cv A (o + (j - q)))))
/-- no char of the range above 255: len; the places written hold each char's low byte -/
theorem law (l : Launch) (b : Addr) (A : Cell) (d : Addr) (B : Cell) (o q len : Nat) : Law l yN 5 5 0 0 yB 7 (some .int) site (P b A d B o q len) (E b A d B o q len) (copyLocs d q len) 0 0 := by
  refine Law.of_walk (plainFor_of_name (by decide +kernel)) (by decide +kernel) (by decide +kernel) (by decide) (fun _ _ h => by rw [h.1]; rfl) (fun _ U U' hal hh h => ⟨h.1, h.2.1.mv hal hh, h.2.2.1.mv hal hh, h.2.2.2⟩) (fun r U U' V V' h1 hal h2 h => ⟨h.1, h.2.elim fun B' q => ⟨B', q.1.mv h1 h2, q.2⟩⟩) ?_
  intro p e s m args below meth c s₁ X0 hexec hbytes hml hret hlk hnm hown hh0 W hP
  obtain ⟨rfl, hA, hB, hne, l1, l2, hp⟩ := hP
  have c1 : Steps p.tables e below (s₁.setTop (entryFrame m #[.ref b, .int (Int32.ofNat o), .ref d, .int (Int32.ofNat q), .int (Int32.ofNat len)] 7)) (s₁.setTop (mkF m 0 #[.val (.ref b), .val (.int (Int32.ofNat o)), .val (.ref d), .val (.int (Int32.ofNat q)), .val (.int (Int32.ofNat len)), .unset, .unset] [])) := entry rfl
  have hA0 := hA.1.mv X0.warmed.alike hh0
  have hB0 := hB.mv X0.warmed.alike hh0
  have a31 := hA.1.2.2.2
  have c2 : Steps p.tables e below (s₁.setTop (entryFrame m #[.ref b, .int (Int32.ofNat o), .ref d, .int (Int32.ofNat q), .int (Int32.ofNat len)] 7)) (s₁.setTop (mkF m 3 #[.val (.ref b), .val (.int (Int32.ofNat o)), .val (.ref d), .val (.int (Int32.ofNat q)), .val (.int (Int32.ofNat len)), .val (.int 0), .unset] [])) := c1.trans (by
    refine iconstV X0.here hexec rfl 0 (hb hbytes d0) (by decide) ?_
    refine XS.istore X0.here hexec rfl (hb hbytes d1) rfl rfl ?_
    exact Steps.refl _)
  have loop : ∀ (r i : Nat), i + r = len → ∀ (z : Slot), (z = .unset ∨ ∃ w, z = .val w ∧ w.category = 1) → ∀ (Tl : State) (Bk : Cell), Stand p l e { frames := 0, locals := 0, cells := 0, slots := 0 } s m #[.ref b, .int (Int32.ofNat o), .ref d, .int (Int32.ofNat q), .int (Int32.ofNat len)] below meth c Tl ([] ++ copyLocs d q i) 0 0 → Put d Bk s₁ Tl → Laid B Bk q (q + i) (fun j => Value.int (lo8 (cv A (o + (j - q))))) →
      Steps p.tables e below (s₁.setTop (entryFrame m #[.ref b, .int (Int32.ofNat o), .ref d, .int (Int32.ofNat q), .int (Int32.ofNat len)] 7)) (Tl.setTop (mkF m 3 #[.val (.ref b), .val (.int (Int32.ofNat (o + i))), .val (.ref d), .val (.int (Int32.ofNat (q + i))), .val (.int (Int32.ofNat len)), .val (.int (Int32.ofNat i)), z] [])) → ∃ (T' : State) (B' : Cell) (z' : Slot), Stand p l e { frames := 0, locals := 0, cells := 0, slots := 0 } s m #[.ref b, .int (Int32.ofNat o), .ref d, .int (Int32.ofNat q), .int (Int32.ofNat len)] below meth c T' ([] ++ copyLocs d q len) 0 0 ∧ Put d B' s₁ T' ∧ Laid B B' q (q + len) (fun j => Value.int (lo8 (cv A (o + (j - q))))) ∧
      Steps p.tables e below (s₁.setTop (entryFrame m #[.ref b, .int (Int32.ofNat o), .ref d, .int (Int32.ofNat q), .int (Int32.ofNat len)] 7)) (T'.setTop (mkF m 3 #[.val (.ref b), .val (.int (Int32.ofNat (o + len))), .val (.ref d), .val (.int (Int32.ofNat (q + len))), .val (.int (Int32.ofNat len)), .val (.int (Int32.ofNat len)), z'] [])) := by
    intro r
    induction r with
    | zero =>
      intro i hi z hz Tl Bk Xl pl fl cl
      have hil : i = len := by omega
      rw [hil] at Xl fl cl
      exact ⟨Tl, Bk, z, Xl, pl, fl, cl⟩
    | succ r ih =>
      intro i hi z hz Tl Bk Xl pl fl cl
      have all := X0.warmed.alike.symm.trans Xl.warmed.alike
      have hAl := hA0.keep all (pl.other hne hA0.1)
      have hBk := hB0.like all pl.1 fl.1 fl.2.1 fl.2.2.1
      have hlt : q + i < Bk.slots.size := by rw [fl.2.2.1]; omega
      have c3 : Steps p.tables e below (s₁.setTop (entryFrame m #[.ref b, .int (Int32.ofNat o), .ref d, .int (Int32.ofNat q), .int (Int32.ofNat len)] 7)) (Tl.setTop (mkF m 12 #[.val (.ref b), .val (.int (Int32.ofNat (o + i))), .val (.ref d), .val (.int (Int32.ofNat (q + i))), .val (.int (Int32.ofNat len)), .val (.int (Int32.ofNat i)), z] [.int (Int32.ofNat (o + i)), .ref b])) := cl.trans (by
        refine XS.iload Xl.here hexec rfl (hb hbytes d3) rfl ?_
        refine XS.iload Xl.here hexec rfl (hb hbytes d5) rfl ?_
        refine XS.icmpNo Xl.here hexec rfl (hb hbytes d7) rfl (ii_ge_f (lt32 (by omega) (by omega))) ?_
        refine XS.aloadN Xl.here hexec rfl (hb hbytes d10) rfl rfl ?_
        refine XS.iloadN Xl.here hexec rfl (hb hbytes d11) rfl ?_
        exact Steps.refl _)
      have c4 : Steps p.tables e below (s₁.setTop (entryFrame m #[.ref b, .int (Int32.ofNat o), .ref d, .int (Int32.ofNat q), .int (Int32.ofNat len)] 7)) (Tl.setTop (mkF m 13 #[.val (.ref b), .val (.int (Int32.ofNat (o + i))), .val (.ref d), .val (.int (Int32.ofNat (q + i))), .val (.int (Int32.ofNat len)), .val (.int (Int32.ofNat i)), z] [.int (cv A (o + i))])) := c3.trans (by
        refine Xl.aget hexec hAl rfl (hA.get (i := o + i) (by omega)) rfl rfl (hb hbytes d12) ?_
        exact Steps.refl _)
      have c5 : Steps p.tables e below (s₁.setTop (entryFrame m #[.ref b, .int (Int32.ofNat o), .ref d, .int (Int32.ofNat q), .int (Int32.ofNat len)] 7)) (Tl.setTop (mkF m 15 #[.val (.ref b), .val (.int (Int32.ofNat (o + i))), .val (.ref d), .val (.int (Int32.ofNat (q + i))), .val (.int (Int32.ofNat len)), .val (.int (Int32.ofNat i)), .val (.int (cv A (o + i)))] [])) := c4.trans (by
        refine XS.istoreS Xl.here hexec rfl (hb hbytes d13) rfl rfl hz ?_
        exact Steps.refl _)
      have c6 : Steps p.tables e below (s₁.setTop (entryFrame m #[.ref b, .int (Int32.ofNat o), .ref d, .int (Int32.ofNat q), .int (Int32.ofNat len)] 7)) (Tl.setTop (mkF m 31 #[.val (.ref b), .val (.int (Int32.ofNat (o + i))), .val (.ref d), .val (.int (Int32.ofNat (q + i))), .val (.int (Int32.ofNat len)), .val (.int (Int32.ofNat i)), .val (.int (cv A (o + i)))] [.int (lo8 (cv A (o + i))), .int (Int32.ofNat (q + i)), .ref d])) := c5.trans (by
        refine XS.iload Xl.here hexec rfl (hb hbytes d15) rfl ?_
        refine sipushV Xl.here hexec rfl 255 (hb hbytes d17) (by decide) ?_
        refine XS.icmpYes Xl.here hexec rfl (pc0 := 20) rfl (hb hbytes d20) rfl (ii_le_t (hp i (by omega))) (by decide) rfl ?_
        refine XS.aloadN Xl.here hexec rfl (hb hbytes d26) rfl rfl ?_
        refine XS.iloadN Xl.here hexec rfl (hb hbytes d27) rfl ?_
        refine XS.iload Xl.here hexec rfl (hb hbytes d28) rfl ?_
        refine i2b Xl.here hexec rfl (hb hbytes d30) rfl ?_
        exact Steps.refl _)
      obtain ⟨T7, X7, p7, st7⟩ := Xl.aput hexec hBk rfl hlt rfl (fits_lo8 (cv A (o + i))) (g := (mkF m 31 #[.val (.ref b), .val (.int (Int32.ofNat (o + i))), .val (.ref d), .val (.int (Int32.ofNat (q + i))), .val (.int (Int32.ofNat len)), .val (.int (Int32.ofNat i)), .val (.int (cv A (o + i)))] [.int (lo8 (cv A (o + i))), .int (Int32.ofNat (q + i)), .ref d])) rfl (rest := []) rfl (hb hbytes d31)
      have c8 : Steps p.tables e below (s₁.setTop (entryFrame m #[.ref b, .int (Int32.ofNat o), .ref d, .int (Int32.ofNat q), .int (Int32.ofNat len)] 7)) (T7.setTop (mkF m 32 #[.val (.ref b), .val (.int (Int32.ofNat (o + i))), .val (.ref d), .val (.int (Int32.ofNat (q + i))), .val (.int (Int32.ofNat len)), .val (.int (Int32.ofNat i)), .val (.int (cv A (o + i)))] [])) := c6.trans (st7 _ (Steps.refl _))
      have c9 : Steps p.tables e below (s₁.setTop (entryFrame m #[.ref b, .int (Int32.ofNat o), .ref d, .int (Int32.ofNat q), .int (Int32.ofNat len)] 7)) (T7.setTop (mkF m 3 #[.val (.ref b), .val (.int (Int32.ofNat (o + i) + 1)), .val (.ref d), .val (.int (Int32.ofNat (q + i) + 1)), .val (.int (Int32.ofNat len)), .val (.int (Int32.ofNat i + 1)), .val (.int (cv A (o + i)))] [])) := c8.trans (by
        refine iincV X7.here hexec rfl 1 (hb hbytes d32) (by decide) rfl rfl ?_
        refine iincV X7.here hexec rfl 1 (hb hbytes d35) (by decide) rfl rfl ?_
        refine iincV X7.here hexec rfl 1 (hb hbytes d38) (by decide) rfl rfl ?_
        refine XS.goto X7.here hexec rfl (pc0 := 41) rfl (hb hbytes d41) (by decide) rfl ?_
        exact Steps.refl _)
      have c10 : Steps p.tables e below (s₁.setTop (entryFrame m #[.ref b, .int (Int32.ofNat o), .ref d, .int (Int32.ofNat q), .int (Int32.ofNat len)] 7)) (T7.setTop (mkF m 3 #[.val (.ref b), .val (.int (Int32.ofNat (o + (i + 1)))), .val (.ref d), .val (.int (Int32.ofNat (q + (i + 1)))), .val (.int (Int32.ofNat len)), .val (.int (Int32.ofNat (i + 1))), .val (.int (cv A (o + i)))] [])) := by
        have := c9
        rw [succ32, succ32, succ32] at this
        exact this
      exact ih (i + 1) (by omega) _ (Or.inr ⟨_, rfl, rfl⟩) T7 _ (by rw [copyLocs_step, ← List.append_assoc]; exact X7) (pl.trans p7) (fl.step (by omega) hlt (by simp)) c10
  obtain ⟨T9, B9, z9, X9, p9, f9, g9⟩ := loop len 0 (by omega) .unset (Or.inl rfl) s₁ B (by simpa [copyLocs] using X0) ⟨hB0.1, fun _ _ => rfl, rfl⟩ (Laid.zero _ _ _) c2
  have c11 : Steps p.tables e below (s₁.setTop (entryFrame m #[.ref b, .int (Int32.ofNat o), .ref d, .int (Int32.ofNat q), .int (Int32.ofNat len)] 7)) (T9.setTop (mkF m 46 #[.val (.ref b), .val (.int (Int32.ofNat (o + len))), .val (.ref d), .val (.int (Int32.ofNat (q + len))), .val (.int (Int32.ofNat len)), .val (.int (Int32.ofNat len)), z9] [.int (Int32.ofNat len)])) := g9.trans (by
    refine XS.iload X9.here hexec rfl (hb hbytes d3) rfl ?_
    refine XS.iload X9.here hexec rfl (hb hbytes d5) rfl ?_
    refine XS.icmpYes X9.here hexec rfl (pc0 := 7) rfl (hb hbytes d7) rfl (ii_ge_t (nlt32 (by omega) (Nat.le_refl _))) (by decide) rfl ?_
    refine XS.iload X9.here hexec rfl (hb hbytes d44) rfl ?_
    exact Steps.refl _)
  exact ⟨T9, some (.int (Int32.ofNat len)), _, _, _, X9, by simp, rfl, rfl, (fun h => by cases h), ⟨rfl, B9, p9.from hh0, f9⟩, fun fs hl => c11.trans (X9.ireturnOut hexec hret rfl (Or.inl rfl) (hb hbytes d46) hl)⟩
end Cmp5
namespace Cmp3
def yN : MethodName := ⟨"java/lang/StringUTF16", "compress", "([CII)[B"⟩
abbrev yB : ByteArray := jdk_52_method_16_code
theorem d0 : decode yB 0 = .ok (.iload_n 2, 1) := by decide +kernel
theorem d1 : decode yB 1 = .ok (.newarray .byte, 2) := by decide +kernel
theorem d3 : decode yB 3 = .ok (.astore_n 3, 1) := by decide +kernel
theorem d4 : decode yB 4 = .ok (.aload_n 0, 1) := by decide +kernel
theorem d5 : decode yB 5 = .ok (.iload_n 1, 1) := by decide +kernel
theorem d6 : decode yB 6 = .ok (.aload_n 3, 1) := by decide +kernel
theorem d7 : decode yB 7 = .ok (.iconst 0, 1) := by decide +kernel
theorem d8 : decode yB 8 = .ok (.iload_n 2, 1) := by decide +kernel
theorem d9 : decode yB 9 = .ok (.invokestatic 115, 3) := by decide +kernel
theorem d12 : decode yB 12 = .ok (.istore 4, 2) := by decide +kernel
theorem d14 : decode yB 14 = .ok (.iload 4, 2) := by decide +kernel
theorem d16 : decode yB 16 = .ok (.iload_n 2, 1) := by decide +kernel
theorem d17 : decode yB 17 = .ok (.if_icmp (.eq) 40, 3) := by decide +kernel
theorem d57 : decode yB 57 = .ok (.aload_n 3, 1) := by decide +kernel
theorem d58 : decode yB 58 = .ok (.areturn, 1) := by decide +kernel
def site : List Cond := [.arrayClass .byte, Cmp5.tab] ++ staticW U16 115 Cmp5.yN
def tab : Cond := tabOf yN yB 6 (some (.array .byte)) site
def P (b : Addr) (A : Cell) (o len : Nat) (args : Array Value) (s : State) : Prop := args = #[.ref b, .int (Int32.ofNat o), .int (Int32.ofNat len)] ∧ Ch b A s ∧ o + len ≤ A.slots.size ∧ len ≤ 536870912 ∧ ∀ i, i < len → ¬ 255 < cv A (o + i)
def E (b : Addr) (A : Cell) (o len : Nat) (r : Option Value) (s u : State) : Prop := NewArr .byte "[B" len (fun j => .int (lo8 (cv A (o + j)))) r s u ∧ u.heap.size = s.heap.size + 1
/-- no char of the range above 255: a new byte[] of their low bytes -/
theorem law (l : Launch) (b : Addr) (A : Cell) (o len : Nat) : Law l yN 3 3 1 18 yB 6 (some (.array .byte)) site (P b A o len) (E b A o len) [] 1 len := by
  refine Law.of_walk (plainFor_of_name (by decide +kernel)) (by decide +kernel) (by decide +kernel) (by decide) (fun _ _ h => by rw [h.1]; rfl) (fun _ U U' hal hh h => ⟨h.1, h.2.1.mv hal hh, h.2.2⟩) (fun r U U' V V' h1 hal h2 h => ⟨NewArr.mv r U U' V V' h1 hal h2 h.1, by rw [h1, h2]; exact h.2⟩) ?_
  intro p e s m args below meth c s₁ X0 hexec hbytes hml hret hlk hnm hown hh0 W hP
  obtain ⟨rfl, hA, l1, l2, hp⟩ := hP
  have a31 := hA.1.2.2.2
  have c1 : Steps p.tables e below (s₁.setTop (entryFrame m #[.ref b, .int (Int32.ofNat o), .int (Int32.ofNat len)] 6)) (s₁.setTop (mkF m 0 #[.val (.ref b), .val (.int (Int32.ofNat o)), .val (.int (Int32.ofNat len)), .unset, .unset, .unset] [])) := entry rfl
  have c2 : Steps p.tables e below (s₁.setTop (entryFrame m #[.ref b, .int (Int32.ofNat o), .int (Int32.ofNat len)] 6)) (s₁.setTop (mkF m 1 #[.val (.ref b), .val (.int (Int32.ofNat o)), .val (.int (Int32.ofNat len)), .unset, .unset, .unset] [.int (Int32.ofNat len)])) := c1.trans (by
    refine XS.iloadN X0.here hexec rfl (hb hbytes d0) rfl ?_
    exact Steps.refl _)
  obtain ⟨T3, B3, X3, ba3, bs3, bv3, bh3, bf3, st3⟩ := X0.anew hexec (atype := .byte) (wk W (.arrayClass .byte)) rfl (by show len * 1 ≤ _; omega) (by omega) (g := (mkF m 1 #[.val (.ref b), .val (.int (Int32.ofNat o)), .val (.int (Int32.ofNat len)), .unset, .unset, .unset] [.int (Int32.ofNat len)])) rfl (hb hbytes d1) (rest := []) rfl (Nat.le_refl _) (by show 0 + len ≤ len; omega)
  rw [hh0] at ba3 st3
  have kp3 : XT.Kept s T3 := (XT.Kept.of_eq hh0).push bh3
  have hA3 := hA.keep X3.warmed.alike (kp3 _ _ hA.1.1)
  have hne : b ≠ s.heap.size := hA.1.ne
  have c4 : Steps p.tables e below (s₁.setTop (entryFrame m #[.ref b, .int (Int32.ofNat o), .int (Int32.ofNat len)] 6)) (T3.setTop (mkF m 3 #[.val (.ref b), .val (.int (Int32.ofNat o)), .val (.int (Int32.ofNat len)), .unset, .unset, .unset] [.ref s.heap.size])) := c2.trans (st3 _ (Steps.refl _))
  have c5 : Steps p.tables e below (s₁.setTop (entryFrame m #[.ref b, .int (Int32.ofNat o), .int (Int32.ofNat len)] 6)) (T3.setTop (mkF m 9 #[.val (.ref b), .val (.int (Int32.ofNat o)), .val (.int (Int32.ofNat len)), .val (.ref s.heap.size), .unset, .unset] [.int (Int32.ofNat len), .int 0, .ref s.heap.size, .int (Int32.ofNat o), .ref b])) := c4.trans (by
    refine XS.astoreN X3.here hexec rfl (hb hbytes d3) rfl rfl rfl ?_
    refine XS.aloadN X3.here hexec rfl (hb hbytes d4) rfl rfl ?_
    refine XS.iloadN X3.here hexec rfl (hb hbytes d5) rfl ?_
    refine XS.aloadN X3.here hexec rfl (hb hbytes d6) rfl rfl ?_
    refine iconstV X3.here hexec rfl 0 (hb hbytes d7) (by decide) ?_
    refine XS.iloadN X3.here hexec rfl (hb hbytes d8) rfl ?_
    exact Steps.refl _)
  obtain ⟨v6, T6, X6, E6, g6⟩ := X3.callS hexec (Cmp5.law l b A s.heap.size B3 o 0 len) hown (wks W (staticW U16 115 Cmp5.yN)) (wk W Cmp5.tab) (W := 0) (Nat.le_of_ble_eq_true rfl) (Nat.le_of_ble_eq_true rfl) (Nat.le_refl _) (by show 0 + len + 0 ≤ len; omega) (g := (mkF m 9 #[.val (.ref b), .val (.int (Int32.ofNat o)), .val (.int (Int32.ofNat len)), .val (.ref s.heap.size), .unset, .unset] [.int (Int32.ofNat len), .int (Int32.ofNat 0), .ref s.heap.size, .int (Int32.ofNat o), .ref b])) rfl (by rw [hml]; rfl) c5 (argsL := [.ref b, .int (Int32.ofNat o), .ref s.heap.size, .int (Int32.ofNat 0), .int (Int32.ofNat len)]) (rest := []) rfl rfl (by show 2 * 0 + 0 ≤ _; decide) (hb hbytes d9) (⟨rfl, hA3, ba3, hne, l1, by rw [bs3]; simp, hp⟩)
  obtain ⟨rfl, B6, p6, f6⟩ := E6
  have c7 : Steps p.tables e below (s₁.setTop (entryFrame m #[.ref b, .int (Int32.ofNat o), .int (Int32.ofNat len)] 6)) (T6.setTop (mkF m 12 #[.val (.ref b), .val (.int (Int32.ofNat o)), .val (.int (Int32.ofNat len)), .val (.ref s.heap.size), .unset, .unset] [.int (Int32.ofNat len)])) := g6
  have c8 : Steps p.tables e below (s₁.setTop (entryFrame m #[.ref b, .int (Int32.ofNat o), .int (Int32.ofNat len)] 6)) (T6.setTop (mkF m 58 #[.val (.ref b), .val (.int (Int32.ofNat o)), .val (.int (Int32.ofNat len)), .val (.ref s.heap.size), .val (.int (Int32.ofNat len)), .unset] [.ref s.heap.size])) := c7.trans (by
    refine XS.istore X6.here hexec rfl (hb hbytes d12) rfl rfl ?_
    refine XS.iload X6.here hexec rfl (hb hbytes d14) rfl ?_
    refine XS.iloadN X6.here hexec rfl (hb hbytes d16) rfl ?_
    refine XS.icmpYes X6.here hexec rfl (pc0 := 17) rfl (hb hbytes d17) rfl (ii_eq_t rfl) (by decide) rfl ?_
    refine XS.aloadN X6.here hexec rfl (hb hbytes d57) rfl rfl ?_
    exact Steps.refl _)
  have X8 := X6.wide (L' := []) (cells' := 1) (slots' := len) (fun x hx hlt => by
    simp only [List.nil_append, copyLocs, List.mem_map, List.mem_range] at hx
    obtain ⟨i, -, rfl⟩ := hx
    exact absurd hlt (Nat.lt_irrefl _)) (Nat.le_refl _) (by omega)
  exact ⟨T6, some (.ref s.heap.size), _, _, _, X8, rfl, rfl, rfl, (fun h => by cases h), ⟨⟨rfl, B6, ba3.like (X3.warmed.alike.symm.trans X6.warmed.alike) p6.1 f6.1 f6.2.1 f6.2.2.1, f6.2.1.trans bv3, by rw [X6.warmed.alike.findClass, f6.1]; exact bf3, by rw [f6.2.2.1, bs3]; simp, fun j hj => by rw [f6.2.2.2 j, if_pos (by omega)]; rfl, kp3.put p6 (Nat.le_refl _)⟩, by rw [p6.2.2, bh3, hh0]; simp⟩, fun fs hl => c8.trans (X8.areturnOut hexec rfl hret rfl (hb hbytes d58) hl)⟩
end Cmp3
namespace CodL
def yN : MethodName := ⟨"java/lang/StringUTF16", "coderFromArrayLen", "([BI)B"⟩
abbrev yB : ByteArray := jdk_52_method_15_code
theorem d0 : decode yB 0 = .ok (.iload_n 1, 1) := by decide +kernel
theorem d1 : decode yB 1 = .ok (.aload_n 0, 1) := by decide +kernel
theorem d2 : decode yB 2 = .ok (.arraylength, 1) := by decide +kernel
theorem d3 : decode yB 3 = .ok (.isub, 1) := by decide +kernel
theorem d4 : decode yB 4 = .ok (.bipush 31, 2) := by decide +kernel
theorem d6 : decode yB 6 = .ok (.iushr, 1) := by decide +kernel
theorem d7 : decode yB 7 = .ok (.i2b, 1) := by decide +kernel
theorem d8 : decode yB 8 = .ok (.ireturn, 1) := by decide +kernel
def site : List Cond := []
def tab : Cond := tabOf yN yB 2 (some .byte) site
def P (d : Addr) (B : Cell) (args : Array Value) (s : State) : Prop := args = #[.ref d, .int (Int32.ofNat B.slots.size)] ∧ Arr .byte d B s
def E (r : Option Value) (s u : State) : Prop := XT.PureE (some (.int 0)) r s u
/-- an array as long as the number of chars: LATIN1 -/
theorem law (l : Launch) (d : Addr) (B : Cell) : Law l yN 2 2 0 0 yB 2 (some .byte) site (P d B) E [] 0 0 := by
  refine Law.of_walk (plainFor_of_name (by decide +kernel)) (by decide +kernel) (by decide +kernel) (by decide) (fun _ _ h => by rw [h.1]; rfl) (fun _ U U' hal hh h => ⟨h.1, h.2.mv hal hh⟩) (fun r U U' V V' h1 hal h2 h => XT.PureE.mv r U U' V V' h1 hal h2 h) ?_
  intro p e s m args below meth c s₁ X0 hexec hbytes hml hret hlk hnm hown hh0 W hP
  obtain ⟨rfl, hB⟩ := hP
  have hB0 := hB.mv X0.warmed.alike hh0
  have c1 : Steps p.tables e below (s₁.setTop (entryFrame m #[.ref d, .int (Int32.ofNat B.slots.size)] 2)) (s₁.setTop (mkF m 0 #[.val (.ref d), .val (.int (Int32.ofNat B.slots.size))] [])) := entry rfl
  have c2 : Steps p.tables e below (s₁.setTop (entryFrame m #[.ref d, .int (Int32.ofNat B.slots.size)] 2)) (s₁.setTop (mkF m 2 #[.val (.ref d), .val (.int (Int32.ofNat B.slots.size))] [.ref d, .int (Int32.ofNat B.slots.size)])) := c1.trans (by
    refine XS.iloadN X0.here hexec rfl (hb hbytes d0) rfl ?_
    refine XS.aloadN X0.here hexec rfl (hb hbytes d1) rfl rfl ?_
    exact Steps.refl _)
  have c3 : Steps p.tables e below (s₁.setTop (entryFrame m #[.ref d, .int (Int32.ofNat B.slots.size)] 2)) (s₁.setTop (mkF m 8 #[.val (.ref d), .val (.int (Int32.ofNat B.slots.size))] [.int (lo8 (ushr (Int32.ofNat B.slots.size - Int32.ofNat B.slots.size) 31))])) := c2.trans (by
    refine X0.alen hexec hB0 rfl rfl (hb hbytes d2) ?_
    refine XS.isub X0.here hexec rfl (hb hbytes d3) rfl ?_
    refine bipushV X0.here hexec rfl 31 (hb hbytes d4) (by decide) ?_
    refine iushr X0.here hexec rfl (hb hbytes d6) rfl ?_
    refine i2b X0.here hexec rfl (hb hbytes d7) rfl ?_
    exact Steps.refl _)
  have e0 : lo8 (ushr (Int32.ofNat B.slots.size - Int32.ofNat B.slots.size) 31) = 0 := by rw [Int32.sub_self]; decide
  rw [e0] at c3
  exact ⟨s₁, some (.int 0), _, _, _, X0, rfl, rfl, rfl, (fun h => by cases h), ⟨rfl, hh0⟩, fun fs hl => c3.trans (X0.ireturnOut hexec hret rfl (Or.inr (Or.inr (Or.inl rfl))) (hb hbytes d8) hl)⟩
end CodL
/-- the String at a is Latin-1 over a new byte[] (the heap's one new cell): the low bytes of the len chars of A from o on; every cell but a is kept -/
def Got (a : Addr) (D : Cell) (fV fC : Field) (A : Cell) (o len : Nat) (r : Option Value) (s u : State) : Prop := r = none ∧ ∃ D' V : Cell, Blank "java/lang/String" a D' u ∧ Same D D' [fV.slot, fC.slot] ∧ D'.slots[fV.slot]? = some (.ref s.heap.size) ∧ D'.slots[fC.slot]? = some (.int 0) ∧ Arr .byte s.heap.size V u ∧ V.vm = .none ∧ u.vm.findClass "[B" = some V.cls ∧ V.slots.size = len ∧ (∀ j, j < len → V.slots[j]? = some (.int (lo8 (cv A (o + j))))) ∧ (∀ (y : Addr) (c : Cell), y ≠ a → s.heap[y]? = some c → u.heap[y]? = some c) ∧ u.heap.size = s.heap.size + 1
theorem Got.mv {a : Addr} {D A : Cell} {fV fC : Field} {o len : Nat} : ∀ r (U U' V V' : State), U'.heap = U.heap → V.vm.Alike V'.vm → V'.heap = V.heap → Got a D fV fC A o len r U V → Got a D fV fC A o len r U' V' :=
  fun r U U' V V' h1 hal h2 ⟨e0, D', X, a1, a2, a3, a4, a5, a6, a7, a8, a9, a10, a11⟩ => ⟨e0, D', X, a1.mv hal h2, a2, by rw [h1]; exact a3, a4, by rw [h1]; exact a5.mv hal h2, a6, by rw [hal.findClass]; exact a7, a8, a9, by rw [h1, h2]; exact a10, by rw [h1, h2]; exact a11⟩
namespace New4
def yN : MethodName := ⟨"java/lang/String", "<init>", "([CIILjava/lang/Void;)V"⟩
abbrev yB : ByteArray := jdk_42_method_149_code
theorem d0 : decode yB 0 = .ok (.aload_n 0, 1) := by decide +kernel
theorem d1 : decode yB 1 = .ok (.invokespecial 1, 3) := by decide +kernel
theorem d4 : decode yB 4 = .ok (.iload_n 3, 1) := by decide +kernel
theorem d5 : decode yB 5 = .ok (.ifCond (.ne) 22, 3) := by decide +kernel
theorem d27 : decode yB 27 = .ok (.getstatic 38, 3) := by decide +kernel
theorem d30 : decode yB 30 = .ok (.ifCond (.eq) 28, 3) := by decide +kernel
theorem d33 : decode yB 33 = .ok (.aload_n 1, 1) := by decide +kernel
theorem d34 : decode yB 34 = .ok (.iload_n 2, 1) := by decide +kernel
theorem d35 : decode yB 35 = .ok (.iload_n 3, 1) := by decide +kernel
theorem d36 : decode yB 36 = .ok (.invokestatic 177, 3) := by decide +kernel
theorem d39 : decode yB 39 = .ok (.astore 5, 2) := by decide +kernel
theorem d41 : decode yB 41 = .ok (.aload_n 0, 1) := by decide +kernel
theorem d42 : decode yB 42 = .ok (.aload 5, 2) := by decide +kernel
theorem d44 : decode yB 44 = .ok (.iload_n 3, 1) := by decide +kernel
theorem d45 : decode yB 45 = .ok (.invokestatic 47, 3) := by decide +kernel
theorem d48 : decode yB 48 = .ok (.putfield 15, 3) := by decide +kernel
theorem d51 : decode yB 51 = .ok (.aload_n 0, 1) := by decide +kernel
theorem d52 : decode yB 52 = .ok (.aload 5, 2) := by decide +kernel
theorem d54 : decode yB 54 = .ok (.putfield 9, 3) := by decide +kernel
theorem d57 : decode yB 57 = .ok (.return_, 1) := by decide +kernel
def site : List Cond := [.fieldLink "java/lang/String" 38 "java/lang/String" "COMPACT_STRINGS" "Z", Cmp3.tab, CodL.tab, .laysFinal "java/lang/String" "java/lang/String" "value" "[B", .fieldLink "java/lang/String" 9 "java/lang/String" "value" "[B", .laysFinal "java/lang/String" "java/lang/String" "coder" "B", .fieldLink "java/lang/String" 15 "java/lang/String" "coder" "B"] ++ objW "java/lang/String" 1 ++ staticW "java/lang/String" 177 Cmp3.yN ++ staticW "java/lang/String" 47 CodL.yN
def tab : Cond := tabOf yN yB 6 none site
def P (a : Addr) (D : Cell) (fV fC : Field) (b : Addr) (A : Cell) (z : Int32) (o len : Nat) (args : Array Value) (s : State) : Prop := args = #[.ref a, .ref b, .int (Int32.ofNat o), .int (Int32.ofNat len), .null] ∧ Blank "java/lang/String" a D s ∧ Found "java/lang/String" "value" "[B" fV s ∧ Found "java/lang/String" "coder" "B" fC s ∧ Ch b A s ∧ StaticIs s "java/lang/String" "COMPACT_STRINGS" "Z" (.int z) ∧ ¬ z = 0 ∧ 0 < len ∧ o + len ≤ A.slots.size ∧ len ≤ 536870912 ∧ ∀ i, i < len → ¬ 255 < cv A (o + i)
def E (a : Addr) (D : Cell) (fV fC : Field) (A : Cell) (o len : Nat) (r : Option Value) (s u : State) : Prop := Got a D fV fC A o len r s u
/-- len > 0, no char of the range above 255: a Latin-1 String of their low bytes -/
theorem law (l : Launch) (a : Addr) (D : Cell) (fV fC : Field) (b : Addr) (A : Cell) (z : Int32) (o len : Nat) : Law l yN 5 4 2 35 yB 6 none site (P a D fV fC b A z o len) (E a D fV fC A o len) [⟨a, fC.slot⟩, ⟨a, fV.slot⟩] 1 len := by
  refine Law.of_walk (plainFor_of_name (by decide +kernel)) (by decide +kernel) (by decide +kernel) (by decide) (fun _ _ h => by rw [h.1]; rfl) (fun _ U U' hal hh h => ⟨h.1, h.2.1.mv hal hh, h.2.2.1.al hal, h.2.2.2.1.al hal, h.2.2.2.2.1.mv hal hh, h.2.2.2.2.2.1.there hal hh, h.2.2.2.2.2.2⟩) (fun r U U' V V' h1 hal h2 h => Got.mv r U U' V V' h1 hal h2 h) ?_
  intro p e s m args below meth c s₁ X0 hexec hbytes hml hret hlk hnm hown hh0 W hP
  obtain ⟨rfl, hB, f1, f2, hA, s1, hz, l0, l1, l2, hp⟩ := hP
  have a31 := hA.1.2.2.2
  have c1 : Steps p.tables e below (s₁.setTop (entryFrame m #[.ref a, .ref b, .int (Int32.ofNat o), .int (Int32.ofNat len), .null] 6)) (s₁.setTop (mkF m 0 #[.val (.ref a), .val (.ref b), .val (.int (Int32.ofNat o)), .val (.int (Int32.ofNat len)), .val .null, .unset] [])) := entry rfl
  have c2 : Steps p.tables e below (s₁.setTop (entryFrame m #[.ref a, .ref b, .int (Int32.ofNat o), .int (Int32.ofNat len), .null] 6)) (s₁.setTop (mkF m 1 #[.val (.ref a), .val (.ref b), .val (.int (Int32.ofNat o)), .val (.int (Int32.ofNat len)), .val .null, .unset] [.ref a])) := c1.trans (by
    refine XS.aloadN X0.here hexec rfl (hb hbytes d0) rfl rfl ?_
    exact Steps.refl _)
  obtain ⟨T3, X3, q3, st3⟩ := X0.oinit hexec hown (wks W (objW "java/lang/String" 1)) (g := (mkF m 1 #[.val (.ref a), .val (.ref b), .val (.int (Int32.ofNat o)), .val (.int (Int32.ofNat len)), .val .null, .unset] [.ref a])) rfl (by rw [hml]; rfl) (rest := []) rfl (hb hbytes d1) (W := 0) (by show 2 * 0 + 0 ≤ _; decide) (Nat.le_of_ble_eq_true rfl) (Nat.le_of_ble_eq_true rfl)
  have hh3 := q3.trans hh0
  have c4 : Steps p.tables e below (s₁.setTop (entryFrame m #[.ref a, .ref b, .int (Int32.ofNat o), .int (Int32.ofNat len), .null] 6)) (T3.setTop (mkF m 27 #[.val (.ref a), .val (.ref b), .val (.int (Int32.ofNat o)), .val (.int (Int32.ofNat len)), .val .null, .unset] [])) := (c2.trans (st3 _ (Steps.refl _))).trans (by
    refine XS.iloadN X3.here hexec rfl (hb hbytes d4) rfl ?_
    refine XS.ifYes X3.here hexec rfl (pc0 := 5) rfl (hb hbytes d5) rfl (i0_ne_t (nz32 (by omega) l0)) (by decide) rfl ?_
    exact Steps.refl _)
  obtain ⟨T5, X5, q5, st5⟩ := X3.sget hexec hown (wk W (.fieldLink "java/lang/String" 38 "java/lang/String" "COMPACT_STRINGS" "Z")) s1 (fun _ _ h => by rw [hh3]; exact h) (g := (mkF m 27 #[.val (.ref a), .val (.ref b), .val (.int (Int32.ofNat o)), .val (.int (Int32.ofNat len)), .val .null, .unset] [])) rfl (hb hbytes d27)
  have hh5 := q5.trans hh3
  have c6 : Steps p.tables e below (s₁.setTop (entryFrame m #[.ref a, .ref b, .int (Int32.ofNat o), .int (Int32.ofNat len), .null] 6)) (T5.setTop (mkF m 30 #[.val (.ref a), .val (.ref b), .val (.int (Int32.ofNat o)), .val (.int (Int32.ofNat len)), .val .null, .unset] [.int z])) := c4.trans (st5 _ (Steps.refl _))
  have c7 : Steps p.tables e below (s₁.setTop (entryFrame m #[.ref a, .ref b, .int (Int32.ofNat o), .int (Int32.ofNat len), .null] 6)) (T5.setTop (mkF m 36 #[.val (.ref a), .val (.ref b), .val (.int (Int32.ofNat o)), .val (.int (Int32.ofNat len)), .val .null, .unset] [.int (Int32.ofNat len), .int (Int32.ofNat o), .ref b])) := c6.trans (by
    refine XS.ifNo X5.here hexec rfl (hb hbytes d30) rfl (i0_eq_f hz) ?_
    refine XS.aloadN X5.here hexec rfl (hb hbytes d33) rfl rfl ?_
    refine XS.iloadN X5.here hexec rfl (hb hbytes d34) rfl ?_
    refine XS.iloadN X5.here hexec rfl (hb hbytes d35) rfl ?_
    exact Steps.refl _)
  obtain ⟨v8, T8, X8, E8, g8⟩ := X5.callS hexec (Cmp3.law l b A o len) hown (wks W (staticW "java/lang/String" 177 Cmp3.yN)) (wk W Cmp3.tab) (W := 0) (Nat.le_of_ble_eq_true rfl) (Nat.le_of_ble_eq_true rfl) (Nat.le_refl _) (by show 0 + len ≤ len; omega) (g := (mkF m 36 #[.val (.ref a), .val (.ref b), .val (.int (Int32.ofNat o)), .val (.int (Int32.ofNat len)), .val .null, .unset] [.int (Int32.ofNat len), .int (Int32.ofNat o), .ref b])) rfl (by rw [hml]; rfl) c7 (argsL := [.ref b, .int (Int32.ofNat o), .int (Int32.ofNat len)]) (rest := []) rfl rfl (by show 2 * 0 + 0 ≤ _; decide) (hb hbytes d36) (⟨rfl, hA.mv X5.warmed.alike hh5, l1, l2, hp⟩)
  obtain ⟨e8, z8⟩ := E8
  obtain ⟨rfl, N, n1, n2, n3, n4, n5, n6⟩ := NewArr.mv _ T5 s _ _ hh5.symm (Vm.Alike.refl _) rfl e8
  rw [hh5] at z8
  have hB1 := hB.keep X8.warmed.alike (n6 _ _ hB.1)
  have hne : s.heap.size ≠ a := (Nat.ne_of_lt (Array.getElem?_eq_some_iff.mp hB.1).1).symm
  have c9 : Steps p.tables e below (s₁.setTop (entryFrame m #[.ref a, .ref b, .int (Int32.ofNat o), .int (Int32.ofNat len), .null] 6)) (T8.setTop (mkF m 39 #[.val (.ref a), .val (.ref b), .val (.int (Int32.ofNat o)), .val (.int (Int32.ofNat len)), .val .null, .unset] [.ref s.heap.size])) := g8
  have c10 : Steps p.tables e below (s₁.setTop (entryFrame m #[.ref a, .ref b, .int (Int32.ofNat o), .int (Int32.ofNat len), .null] 6)) (T8.setTop (mkF m 45 #[.val (.ref a), .val (.ref b), .val (.int (Int32.ofNat o)), .val (.int (Int32.ofNat len)), .val .null, .val (.ref s.heap.size)] [.int (Int32.ofNat N.slots.size), .ref s.heap.size, .ref a])) := by
    have hc : Steps p.tables e below (s₁.setTop (entryFrame m #[.ref a, .ref b, .int (Int32.ofNat o), .int (Int32.ofNat len), .null] 6)) (T8.setTop (mkF m 45 #[.val (.ref a), .val (.ref b), .val (.int (Int32.ofNat o)), .val (.int (Int32.ofNat len)), .val .null, .val (.ref s.heap.size)] [.int (Int32.ofNat len), .ref s.heap.size, .ref a])) := c9.trans (by
      refine XS.astore X8.here hexec rfl (hb hbytes d39) rfl rfl rfl ?_
      refine XS.aloadN X8.here hexec rfl (hb hbytes d41) rfl rfl ?_
      refine XS.aload X8.here hexec rfl (hb hbytes d42) rfl rfl ?_
      refine XS.iloadN X8.here hexec rfl (hb hbytes d44) rfl ?_
      exact Steps.refl _)
    rw [n4]; exact hc
  obtain ⟨v11, T11, X11, E11, g11⟩ := X8.callS hexec (CodL.law l s.heap.size N) hown (wks W (staticW "java/lang/String" 47 CodL.yN)) (wk W CodL.tab) (W := 1) (Nat.le_of_ble_eq_true rfl) (Nat.le_of_ble_eq_true rfl) (Nat.le_refl _) (by show 0 + len + 0 ≤ len; omega) (g := (mkF m 45 #[.val (.ref a), .val (.ref b), .val (.int (Int32.ofNat o)), .val (.int (Int32.ofNat len)), .val .null, .val (.ref s.heap.size)] [.int (Int32.ofNat N.slots.size), .ref s.heap.size, .ref a])) rfl (by rw [hml]; rfl) c10 (argsL := [.ref s.heap.size, .int (Int32.ofNat N.slots.size)]) (rest := [.ref a]) rfl rfl (by show 2 * 0 + (1 + 0) ≤ _; decide) (hb hbytes d45) (⟨rfl, n1⟩)
  obtain ⟨rfl, q11⟩ := E11
  have hB11 := hB1.mv (X8.warmed.alike.symm.trans X11.warmed.alike) q11
  have c12 : Steps p.tables e below (s₁.setTop (entryFrame m #[.ref a, .ref b, .int (Int32.ofNat o), .int (Int32.ofNat len), .null] 6)) (T11.setTop (mkF m 48 #[.val (.ref a), .val (.ref b), .val (.int (Int32.ofNat o)), .val (.int (Int32.ofNat len)), .val .null, .val (.ref s.heap.size)] [.int 0, .ref a])) := g11
  obtain ⟨T13, X13, p13, bl13, sl13, st13⟩ := X11.finit hexec hown (wk W (.fieldLink "java/lang/String" 15 "java/lang/String" "coder" "B")) (Or.inr ⟨_, (wk W (.laysFinal "java/lang/String" "java/lang/String" "coder" "B"))⟩) (Or.inl ⟨rfl, hnm⟩) f2 (Or.inl rfl) hB11 (t := .byte) (by decide +kernel) rfl (g := (mkF m 48 #[.val (.ref a), .val (.ref b), .val (.int (Int32.ofNat o)), .val (.int (Int32.ofNat len)), .val .null, .val (.ref s.heap.size)] [.int 0, .ref a])) rfl (rest := []) rfl (hb hbytes d48)
  have c14 : Steps p.tables e below (s₁.setTop (entryFrame m #[.ref a, .ref b, .int (Int32.ofNat o), .int (Int32.ofNat len), .null] 6)) (T13.setTop (mkF m 54 #[.val (.ref a), .val (.ref b), .val (.int (Int32.ofNat o)), .val (.int (Int32.ofNat len)), .val .null, .val (.ref s.heap.size)] [.ref s.heap.size, .ref a])) := (c12.trans (st13 _ (Steps.refl _))).trans (by
    refine XS.aloadN X13.here hexec rfl (hb hbytes d51) rfl rfl ?_
    refine XS.aload X13.here hexec rfl (hb hbytes d52) rfl rfl ?_
    exact Steps.refl _)
  obtain ⟨T15, X15, p15, bl15, sl15, st15⟩ := X13.finit hexec hown (wk W (.fieldLink "java/lang/String" 9 "java/lang/String" "value" "[B")) (Or.inr ⟨_, (wk W (.laysFinal "java/lang/String" "java/lang/String" "value" "[B"))⟩) (Or.inl ⟨rfl, hnm⟩) f1 (Or.inl rfl) bl13 (t := (.array .byte)) (by decide +kernel) rfl (g := (mkF m 54 #[.val (.ref a), .val (.ref b), .val (.int (Int32.ofNat o)), .val (.int (Int32.ofNat len)), .val .null, .val (.ref s.heap.size)] [.ref s.heap.size, .ref a])) rfl (rest := []) rfl (hb hbytes d54)
  have c16 : Steps p.tables e below (s₁.setTop (entryFrame m #[.ref a, .ref b, .int (Int32.ofNat o), .int (Int32.ofNat len), .null] 6)) (T15.setTop (mkF m 57 #[.val (.ref a), .val (.ref b), .val (.int (Int32.ofNat o)), .val (.int (Int32.ofNat len)), .val .null, .val (.ref s.heap.size)] [])) := c14.trans (st15 _ (Steps.refl _))
  have ap := apart (Or.inr ⟨_, (wk W (.laysFinal "java/lang/String" "java/lang/String" "value" "[B"))⟩) (Or.inr ⟨_, (wk W (.laysFinal "java/lang/String" "java/lang/String" "coder" "B"))⟩) f1 f2 (t₁ := .array .byte) (t₂ := .byte) (by decide +kernel) (by decide +kernel) (by decide)
  have al := X8.warmed.alike.symm.trans X15.warmed.alike
  have n7 : T11.heap[s.heap.size]? = some N := by rw [q11]; exact n1.1
  exact ⟨T15, none, _, _, _, X15, by simp, rfl, by omega, (fun _ => rfl), ⟨rfl, _, N, bl15, ((Same.refl D _).set _ (by simp)).set _ (by simp), sl15, (Cell.slots_setSlot_ne _ ap).trans sl13, n1.keep al (p15.other hne (p13.other hne n7)), n2, by rw [al.findClass]; exact n3, n4, n5, fun y c h1 h2 => p15.other h1 (p13.other h1 (by rw [q11]; exact n6 y c h2)), by rw [p15.2.2, p13.2.2, q11]; exact z8⟩, fun fs hl => c16.trans (X15.returnOut hexec hret (hb hbytes d57) hl)⟩
end New4
namespace New1
def yN : MethodName := ⟨"java/lang/String", "<init>", "([C)V"⟩
abbrev yB : ByteArray := jdk_42_method_3_code
theorem d0 : decode yB 0 = .ok (.aload_n 0, 1) := by decide +kernel
theorem d1 : decode yB 1 = .ok (.aload_n 1, 1) := by decide +kernel
theorem d2 : decode yB 2 = .ok (.iconst 0, 1) := by decide +kernel
theorem d3 : decode yB 3 = .ok (.aload_n 1, 1) := by decide +kernel
theorem d4 : decode yB 4 = .ok (.arraylength, 1) := by decide +kernel
theorem d5 : decode yB 5 = .ok (.aconst_null, 1) := by decide +kernel
theorem d6 : decode yB 6 = .ok (.invokespecial 27, 3) := by decide +kernel
theorem d9 : decode yB 9 = .ok (.return_, 1) := by decide +kernel
def site : List Cond := [New4.tab] ++ initW "java/lang/String" 27 New4.yN
def tab : Cond := tabOf yN yB 2 none site
def P (a : Addr) (D : Cell) (fV fC : Field) (b : Addr) (A : Cell) (z : Int32) (args : Array Value) (s : State) : Prop := args = #[.ref a, .ref b] ∧ Blank "java/lang/String" a D s ∧ Found "java/lang/String" "value" "[B" fV s ∧ Found "java/lang/String" "coder" "B" fC s ∧ Ch b A s ∧ StaticIs s "java/lang/String" "COMPACT_STRINGS" "Z" (.int z) ∧ ¬ z = 0 ∧ 0 < A.slots.size ∧ A.slots.size ≤ 536870912 ∧ ∀ i, i < A.slots.size → ¬ 255 < cv A i
def E (a : Addr) (D : Cell) (fV fC : Field) (A : Cell) (r : Option Value) (s u : State) : Prop := Got a D fV fC A 0 A.slots.size r s u
/-- new String(chars), not empty, no char above 255: a Latin-1 String of their low bytes -/
theorem law (l : Launch) (a : Addr) (D : Cell) (fV fC : Field) (b : Addr) (A : Cell) (z : Int32) : Law l yN 2 1 3 52 yB 2 none site (P a D fV fC b A z) (E a D fV fC A) [⟨a, fC.slot⟩, ⟨a, fV.slot⟩] 1 A.slots.size := by
  refine Law.of_walk (plainFor_of_name (by decide +kernel)) (by decide +kernel) (by decide +kernel) (by decide) (fun _ _ h => by rw [h.1]; rfl) (fun _ U U' hal hh h => ⟨h.1, h.2.1.mv hal hh, h.2.2.1.al hal, h.2.2.2.1.al hal, h.2.2.2.2.1.mv hal hh, h.2.2.2.2.2.1.there hal hh, h.2.2.2.2.2.2⟩) (fun r U U' V V' h1 hal h2 h => Got.mv r U U' V V' h1 hal h2 h) ?_
  intro p e s m args below meth c s₁ X0 hexec hbytes hml hret hlk hnm hown hh0 W hP
  obtain ⟨rfl, hB, f1, f2, hA, s1, hz, l0, l2, hp⟩ := hP
  have c1 : Steps p.tables e below (s₁.setTop (entryFrame m #[.ref a, .ref b] 2)) (s₁.setTop (mkF m 0 #[.val (.ref a), .val (.ref b)] [])) := entry rfl
  have c2 : Steps p.tables e below (s₁.setTop (entryFrame m #[.ref a, .ref b] 2)) (s₁.setTop (mkF m 6 #[.val (.ref a), .val (.ref b)] [.null, .int (Int32.ofNat A.slots.size), .int 0, .ref b, .ref a])) := c1.trans (by
    refine XS.aloadN X0.here hexec rfl (hb hbytes d0) rfl rfl ?_
    refine XS.aloadN X0.here hexec rfl (hb hbytes d1) rfl rfl ?_
    refine iconstV X0.here hexec rfl 0 (hb hbytes d2) (by decide) ?_
    refine XS.aloadN X0.here hexec rfl (hb hbytes d3) rfl rfl ?_
    refine X0.alen hexec (hA.1.mv X0.warmed.alike hh0) rfl rfl (hb hbytes d4) ?_
    refine XS.aconstNull X0.here hexec rfl (hb hbytes d5) ?_
    exact Steps.refl _)
  obtain ⟨v3, T3, X3, E3, g3⟩ := X0.callN hexec (New4.law l a D fV fC b A z 0 A.slots.size) rfl hown (wks W (initW "java/lang/String" 27 New4.yN)) (W New4.tab (by simp only [site, List.mem_cons, List.mem_append, true_or, or_true])) (W := 0) (Nat.le_of_ble_eq_true rfl) (Nat.le_of_ble_eq_true rfl) (Nat.le_refl _) (by show 0 + A.slots.size ≤ A.slots.size; omega) (g := (mkF m 6 #[.val (.ref a), .val (.ref b)] [.null, .int (Int32.ofNat A.slots.size), .int (Int32.ofNat 0), .ref b, .ref a])) rfl (by rw [hml]; rfl) c2 (argsL := [.ref b, .int (Int32.ofNat 0), .int (Int32.ofNat A.slots.size), .null]) (rest := []) rfl rfl (by show 2 * 0 + 0 ≤ _; decide) (hb hbytes d6) (⟨rfl, hB.mv X0.warmed.alike hh0, f1.al X0.warmed.alike, f2.al X0.warmed.alike, hA.mv X0.warmed.alike hh0, s1.there X0.warmed.alike hh0, hz, l0, by omega, l2, fun i hi => by rw [Nat.zero_add]; exact hp i hi⟩)
  have e0 := Got.mv _ s₁ s _ _ hh0.symm (Vm.Alike.refl _) rfl E3
  obtain rfl := e0.1
  have c4 : Steps p.tables e below (s₁.setTop (entryFrame m #[.ref a, .ref b] 2)) (T3.setTop (mkF m 9 #[.val (.ref a), .val (.ref b)] [])) := g3
  exact ⟨T3, none, _, _, _, X3, by simp, rfl, by omega, (fun _ => rfl), e0, fun fs hl => c4.trans (X3.returnOut hexec hret (hb hbytes d9) hl)⟩
theorem pays {l : Launch} {R : Room} {p : Program} {e : Env} {below : List Frame} {s : State} {sargs : Array Value} {len W : Nat} (a : Addr) (D : Cell) (fV fC : Field) (b : Addr) (A : Cell) (z : Int32) (htab : tab.before sargs s = true) (hfr : 4 ≤ R.frames) (hlo : W + 65 ≤ R.locals) :
    Back l R p e below s sargs yN len W (fun A₁ a₁ => A₁.cells + 1 ≤ R.cells ∧ A₁.slots + A.slots.size ≤ R.slots ∧ P a D fV fC b A z a₁ A₁.U) (fun A₁ _ v₁ B₁ => E a D fV fC A v₁ A₁.U B₁.U ∧ B₁.locs = A₁.locs ++ [⟨a, fC.slot⟩, ⟨a, fV.slot⟩] ∧ B₁.cells = A₁.cells + 1 ∧ B₁.slots = A₁.slots + A.slots.size) :=
  (law l a D fV fC b A z).pays htab hfr (by omega)
end New1
end StrChars
namespace StrChars.Road
open Jvm Sem ClassFile Op Lib Jvm.Stand Jvm.Free Jvm.Free.XT
open Jvm.Lib.Cold (StaticIs)
abbrev ST : String := "java/lang/String"
/-- every table word that New1's law asks, flat -/
abbrev words : List Jvm.Cond := [.code New1.yN New1.yB 2 none, .initialized ST, .methodLink ST 27 New4.yN, .instanceMethod New4.yN,
  .code New4.yN New4.yB 6 none, .fieldLink ST 38 ST "COMPACT_STRINGS" "Z", .laysFinal ST ST "value" "[B", .fieldLink ST 9 ST "value" "[B", .laysFinal ST ST "coder" "B", .fieldLink ST 15 ST "coder" "B",
  .methodLink ST 1 Lib.objectInit, .instanceMethod Lib.objectInit, .code Lib.objectInit ⟨#[0xb1]⟩ 1 none, .methodLink ST 177 Cmp3.yN, .static Cmp3.yN, .methodLink ST 47 CodL.yN, .static CodL.yN,
  .code Cmp3.yN Cmp3.yB 6 (some (.array .byte)), .initialized U16, .arrayClass .byte, .methodLink U16 115 Cmp5.yN, .static Cmp5.yN, .code Cmp5.yN Cmp5.yB 7 (some .int), .code CodL.yN CodL.yB 2 (some .byte)]
theorem tab_of {a : Array Value} {s : State} (h : ∀ w ∈ words, w.before a s = true) : New1.tab.before a s = true := by
  have h5 : Cmp5.tab.before a s = true := unparts (wk h (.code Cmp5.yN Cmp5.yB 7 (some .int))) (wks h (.initialized Cmp5.yN.cls :: Cmp5.site))
  have hc : CodL.tab.before a s = true := unparts (wk h (.code CodL.yN CodL.yB 2 (some .byte))) (wks h (.initialized CodL.yN.cls :: CodL.site))
  have q5 : ∀ w ∈ Cmp5.tab :: words, w.before a s = true := fun w hw => (List.mem_cons.mp hw).elim (fun e => e ▸ h5) (h w)
  have h3 : Cmp3.tab.before a s = true := unparts (wk q5 (.code Cmp3.yN Cmp3.yB 6 (some (.array .byte)))) (wks q5 (.initialized Cmp3.yN.cls :: Cmp3.site))
  have q3 : ∀ w ∈ Cmp3.tab :: CodL.tab :: words, w.before a s = true := fun w hw => (List.mem_cons.mp hw).elim (fun e => e ▸ h3) fun hw => (List.mem_cons.mp hw).elim (fun e => e ▸ hc) (h w)
  have h4 : New4.tab.before a s = true := unparts (wk q3 (.code New4.yN New4.yB 6 none)) (wks q3 (.initialized New4.yN.cls :: New4.site))
  have q4 : ∀ w ∈ New4.tab :: words, w.before a s = true := fun w hw => (List.mem_cons.mp hw).elim (fun e => e ▸ h4) (h w)
  exact unparts (wk q4 (.code New1.yN New1.yB 2 none)) (wks q4 (.initialized New1.yN.cls :: New1.site))
/-- the words ride from the start Z to the walk's own state -/
theorem moved {Z s : State} {a0 args : Array Value} (hZ : Z.Warmed39 s.vm) (hw : ∀ d ∈ words, d.before a0 Z = true) : ∀ d ∈ words, d.before args s = true := fun d hd => by
  have q := hw d hd
  have t : ∀ d ∈ words, d = .arrayClass .byte ∨ (d.onTables && d.keepsFace) = true := by decide +kernel
  rcases t d hd with rfl | t
  · exact RoadKit.mvA hZ q
  · exact RoadKit.mv hZ q t
/-- WHAT COMES BACK, over the tables of the start Z: h the heap at the call, h' behind it -/
def Q (Z : State) (x : Addr) (A : Cell) (h : Heap) (v : Option Value) (h' : Heap) (L : List Loc) : Prop := v = none ∧ (∀ y ∈ L, y.base = x) ∧ RoadKit.Keep h h' [x] ∧ h'.size = h.size + 1 ∧ RoadKit.Exa Z h' x ST ∧ RoadKit.Fld Z h' x ST "value" "[B" (.ref h.size) ∧ RoadKit.Fld Z h' x ST "coder" "B" (.int 0) ∧
  (∃ V : Cell, RoadKit.Arr Z h' h.size V .byte ∧ V.vm = .none ∧ Z.vm.findClass "[B" = some V.cls ∧ V.slots.size = A.slots.size ∧ ∀ j, j < A.slots.size → V.slots[j]? = some (.int (lo8 (cv A j)))) ∧
  ∀ (O n d : String) (w : Value), RoadKit.Fld Z h x O n d w → RoadKit.slotOf Z O n d ≠ RoadKit.slotOf Z ST "value" "[B" → RoadKit.slotOf Z O n d ≠ RoadKit.slotOf Z ST "coder" "B" → RoadKit.Fld Z h' x O n d w
/-- **new String(chars) AT A CALL, IN THE ROAD'S FORM**: for specialBack behind newO: x the fresh String, b the char[] with the cell A -/
theorem back {p : Program} {l : Launch} {e : Env} {R : Room} {s : State} {args : Array Value} {below : List Frame} {len W : Nat} {Z : State} {a0 : Array Value} {h : Heap} (hZ : Z.Warmed39 s.vm) (hw : ∀ d ∈ words, d.before a0 Z = true) {kI : Nat} (wi : (Jvm.Cond.instantiable ST kI).before a0 Z = true)
    {x b : Addr} {A : Cell} {z : Int32} {v0 c0 : Value} (E : RoadKit.Exa Z h x ST) (V : RoadKit.Fld Z h x ST "value" "[B" v0) (C : RoadKit.Fld Z h x ST "coder" "B" c0) (K : RoadKit.Arr Z h b A .char) (hty : Typed .char A) (S : RoadKit.Sta Z h ST "COMPACT_STRINGS" "Z" (.int z)) (hz : ¬ z = 0)
    (l0 : 0 < A.slots.size) (l2 : A.slots.size ≤ 536870912) (hp : ∀ i, i < A.slots.size → ¬ 255 < cv A i) (hfr : 4 ≤ R.frames) (hlo : W + 65 ≤ R.locals) :
    Back l R p e below s args New1.yN len W (fun P a => a = #[.ref x, .ref b] ∧ P.U.heap = h ∧ P.cells + 1 ≤ R.cells ∧ P.slots + A.slots.size ≤ R.slots)
      (fun P _ v B => ∃ L, Q Z x A h v B.U.heap L ∧ B.locs = P.locs ++ L ∧ B.cells = P.cells + 1 ∧ B.slots = P.slots + A.slots.size) := by
  intro m meth c P g ig mk a X hg hsize hdg hW hn hp'
  obtain ⟨rfl, rfl, r1, r2⟩ := hp'
  have al : Z.vm.Alike P.U.vm := hZ.alike.trans X.warmed.alike
  obtain ⟨D, cfV, kV, iV, fV, hD, gV, stV, knV, obV, asV, slV⟩ := id V
  obtain ⟨D', cfC, kC, iC, fC, hD', gC, stC, -, -, asC, slC⟩ := id C
  cases hD.symm.trans hD'
  obtain ⟨D2, kD, e1, e2, e3, e4, e5⟩ := id E
  cases hD.symm.trans e1
  obtain ⟨c2, k2, i1, i2, i3, -⟩ := Cond.instantiable_spec wi
  cases e2.symm.trans i1
  cases e3.symm.trans i2
  obtain ⟨kU, u1, u2⟩ := al.2.2 _ _ e3
  have hB : Blank ST x D P.U := ⟨hD, ⟨knV, fun q hq => by rw [hq] at obV; cases obV⟩, by rw [al.findClass]; exact e2, kU, u1, by rw [u2]; exact i3, by rw [u2]; exact e5 i3⟩
  have F1 : Found ST "value" "[B" fV P.U := ⟨SBG.found_only al ⟨cfV, kV, iV, gV⟩, stV⟩
  have F2 : Found ST "coder" "B" fC P.U := ⟨SBG.found_only al ⟨cfC, kC, iC, gC⟩, stC⟩
  have hA : Ch b A P.U := ⟨⟨K.1, State.isArrayOf_alike al K.2.1, K.2.2, by omega⟩, hty⟩
  have hS : StaticIs P.U ST "COMPACT_STRINGS" "Z" (.int z) := by
    obtain ⟨cfS, iS, kS, fS, st, cS, t1, t2, t3, t4, t5, t6, t7⟩ := S
    exact StaticIs.there (s := { Z with heap := P.U.heap }) ⟨cfS, iS, kS, fS, st, cS, t1, t2, t3, t4, t5, (fun q => by rw [q] at t6; cases t6), t7⟩ al rfl
  obtain ⟨v, B, X', ⟨⟨hv, E', V', q1, q2, q3, q4, q5, q6, q7, q8, q9, q10, q11⟩, hl, hc, hs⟩, st⟩ := New1.pays x D fV fC b A z (tab_of (moved hZ hw)) hfr hlo m meth c P g ig mk _ X hg hsize hdg hW hn ⟨r1, r2, rfl, hB, F1, F2, hA, hS, hz, l0, l2, hp⟩
  have al' : Z.vm.Alike B.U.vm := hZ.alike.trans X'.warmed.alike
  have hsz : E'.slots.size = D.slots.size := by
    obtain ⟨-, -, -, kB, w1, w2, w3⟩ := q1
    obtain ⟨kB', y1, y2⟩ := al'.2.2 _ _ e3
    rw [q2.2.1] at w1
    cases w1.symm.trans y1
    rw [w3, e5 i3, y2]
  refine ⟨v, B, X', ⟨_, ⟨hv, ?_, ⟨by omega, fun y cy hy hn' => q10 y cy (by simpa using hn') hy, fun y cy hy => ?_⟩, q11, ⟨E', _, q1.1, by rw [q2.2.1]; exact e2, by rw [q2.2.1]; exact e3, by rw [q2.1]; exact obV, fun _ => by rw [hsz]; exact e5 i3⟩,
    ⟨E', cfV, kV, iV, fV, q1.1, gV, stV, by rw [q2.1]; exact knV, by rw [q2.1]; exact obV, by rw [q2.2.1]; exact asV, q3⟩, ⟨E', cfC, kC, iC, fC, q1.1, gC, stC, by rw [q2.1]; exact knV, by rw [q2.1]; exact obV, by rw [q2.2.1]; exact asC, q4⟩,
    ⟨V', ⟨q5.1, State.isArrayOf_alike al'.symm q5.2.1, q5.2.2.1⟩, q6, by rw [← al'.findClass]; exact q7, q8, fun j hj => by have := q9 j hj; rwa [Nat.zero_add] at this⟩, fun O n d w F n1 n2 => ?_⟩, hl, hc, hs⟩, st⟩
  · intro y hy
    simp only [List.mem_cons, List.not_mem_nil, or_false] at hy
    rcases hy with rfl | rfl <;> rfl
  · by_cases q : y = x
    · subst q
      cases hD.symm.trans hy
      exact ⟨E', q1.1, q2.2.1, q2.1, hsz⟩
    · exact ⟨cy, q10 y cy q hy, rfl, rfl, rfl⟩
  · obtain ⟨D3, cf, k, i, f, g1, g2, g3, g4, g5, g6, g7⟩ := F
    cases hD.symm.trans g1
    simp only [RoadKit.slotOf, g2, gV, gC, Option.map_some, Option.getD_some] at n1 n2
    exact ⟨E', cf, k, i, f, q1.1, g2, g3, by rw [q2.1]; exact g4, by rw [q2.1]; exact g5, by rw [q2.2.1]; exact g6, by rw [q2.2.2 f.slot (by simp [n1, n2])]; exact g7⟩
end StrChars.Road
namespace StrChars.Road
open Jvm Sem ClassFile Op Lib Jvm.Stand Jvm.Free Jvm.Free.XT
/-- WHAT COMES BACK, the byte[] as a list of values -/
def QA (Z : State) (x : Addr) (zn : Int32) (cs : List Int32) (h : Heap) (v : Option Value) (h' : Heap) (L : List Loc) : Prop := v = none ∧ (∀ y ∈ L, y.base = x) ∧ RoadKit.Keep h h' [x] ∧ h'.size = h.size + 1 ∧ RoadKit.Exa Z h' x ST ∧ RoadKit.Fld Z h' x ST "value" "[B" (.ref h.size) ∧ RoadKit.Fld Z h' x ST "coder" "B" (.int 0) ∧
  (∃ kb, Z.vm.findClass "[B" = some kb ∧ RoadKit.Arv Z h' h.size kb .byte zn (cs.map fun c => .int (lo8 c)) (.int 0)) ∧
  ∀ (O n d : String) (w : Value), RoadKit.Fld Z h x O n d w → RoadKit.slotOf Z O n d ≠ RoadKit.slotOf Z ST "value" "[B" → RoadKit.slotOf Z O n d ≠ RoadKit.slotOf Z ST "coder" "B" → RoadKit.Fld Z h' x O n d w
/-- **new String(chars) AT A CALL, THE ARRAYS AS LISTS**: the char[] at b holds cs, not empty, no char above 255 -/
theorem backArv {p : Program} {l : Launch} {e : Env} {R : Room} {s : State} {args : Array Value} {below : List Frame} {len W : Nat} {Z : State} {a0 : Array Value} {h : Heap} (hZ : Z.Warmed39 s.vm) (hw : ∀ d ∈ words, d.before a0 Z = true) {kI : Nat} (wi : (Jvm.Cond.instantiable ST kI).before a0 Z = true)
    {x b : Addr} {k : ClassId} {zn z : Int32} {cs : List Int32} {dv v0 c0 : Value} (E : RoadKit.Exa Z h x ST) (V : RoadKit.Fld Z h x ST "value" "[B" v0) (C : RoadKit.Fld Z h x ST "coder" "B" c0) (K : RoadKit.Arv Z h b k .char zn (cs.map Value.int) dv) (S : RoadKit.Sta Z h ST "COMPACT_STRINGS" "Z" (.int z)) (hz : ¬ z = 0)
    (hlen : zn.toNatClampNeg = cs.length) (h0 : 0 < cs.length) (hbig : cs.length ≤ 536870912) (hall : ∀ c ∈ cs, ¬ 255 < c) (hfr : 4 ≤ R.frames) (hlo : W + 65 ≤ R.locals) :
    Back l R p e below s args New1.yN len W (fun P a => a = #[.ref x, .ref b] ∧ P.U.heap = h ∧ P.cells + 1 ≤ R.cells ∧ P.slots + cs.length ≤ R.slots)
      (fun P _ v B => ∃ L, QA Z x zn cs h v B.U.heap L ∧ B.locs = P.locs ++ L ∧ B.cells = P.cells + 1 ∧ B.slots = P.slots + cs.length) := by
  obtain ⟨A, K1, K2, K3, K4, K5, K6⟩ := K
  have e : A.slots.size = cs.length := K3.trans hlen
  have hat : ∀ (i : Nat) (hi : i < cs.length), A.slots[i]? = some (.int cs[i]) := fun i hi => by rw [K5 i (by omega)]; simp [List.getD_eq_getElem?_getD, hi]
  have hcv : ∀ (i : Nat) (hi : i < cs.length), cv A i = cs[i] := fun i hi => by unfold cv; rw [hat i hi]
  have hty : Typed .char A := fun i v hv => by
    have hi : i < A.slots.size := (Array.getElem?_eq_some_iff.mp hv).1
    have q := K5 i hi
    rw [hv] at q
    rw [Option.some.inj q]
    exact K6 i hi
  refine Back.mono (back hZ hw wi E V C K1 hty S hz (by omega) (by omega) (fun i hi => by rw [hcv i (by omega)]; exact hall _ (List.getElem_mem _)) hfr hlo) (fun P a hp => ⟨hp.1, hp.2.1, hp.2.2.1, by rw [e]; exact hp.2.2.2⟩) (fun P a v B hp hq => ?_)
  obtain ⟨L, ⟨q1, q2, q3, q4, q5, q6, q7, ⟨V', v1, v2, v3, v4, v5⟩, q9⟩, hl, hc, hs⟩ := hq
  refine ⟨L, ⟨q1, q2, q3, q4, q5, q6, q7, ⟨V'.cls, v3, V', v1, rfl, by rw [v4, e, hlen], K4, fun i hi => ?_, fun i hi => ?_⟩, q9⟩, hl, hc, by rw [hs, e]⟩
  · have hi' : i < cs.length := by omega
    rw [v5 i (by omega), hcv i hi']; simp [List.getD_eq_getElem?_getD, hi']
  · have hi' : i < cs.length := by omega
    simp only [List.getD_eq_getElem?_getD, List.getElem?_map, List.getElem?_eq_getElem hi', Option.map_some, Option.getD_some]
    exact fits_lo8 _
end StrChars.Road
namespace StrChars.Road
open Jvm Sem ClassFile Op Lib Jvm.Stand Jvm.Free Jvm.Free.XT
/-- WHAT COMES BACK, in the writer's own shape -/
def QV (Z : State) (x : Addr) (N : Int32) (bs : List Int32) (h : Heap) (n0 : Nat) (v : Option Value) (h' : Heap) (L : List Loc) : Prop := v = none ∧ RoadKit.Fr n0 L ∧ RoadKit.Keep h h' [x] ∧ RoadKit.Exa Z h' x ST ∧ RoadKit.Fld Z h' x ST "coder" "B" (.int 0) ∧
  ∃ (t : Addr) (kb : ClassId), n0 ≤ t ∧ h.size ≤ t ∧ ¬ t = x ∧ RoadKit.Fld Z h' x ST "value" "[B" (.ref t) ∧ RoadKit.Arv Z h' t kb .byte N (bs.map Value.int) (.int 0)
/-- **new String(chars) AT A CALL, FOR THE WRITER**: a char[] of n known ints, each 0 to 255 -/
theorem backV {p : Program} {l : Launch} {e : Env} {R : Room} {s : State} {args : Array Value} {below : List Frame} {len W : Nat} {Z : State} {a0 : Array Value} {h : Heap} (hZ : Z.Warmed39 s.vm) (hw : ∀ d ∈ words, d.before a0 Z = true) {kI : Nat} (wi : (Jvm.Cond.instantiable ST kI).before a0 Z = true)
    {x b : Addr} {kC : ClassId} {cs bs : List Int32} {d v0 c0 : Value} {z N : Int32} {n n0 : Nat} (hx0 : n0 ≤ x) (hh0 : n0 ≤ h.size) (E : RoadKit.Exa Z h x ST) (V : RoadKit.Fld Z h x ST "value" "[B" v0) (C : RoadKit.Fld Z h x ST "coder" "B" c0) (K : RoadKit.Arv Z h b kC .char N (cs.map Value.int) d) (S : RoadKit.Sta Z h ST "COMPACT_STRINGS" "Z" (.int z)) (hz : ¬ z = 0)
    (hn : cs.length = n) (hN : N = Int32.ofNat n) (l0 : 0 < n) (l2 : n ≤ 4000) (hp : ∀ c ∈ cs, ¬ c < 0 ∧ ¬ (255 : Int32) < c) (hb : bs = cs.map (fun c => c.toInt8.toInt32)) (hfr : 4 ≤ R.frames) (hlo : W + 65 ≤ R.locals) :
    Back l R p e below s args (⟨"java/lang/String", "<init>", "([C)V"⟩ : MethodName) len W (fun P a => a = #[.ref x, .ref b] ∧ P.U.heap = h ∧ P.cells + 1 ≤ R.cells ∧ P.slots + n ≤ R.slots)
      (fun P _ v B => ∃ L, QV Z x N bs h n0 v B.U.heap L ∧ B.locs = P.locs ++ L ∧ B.cells = P.cells + 1 ∧ B.slots = P.slots + n) := by
  subst hn hN hb
  refine Back.mono (backArv hZ hw wi E V C K S hz (n32 (by omega)) l0 (by omega) (fun c hc => (hp c hc).2) hfr hlo) (fun P a hp => hp) (fun P a v B hp hq => ?_)
  obtain ⟨L, ⟨q1, q2, q3, q4, q5, q6, q7, ⟨kb, v1, v2⟩, q9⟩, hl, hc, hs⟩ := hq
  exact ⟨L, ⟨q1, fun y hy => by rw [q2 y hy]; exact hx0, q3, q5, q7, h.size, kb, hh0, Nat.le_refl _, Nat.ne_of_gt E.lt, q6, by rw [List.map_map]; exact v2⟩, hl, hc, hs⟩
end StrChars.Road
end Jvm.Pilot.@@N@@
namespace Jvm.Pilot.@@N@@
open Jvm Jvm.ClassFile Sem Op Lib Jvm.Free Jvm.Stand Jvm.LawKit Jvm.RoadKit Jvm.OwnS Bundle Jvm.Pilot.@@N@@.Jvm.D
/-- String.COMPACT_STRINGS isn't 0 -/
def Cmp (Z : State) : Prop := ∃ z : Int32, ¬ z = 0 ∧ Sta Z Z.heap "java/lang/String" "COMPACT_STRINGS" "Z" (.int z)
theorem own_c255 (x : Int32) : ¬ nar .char ((x &&& (255 : Int32)).toUInt32.toUInt16.toUInt32.toInt32) < 0 ∧ ¬ (255 : Int32) < nar .char ((x &&& (255 : Int32)).toUInt32.toUInt16.toUInt32.toInt32) := by
  have t : ∀ k : Fin 256, ¬ nar .char ((Int32.ofNat k.val).toUInt32.toUInt16.toUInt32.toInt32) < 0 ∧ ¬ (255 : Int32) < nar .char ((Int32.ofNat k.val).toUInt32.toUInt16.toUInt32.toInt32) := by decide +kernel
  have h : (x &&& 255).toBitVec.toNat < 256 := by
    simp only [Int32.toBitVec_and, BitVec.toNat_and]
    exact Nat.lt_succ_of_le Nat.and_le_right
  have e : (x &&& 255) = Int32.ofNat (x &&& 255).toBitVec.toNat := by
    apply Int32.toBitVec_inj.mp
    show _ = BitVec.ofNat 32 _
    rw [BitVec.ofNat_toNat]; simp
  rw [e]
  exact t ⟨_, h⟩
theorem own_char (x : Int32) : ¬ ((x &&& (255 : Int32)).toUInt32.toUInt16.toUInt32.toInt32) < 0 ∧ ¬ (255 : Int32) < ((x &&& (255 : Int32)).toUInt32.toUInt16.toUInt32.toInt32) := by
  have t : ∀ k : Fin 256, ¬ ((Int32.ofNat k.val).toUInt32.toUInt16.toUInt32.toInt32) < 0 ∧ ¬ (255 : Int32) < ((Int32.ofNat k.val).toUInt32.toUInt16.toUInt32.toInt32) := by decide +kernel
  have h : (x &&& 255).toBitVec.toNat < 256 := by
    simp only [Int32.toBitVec_and, BitVec.toNat_and]
    exact Nat.lt_succ_of_le Nat.and_le_right
  have e : (x &&& 255) = Int32.ofNat (x &&& 255).toBitVec.toNat := by
    apply Int32.toBitVec_inj.mp
    show _ = BitVec.ofNat 32 _
    rw [BitVec.ofNat_toNat]; simp
  rw [e]
  exact t ⟨_, h⟩
theorem own_i8 (x : Int32) : x.toInt8.toInt32.toInt8.toInt32 = x.toInt8.toInt32 := by simp
theorem own_words_new : ∀ d ∈ StrChars.Road.words, d ∈ tables_1 := by decide +kernel
/-- new String(char[]) -/
theorem own_newStr {p : Program} {l : Launch} {e : Env} {R : Room} {s : State} {args : Array Value} {below : List Frame} {W : Nat} {Z : State} {a0 : Array Value} (hZ : Z.Warmed39 s.vm) (hfr : 4 ≤ R.frames) (hlo : W + 65 ≤ R.locals) (hw : ∀ d ∈ tables_1, d.before a0 Z = true) (x b : Addr) (kC : ClassId) (cs : List Int32) (N : Int32) (d v0 c0 : Value) (nn : Nat) (h : Heap) (n0 : Nat) (Z0 : n0 ≤ h.size) (g_x : n0 ≤ x)
    (E : Exa Z h x "java/lang/String") (V : Fld Z h x "java/lang/String" "value" "[B" v0) (C : Fld Z h x "java/lang/String" "coder" "B" c0) (K : Arv Z h b kC .char N (cs.map Value.int) d) (O : Old Z n0 h) (hn : cs.length = nn) (hN : N = Int32.ofNat nn) (l0 : 0 < nn) (l2 : nn ≤ 4000) (hp : ∀ c ∈ cs, ¬ c < 0 ∧ ¬ (255 : Int32) < c) (G : Cmp Z) :
    Jvm.OwnN.Bk l R p e below s args (⟨"java/lang/String", "<init>", "([C)V"⟩ : MethodName) 3 W #[.ref x, .ref b] h 1 nn n0 (fun v h' => ∃ (t : Addr) (kb : ClassId), v = none ∧ Keep h h' [x] ∧ h.size ≤ t ∧ Str Z h' x t kb cs) := by
  obtain ⟨z, hz, S⟩ := G
  subst hn
  refine Back.mono (StrChars.Road.backV (W := W) hZ (fun d hd => hw d (own_words_new d hd)) (kI := 4) (hw _ (List.mem_of_getElem? (i := 2) rfl)) g_x Z0 E V C K (S.ext O.2) hz rfl hN l0 l2 hp rfl hfr hlo) (fun P a hp => hp) (fun P a v B _ hq => ?_)
  obtain ⟨L, ⟨q1, q2, q3, q4, q5, t, kb, q6, q7, q8, q9, q10⟩, r⟩ := hq
  refine ⟨L, ⟨⟨t, kb, q1, q3, q7, q4, q9, q5, ?_, hp, l2⟩, q2⟩, r⟩
  subst hN
  rw [List.map_map] at q10
  exact q10
theorem d_jdk_30_method_1_0 : decode jdk_30_method_1_code 0 = .ok (.aload_n 0, 1) := by decide +kernel
theorem d_jdk_30_method_1_1 : decode jdk_30_method_1_code 1 = .ok (.invokespecial 1, 3) := by decide +kernel
theorem d_jdk_30_method_1_4 : decode jdk_30_method_1_code 4 = .ok (.return_, 1) := by decide +kernel
theorem pn_java_lang_Record : plainName "java/lang/Record" = true := by first | (simp [plainName, overriddenIn]; done) | decide +kernel
set_option maxRecDepth 65536 in
set_option maxHeartbeats 40000000 in
theorem own_rec (l : Launch) (Z : State) (a0 : Array Value) (hw : ∀ d ∈ tables_1, d.before a0 Z = true) (a : Addr) (h0 : Heap) (n0 : Nat) (Z0 : n0 ≤ h0.size) :
    Jvm.OwnN.Con l Z (⟨"java/lang/Record", "<init>", "()V"⟩ : MethodName) jdk_30_method_1_code 1 none ({ frames := 1, cells := 0, slots := 0, locals := 12 } : Room) n0 #[(.ref a)] h0 (fun v h => v = none ∧ h0 = h) := by
  refine Jvm.OwnN.Con.intro (plainFor_of_name pn_java_lang_Record) ?_
  intro p e s m below meth c s₁ hx hby hml hret hnm hown hlk hZ P0
  refine Jvm.OwnN.Aim.cast (by first | (simp [entryFrame, mkF, argsToLocals, Value.category]; done) | rfl : entryFrame m #[(.ref a)] 1 = (mkF m 0 #[.val (.ref a)] [])) ?_
  have H := P0.here
  refine Jvm.OwnN.Aim.of (T := s₁) (T' := s₁) (g := (mkF m 0 #[.val (.ref a)] [])) (g' := (mkF m 1 #[.val (.ref a)] [(.ref a)])) (fun tgt kt => ?_) ?_
  · show Steps p.tables e below (s₁.setTop (mkF m 0 #[.val (.ref a)] [])) tgt
    refine XS.aloadN H hx rfl (hb hby d_jdk_30_method_1_0) rfl rfl ?_
    exact kt
  clear H
  refine Jvm.OwnN.Aim.initO (pc := 1) (Ls := #[.val (.ref a)]) (st := []) P0 hx hZ hml hown (hw _ (List.mem_of_getElem? (i := 42) rfl)) (hw _ (List.mem_of_getElem? (i := 12) rfl)) (hw _ (List.mem_of_getElem? (i := 13) rfl)) rfl (hb hby d_jdk_30_method_1_1) (by decide) (Nat.le_of_ble_eq_true rfl) ?_
  intro T1 P2
  show Jvm.OwnN.Aim p e below s _ _ n0 _ T1 (mkF m 4 #[.val (.ref a)] [])
  exact Jvm.OwnN.Aim.retV P2 hx hlk hret (hb hby d_jdk_30_method_1_4) (by decide) (by decide) ⟨rfl, rfl⟩
theorem d_prog_85_method_1_0 : decode prog_85_method_1_code 0 = .ok (.aload_n 0, 1) := by decide +kernel
theorem d_prog_85_method_1_1 : decode prog_85_method_1_code 1 = .ok (.invokespecial 1, 3) := by decide +kernel
theorem pd__28_29V : parseMethodDescriptor "()V" = some ⟨[], none⟩ := by decide +kernel
theorem d_prog_85_method_1_4 : decode prog_85_method_1_code 4 = .ok (.iload_n 3, 1) := by decide +kernel
theorem d_prog_85_method_1_5 : decode prog_85_method_1_code 5 = .ok (.iconst 1, 1) := by decide +kernel
theorem d_prog_85_method_1_6 : decode prog_85_method_1_code 6 = .ok (.if_icmp .lt 12, 3) := by decide +kernel
theorem d_prog_85_method_1_9 : decode prog_85_method_1_code 9 = .ok (.iload_n 2, 1) := by decide +kernel
theorem d_prog_85_method_1_10 : decode prog_85_method_1_code 10 = .ok (.ifCond .eq 23, 3) := by decide +kernel
theorem d_prog_85_method_1_33 : decode prog_85_method_1_code 33 = .ok (.aload_n 0, 1) := by decide +kernel
theorem d_prog_85_method_1_34 : decode prog_85_method_1_code 34 = .ok (.aload_n 1, 1) := by decide +kernel
theorem d_prog_85_method_1_35 : decode prog_85_method_1_code 35 = .ok (.putfield 16, 3) := by decide +kernel
theorem d_prog_85_method_1_38 : decode prog_85_method_1_code 38 = .ok (.aload_n 0, 1) := by decide +kernel
theorem d_prog_85_method_1_39 : decode prog_85_method_1_code 39 = .ok (.iload_n 2, 1) := by decide +kernel
theorem d_prog_85_method_1_40 : decode prog_85_method_1_code 40 = .ok (.putfield 22, 3) := by decide +kernel
theorem d_prog_85_method_1_43 : decode prog_85_method_1_code 43 = .ok (.aload_n 0, 1) := by decide +kernel
theorem d_prog_85_method_1_44 : decode prog_85_method_1_code 44 = .ok (.iload_n 3, 1) := by decide +kernel
theorem d_prog_85_method_1_45 : decode prog_85_method_1_code 45 = .ok (.putfield 26, 3) := by decide +kernel
theorem d_prog_85_method_1_48 : decode prog_85_method_1_code 48 = .ok (.return_, 1) := by decide +kernel
theorem d_prog_85_method_1_13 : decode prog_85_method_1_code 13 = .ok (.iload_n 3, 1) := by decide +kernel
theorem d_prog_85_method_1_14 : decode prog_85_method_1_code 14 = .ok (.iconst 1, 1) := by decide +kernel
theorem d_prog_85_method_1_15 : decode prog_85_method_1_code 15 = .ok (.if_icmp .eq 18, 3) := by decide +kernel
theorem pn_com_example_intruder_intruder_term_Term_Nonce : plainName "com/example/intruder/intruder/term/Term$Nonce" = true := by first | (simp [plainName, overriddenIn]; done) | decide +kernel
set_option maxRecDepth 65536 in
set_option maxHeartbeats 40000000 in
theorem own_ninit (l : Launch) (Z : State) (a0 : Array Value) (hw : ∀ d ∈ tables_1, d.before a0 Z = true) (a : Addr) (t : Addr) (r : Int32) (q : Int32) (un : Value) (ur : Value) (us : Value) (h0 : Heap) (n0 : Nat) (Z0 : n0 ≤ h0.size) (g_a : n0 ≤ a) (F0 : Exa Z h0 a "com/example/intruder/intruder/term/Term$Nonce") (F1 : Fld Z h0 a "com/example/intruder/intruder/term/Term$Nonce" "name" "Ljava/lang/String;" un) (F2 : Fld Z h0 a "com/example/intruder/intruder/term/Term$Nonce" "run" "I" ur) (F3 : Fld Z h0 a "com/example/intruder/intruder/term/Term$Nonce" "serial" "I" us) (hq : ¬ (q < (1 : Int32))) (hr : r = (0 : Int32) ∨ q = (1 : Int32)) :
    Jvm.OwnN.Con l Z (⟨"com/example/intruder/intruder/term/Term$Nonce", "<init>", "(Ljava/lang/String;II)V"⟩ : MethodName) prog_85_method_1_code 4 none ({ frames := 2, cells := 0, slots := 0, locals := 24 } : Room) n0 #[(.ref a), (.ref t), (.int r), (.int q)] h0 (fun v h => v = none ∧ Keep h0 h [a] ∧ Exa Z h a "com/example/intruder/intruder/term/Term$Nonce" ∧ Fld Z h a "com/example/intruder/intruder/term/Term$Nonce" "run" "I" (.int r)) := by
  refine Jvm.OwnN.Con.intro (plainFor_of_name pn_com_example_intruder_intruder_term_Term_Nonce) ?_
  intro p e s m below meth c s₁ hx hby hml hret hnm hown hlk hZ P0
  refine Jvm.OwnN.Aim.cast (by first | (simp [entryFrame, mkF, argsToLocals, Value.category]; done) | rfl : entryFrame m #[(.ref a), (.ref t), (.int r), (.int q)] 4 = (mkF m 0 #[.val (.ref a), .val (.ref t), .val (.int r), .val (.int q)] [])) ?_
  have H := P0.here
  refine Jvm.OwnN.Aim.of (T := s₁) (T' := s₁) (g := (mkF m 0 #[.val (.ref a), .val (.ref t), .val (.int r), .val (.int q)] [])) (g' := (mkF m 1 #[.val (.ref a), .val (.ref t), .val (.int r), .val (.int q)] [(.ref a)])) (fun tgt kt => ?_) ?_
  · show Steps p.tables e below (s₁.setTop (mkF m 0 #[.val (.ref a), .val (.ref t), .val (.int r), .val (.int q)] [])) tgt
    refine XS.aloadN H hx rfl (hb hby d_prog_85_method_1_0) rfl rfl ?_
    exact kt
  clear H
  refine Jvm.OwnN.Aim.callC (pc := 1) (Ls := #[.val (.ref a), .val (.ref t), .val (.int r), .val (.int q)]) (argsL := []) (rest := []) P0 hx hZ hml hown rfl (hw _ (List.mem_of_getElem? (i := 37) rfl)) (hw _ (List.mem_of_getElem? (i := 38) rfl)) (hw _ (List.mem_of_getElem? (i := 41) rfl)) (by decide) (Jvm.OwnN.Con.back (W := 0) (own_rec l Z a0 hw a h0 n0 Z0) hZ (hw _ (List.mem_of_getElem? (i := 41) rfl)) (hw _ (List.mem_of_getElem? (i := 40) rfl)) (by decide) (by decide)) rfl pd__28_29V rfl (Nat.le_of_eq rfl) (hb hby d_prog_85_method_1_1) (by decide) (by decide) ?_
  intro T3 h4 v7 P5 hQ6
  obtain ⟨rfl, rfl⟩ := hQ6
  show Jvm.OwnN.Aim p e below s _ _ n0 _ T3 (mkF m 4 #[.val (.ref a), .val (.ref t), .val (.int r), .val (.int q)] [])
  have H := P5.here
  refine Jvm.OwnN.Aim.of (T := T3) (T' := T3) (g := (mkF m 4 #[.val (.ref a), .val (.ref t), .val (.int r), .val (.int q)] [])) (g' := (mkF m 10 #[.val (.ref a), .val (.ref t), .val (.int r), .val (.int q)] [(.int r)])) (fun tgt kt => ?_) ?_
  · show Steps p.tables e below (T3.setTop (mkF m 4 #[.val (.ref a), .val (.ref t), .val (.int r), .val (.int q)] [])) tgt
    refine XS.iloadN H hx rfl (hb hby d_prog_85_method_1_4) rfl ?_
    show Steps p.tables e below (T3.setTop (mkF m 5 #[.val (.ref a), .val (.ref t), .val (.int r), .val (.int q)] [(.int q)])) tgt
    refine XS.iconst H hx rfl (hb hby d_prog_85_method_1_5) ?_
    show Steps p.tables e below (T3.setTop (mkF m 6 #[.val (.ref a), .val (.ref t), .val (.int r), .val (.int q)] [(.int (1 : Int32)), (.int q)])) tgt
    refine XS.icmpNo H hx rfl (hb hby d_prog_85_method_1_6) rfl (flt hq).1 ?_
    show Steps p.tables e below (T3.setTop (mkF m 9 #[.val (.ref a), .val (.ref t), .val (.int r), .val (.int q)] [])) tgt
    refine XS.iloadN H hx rfl (hb hby d_prog_85_method_1_9) rfl ?_
    exact kt
  clear H
  by_cases hc10 : r = (0 : Int32)
  · -- r = (0 : Int32)
    have H := P5.here
    refine Jvm.OwnN.Aim.of (T := T3) (T' := T3) (g := (mkF m 10 #[.val (.ref a), .val (.ref t), .val (.int r), .val (.int q)] [(.int r)])) (g' := (mkF m 35 #[.val (.ref a), .val (.ref t), .val (.int r), .val (.int q)] [(.ref t), (.ref a)])) (fun tgt kt => ?_) ?_
    · show Steps p.tables e below (T3.setTop (mkF m 10 #[.val (.ref a), .val (.ref t), .val (.int r), .val (.int q)] [(.int r)])) tgt
      refine XS.ifYes H hx rfl (pc0 := 10) (pc' := 33) rfl (hb hby d_prog_85_method_1_10) rfl ((if0 _ _).trans (teq hc10).1) (by decide) (by decide) ?_
      show Steps p.tables e below (T3.setTop (mkF m 33 #[.val (.ref a), .val (.ref t), .val (.int r), .val (.int q)] [])) tgt
      refine XS.aloadN H hx rfl (hb hby d_prog_85_method_1_33) rfl rfl ?_
      show Steps p.tables e below (T3.setTop (mkF m 34 #[.val (.ref a), .val (.ref t), .val (.int r), .val (.int q)] [(.ref a)])) tgt
      refine XS.aloadN H hx rfl (hb hby d_prog_85_method_1_34) rfl rfl ?_
      exact kt
    clear H
    refine Jvm.OwnN.Aim.putF (pc := 35) (Ls := #[.val (.ref a), .val (.ref t), .val (.int r), .val (.int q)]) (st := []) (v := (.ref t)) P5 hx hZ hown (host := "") (Or.inl (hw _ (List.mem_of_getElem? (i := 43) rfl))) Via.refl F1 F0 (Or.inr ⟨(hw _ (List.mem_of_getElem? (i := 44) rfl)), rfl, hnm⟩) (hw _ (List.mem_of_getElem? (i := 32) rfl)) (ty := (.object "java/lang/String")) (by decide) rfl rfl (hb hby d_prog_85_method_1_35) g_a ?_
    intro T11 h12 P13 W14
    have K15 := Keep.of_wr W14
    have F16 : Fld Z h12 a "com/example/intruder/intruder/term/Term$Nonce" "name" "Ljava/lang/String;" (.ref t) := F1.same W14
    have K17 : Keep h0 h12 [a] := (Keep.refl h0 [a]).trans K15 (allS (Or.inl (List.mem_of_getElem? (i := 0) rfl)) all0)
    show Jvm.OwnN.Aim p e below s _ _ n0 _ T11 (mkF m 38 #[.val (.ref a), .val (.ref t), .val (.int r), .val (.int q)] [])
    have H := P13.here
    refine Jvm.OwnN.Aim.of (T := T11) (T' := T11) (g := (mkF m 38 #[.val (.ref a), .val (.ref t), .val (.int r), .val (.int q)] [])) (g' := (mkF m 40 #[.val (.ref a), .val (.ref t), .val (.int r), .val (.int q)] [(.int r), (.ref a)])) (fun tgt kt => ?_) ?_
    · show Steps p.tables e below (T11.setTop (mkF m 38 #[.val (.ref a), .val (.ref t), .val (.int r), .val (.int q)] [])) tgt
      refine XS.aloadN H hx rfl (hb hby d_prog_85_method_1_38) rfl rfl ?_
      show Steps p.tables e below (T11.setTop (mkF m 39 #[.val (.ref a), .val (.ref t), .val (.int r), .val (.int q)] [(.ref a)])) tgt
      refine XS.iloadN H hx rfl (hb hby d_prog_85_method_1_39) rfl ?_
      exact kt
    clear H
    have F18 : Exa Z h12 a "com/example/intruder/intruder/term/Term$Nonce" := (F0.keep K15)
    have F19 : Fld Z h12 a "com/example/intruder/intruder/term/Term$Nonce" "run" "I" ur := (F2.other W14 (Or.inr (slot_ne (Or.inr (hw _ (List.mem_of_getElem? (i := 46) rfl))) (Or.inr (hw _ (List.mem_of_getElem? (i := 44) rfl))) (by decide) (t := .int) (t' := (.object "java/lang/String")) (by decide) (by decide))))
    refine Jvm.OwnN.Aim.putF (pc := 40) (Ls := #[.val (.ref a), .val (.ref t), .val (.int r), .val (.int q)]) (st := []) (v := (.int r)) P13 hx hZ hown (host := "") (Or.inl (hw _ (List.mem_of_getElem? (i := 45) rfl))) Via.refl F19 F18 (Or.inr ⟨(hw _ (List.mem_of_getElem? (i := 46) rfl)), rfl, hnm⟩) (hw _ (List.mem_of_getElem? (i := 32) rfl)) (ty := .int) (by decide) rfl rfl (hb hby d_prog_85_method_1_40) g_a ?_
    intro T20 h21 P22 W23
    have K24 := Keep.of_wr W23
    have F25 : Fld Z h21 a "com/example/intruder/intruder/term/Term$Nonce" "run" "I" (.int r) := F19.same W23
    have K26 : Keep h0 h21 [a] := K17.trans K24 (allS (Or.inl (List.mem_of_getElem? (i := 0) rfl)) all0)
    show Jvm.OwnN.Aim p e below s _ _ n0 _ T20 (mkF m 43 #[.val (.ref a), .val (.ref t), .val (.int r), .val (.int q)] [])
    have H := P22.here
    refine Jvm.OwnN.Aim.of (T := T20) (T' := T20) (g := (mkF m 43 #[.val (.ref a), .val (.ref t), .val (.int r), .val (.int q)] [])) (g' := (mkF m 45 #[.val (.ref a), .val (.ref t), .val (.int r), .val (.int q)] [(.int q), (.ref a)])) (fun tgt kt => ?_) ?_
    · show Steps p.tables e below (T20.setTop (mkF m 43 #[.val (.ref a), .val (.ref t), .val (.int r), .val (.int q)] [])) tgt
      refine XS.aloadN H hx rfl (hb hby d_prog_85_method_1_43) rfl rfl ?_
      show Steps p.tables e below (T20.setTop (mkF m 44 #[.val (.ref a), .val (.ref t), .val (.int r), .val (.int q)] [(.ref a)])) tgt
      refine XS.iloadN H hx rfl (hb hby d_prog_85_method_1_44) rfl ?_
      exact kt
    clear H
    have F27 : Exa Z h21 a "com/example/intruder/intruder/term/Term$Nonce" := (F18.keep K24)
    have F28 : Fld Z h21 a "com/example/intruder/intruder/term/Term$Nonce" "serial" "I" us := ((F3.other W14 (Or.inr (slot_ne (Or.inr (hw _ (List.mem_of_getElem? (i := 48) rfl))) (Or.inr (hw _ (List.mem_of_getElem? (i := 44) rfl))) (by decide) (t := .int) (t' := (.object "java/lang/String")) (by decide) (by decide)))).other W23 (Or.inr (slot_ne (Or.inr (hw _ (List.mem_of_getElem? (i := 48) rfl))) (Or.inr (hw _ (List.mem_of_getElem? (i := 46) rfl))) (by decide) (t := .int) (t' := .int) (by decide) (by decide))))
    refine Jvm.OwnN.Aim.putF (pc := 45) (Ls := #[.val (.ref a), .val (.ref t), .val (.int r), .val (.int q)]) (st := []) (v := (.int q)) P22 hx hZ hown (host := "") (Or.inl (hw _ (List.mem_of_getElem? (i := 47) rfl))) Via.refl F28 F27 (Or.inr ⟨(hw _ (List.mem_of_getElem? (i := 48) rfl)), rfl, hnm⟩) (hw _ (List.mem_of_getElem? (i := 32) rfl)) (ty := .int) (by decide) rfl rfl (hb hby d_prog_85_method_1_45) g_a ?_
    intro T29 h30 P31 W32
    have K33 := Keep.of_wr W32
    have F34 : Fld Z h30 a "com/example/intruder/intruder/term/Term$Nonce" "serial" "I" (.int q) := F28.same W32
    have K35 : Keep h0 h30 [a] := K26.trans K33 (allS (Or.inl (List.mem_of_getElem? (i := 0) rfl)) all0)
    show Jvm.OwnN.Aim p e below s _ _ n0 _ T29 (mkF m 48 #[.val (.ref a), .val (.ref t), .val (.int r), .val (.int q)] [])
    have F36 : Exa Z h30 a "com/example/intruder/intruder/term/Term$Nonce" := (F27.keep K33)
    have F37 : Fld Z h30 a "com/example/intruder/intruder/term/Term$Nonce" "run" "I" (.int r) := (F25.other W32 (Or.inr (slot_ne (Or.inr (hw _ (List.mem_of_getElem? (i := 46) rfl))) (Or.inr (hw _ (List.mem_of_getElem? (i := 48) rfl))) (by decide) (t := .int) (t' := .int) (by decide) (by decide))))
    exact Jvm.OwnN.Aim.retV P31 hx hlk hret (hb hby d_prog_85_method_1_48) (by decide) (by decide) ⟨rfl, K35, F36, F37⟩
  · -- not r = (0 : Int32)
    have hq1 : q = (1 : Int32) := hr.resolve_left hc10
    have H := P5.here
    refine Jvm.OwnN.Aim.of (T := T3) (T' := T3) (g := (mkF m 10 #[.val (.ref a), .val (.ref t), .val (.int r), .val (.int q)] [(.int r)])) (g' := (mkF m 35 #[.val (.ref a), .val (.ref t), .val (.int r), .val (.int q)] [(.ref t), (.ref a)])) (fun tgt kt => ?_) ?_
    · show Steps p.tables e below (T3.setTop (mkF m 10 #[.val (.ref a), .val (.ref t), .val (.int r), .val (.int q)] [(.int r)])) tgt
      refine XS.ifNo H hx rfl (hb hby d_prog_85_method_1_10) rfl ((if0 _ _).trans (feq hc10).1) ?_
      show Steps p.tables e below (T3.setTop (mkF m 13 #[.val (.ref a), .val (.ref t), .val (.int r), .val (.int q)] [])) tgt
      refine XS.iloadN H hx rfl (hb hby d_prog_85_method_1_13) rfl ?_
      show Steps p.tables e below (T3.setTop (mkF m 14 #[.val (.ref a), .val (.ref t), .val (.int r), .val (.int q)] [(.int q)])) tgt
      refine XS.iconst H hx rfl (hb hby d_prog_85_method_1_14) ?_
      show Steps p.tables e below (T3.setTop (mkF m 15 #[.val (.ref a), .val (.ref t), .val (.int r), .val (.int q)] [(.int (1 : Int32)), (.int q)])) tgt
      refine XS.icmpYes H hx rfl (pc0 := 15) (pc' := 33) rfl (hb hby d_prog_85_method_1_15) rfl (teq hq1).1 (by decide) (by decide) ?_
      show Steps p.tables e below (T3.setTop (mkF m 33 #[.val (.ref a), .val (.ref t), .val (.int r), .val (.int q)] [])) tgt
      refine XS.aloadN H hx rfl (hb hby d_prog_85_method_1_33) rfl rfl ?_
      show Steps p.tables e below (T3.setTop (mkF m 34 #[.val (.ref a), .val (.ref t), .val (.int r), .val (.int q)] [(.ref a)])) tgt
      refine XS.aloadN H hx rfl (hb hby d_prog_85_method_1_34) rfl rfl ?_
      exact kt
    clear H
    refine Jvm.OwnN.Aim.putF (pc := 35) (Ls := #[.val (.ref a), .val (.ref t), .val (.int r), .val (.int q)]) (st := []) (v := (.ref t)) P5 hx hZ hown (host := "") (Or.inl (hw _ (List.mem_of_getElem? (i := 43) rfl))) Via.refl F1 F0 (Or.inr ⟨(hw _ (List.mem_of_getElem? (i := 44) rfl)), rfl, hnm⟩) (hw _ (List.mem_of_getElem? (i := 32) rfl)) (ty := (.object "java/lang/String")) (by decide) rfl rfl (hb hby d_prog_85_method_1_35) g_a ?_
    intro T38 h39 P40 W41
    have K42 := Keep.of_wr W41
    have F43 : Fld Z h39 a "com/example/intruder/intruder/term/Term$Nonce" "name" "Ljava/lang/String;" (.ref t) := F1.same W41
    have K44 : Keep h0 h39 [a] := (Keep.refl h0 [a]).trans K42 (allS (Or.inl (List.mem_of_getElem? (i := 0) rfl)) all0)
    show Jvm.OwnN.Aim p e below s _ _ n0 _ T38 (mkF m 38 #[.val (.ref a), .val (.ref t), .val (.int r), .val (.int q)] [])
    have H := P40.here
    refine Jvm.OwnN.Aim.of (T := T38) (T' := T38) (g := (mkF m 38 #[.val (.ref a), .val (.ref t), .val (.int r), .val (.int q)] [])) (g' := (mkF m 40 #[.val (.ref a), .val (.ref t), .val (.int r), .val (.int q)] [(.int r), (.ref a)])) (fun tgt kt => ?_) ?_
    · show Steps p.tables e below (T38.setTop (mkF m 38 #[.val (.ref a), .val (.ref t), .val (.int r), .val (.int q)] [])) tgt
      refine XS.aloadN H hx rfl (hb hby d_prog_85_method_1_38) rfl rfl ?_
      show Steps p.tables e below (T38.setTop (mkF m 39 #[.val (.ref a), .val (.ref t), .val (.int r), .val (.int q)] [(.ref a)])) tgt
      refine XS.iloadN H hx rfl (hb hby d_prog_85_method_1_39) rfl ?_
      exact kt
    clear H
    have F45 : Exa Z h39 a "com/example/intruder/intruder/term/Term$Nonce" := (F0.keep K42)
    have F46 : Fld Z h39 a "com/example/intruder/intruder/term/Term$Nonce" "run" "I" ur := (F2.other W41 (Or.inr (slot_ne (Or.inr (hw _ (List.mem_of_getElem? (i := 46) rfl))) (Or.inr (hw _ (List.mem_of_getElem? (i := 44) rfl))) (by decide) (t := .int) (t' := (.object "java/lang/String")) (by decide) (by decide))))
    refine Jvm.OwnN.Aim.putF (pc := 40) (Ls := #[.val (.ref a), .val (.ref t), .val (.int r), .val (.int q)]) (st := []) (v := (.int r)) P40 hx hZ hown (host := "") (Or.inl (hw _ (List.mem_of_getElem? (i := 45) rfl))) Via.refl F46 F45 (Or.inr ⟨(hw _ (List.mem_of_getElem? (i := 46) rfl)), rfl, hnm⟩) (hw _ (List.mem_of_getElem? (i := 32) rfl)) (ty := .int) (by decide) rfl rfl (hb hby d_prog_85_method_1_40) g_a ?_
    intro T47 h48 P49 W50
    have K51 := Keep.of_wr W50
    have F52 : Fld Z h48 a "com/example/intruder/intruder/term/Term$Nonce" "run" "I" (.int r) := F46.same W50
    have K53 : Keep h0 h48 [a] := K44.trans K51 (allS (Or.inl (List.mem_of_getElem? (i := 0) rfl)) all0)
    show Jvm.OwnN.Aim p e below s _ _ n0 _ T47 (mkF m 43 #[.val (.ref a), .val (.ref t), .val (.int r), .val (.int q)] [])
    have H := P49.here
    refine Jvm.OwnN.Aim.of (T := T47) (T' := T47) (g := (mkF m 43 #[.val (.ref a), .val (.ref t), .val (.int r), .val (.int q)] [])) (g' := (mkF m 45 #[.val (.ref a), .val (.ref t), .val (.int r), .val (.int q)] [(.int q), (.ref a)])) (fun tgt kt => ?_) ?_
    · show Steps p.tables e below (T47.setTop (mkF m 43 #[.val (.ref a), .val (.ref t), .val (.int r), .val (.int q)] [])) tgt
      refine XS.aloadN H hx rfl (hb hby d_prog_85_method_1_43) rfl rfl ?_
      show Steps p.tables e below (T47.setTop (mkF m 44 #[.val (.ref a), .val (.ref t), .val (.int r), .val (.int q)] [(.ref a)])) tgt
      refine XS.iloadN H hx rfl (hb hby d_prog_85_method_1_44) rfl ?_
      exact kt
    clear H
    have F54 : Exa Z h48 a "com/example/intruder/intruder/term/Term$Nonce" := (F45.keep K51)
    have F55 : Fld Z h48 a "com/example/intruder/intruder/term/Term$Nonce" "serial" "I" us := ((F3.other W41 (Or.inr (slot_ne (Or.inr (hw _ (List.mem_of_getElem? (i := 48) rfl))) (Or.inr (hw _ (List.mem_of_getElem? (i := 44) rfl))) (by decide) (t := .int) (t' := (.object "java/lang/String")) (by decide) (by decide)))).other W50 (Or.inr (slot_ne (Or.inr (hw _ (List.mem_of_getElem? (i := 48) rfl))) (Or.inr (hw _ (List.mem_of_getElem? (i := 46) rfl))) (by decide) (t := .int) (t' := .int) (by decide) (by decide))))
    refine Jvm.OwnN.Aim.putF (pc := 45) (Ls := #[.val (.ref a), .val (.ref t), .val (.int r), .val (.int q)]) (st := []) (v := (.int q)) P49 hx hZ hown (host := "") (Or.inl (hw _ (List.mem_of_getElem? (i := 47) rfl))) Via.refl F55 F54 (Or.inr ⟨(hw _ (List.mem_of_getElem? (i := 48) rfl)), rfl, hnm⟩) (hw _ (List.mem_of_getElem? (i := 32) rfl)) (ty := .int) (by decide) rfl rfl (hb hby d_prog_85_method_1_45) g_a ?_
    intro T56 h57 P58 W59
    have K60 := Keep.of_wr W59
    have F61 : Fld Z h57 a "com/example/intruder/intruder/term/Term$Nonce" "serial" "I" (.int q) := F55.same W59
    have K62 : Keep h0 h57 [a] := K53.trans K60 (allS (Or.inl (List.mem_of_getElem? (i := 0) rfl)) all0)
    show Jvm.OwnN.Aim p e below s _ _ n0 _ T56 (mkF m 48 #[.val (.ref a), .val (.ref t), .val (.int r), .val (.int q)] [])
    have F63 : Exa Z h57 a "com/example/intruder/intruder/term/Term$Nonce" := (F54.keep K60)
    have F64 : Fld Z h57 a "com/example/intruder/intruder/term/Term$Nonce" "run" "I" (.int r) := (F52.other W59 (Or.inr (slot_ne (Or.inr (hw _ (List.mem_of_getElem? (i := 46) rfl))) (Or.inr (hw _ (List.mem_of_getElem? (i := 48) rfl))) (by decide) (t := .int) (t' := .int) (by decide) (by decide))))
    exact Jvm.OwnN.Aim.retV P58 hx hlk hret (hb hby d_prog_85_method_1_48) (by decide) (by decide) ⟨rfl, K62, F63, F64⟩
theorem d_prog_85_method_3_0 : decode prog_85_method_3_code 0 = .ok (.new 17, 3) := by decide +kernel
theorem d_prog_85_method_3_3 : decode prog_85_method_3_code 3 = .ok (.dup, 1) := by decide +kernel
theorem d_prog_85_method_3_4 : decode prog_85_method_3_code 4 = .ok (.aload_n 0, 1) := by decide +kernel
theorem d_prog_85_method_3_5 : decode prog_85_method_3_code 5 = .ok (.iconst 0, 1) := by decide +kernel
theorem d_prog_85_method_3_6 : decode prog_85_method_3_code 6 = .ok (.iload_n 1, 1) := by decide +kernel
theorem d_prog_85_method_3_7 : decode prog_85_method_3_code 7 = .ok (.invokespecial 29, 3) := by decide +kernel
theorem pd__28Ljava_2flang_2fString_3bII_29V : parseMethodDescriptor "(Ljava/lang/String;II)V" = some ⟨[(.object "java/lang/String"), .int, .int], none⟩ := by decide +kernel
theorem d_prog_85_method_3_10 : decode prog_85_method_3_code 10 = .ok (.areturn, 1) := by decide +kernel
set_option maxRecDepth 65536 in
set_option maxHeartbeats 40000000 in
theorem own_ofi (l : Launch) (Z : State) (a0 : Array Value) (hw : ∀ d ∈ tables_1, d.before a0 Z = true) (t : Addr) (q : Int32) (h0 : Heap) (n0 : Nat) (Z0 : n0 ≤ h0.size) (hq : ¬ (q < (1 : Int32))) :
    Jvm.OwnN.Con l Z (⟨"com/example/intruder/intruder/term/Term$Nonce", "ofIntruder", "(Ljava/lang/String;I)Lcom/example/intruder/intruder/term/Term$Nonce;"⟩ : MethodName) prog_85_method_3_code 2 (some (.object "com/example/intruder/intruder/term/Term$Nonce")) ({ frames := 3, cells := 1, slots := 3, locals := 40 } : Room) n0 #[(.ref t), (.int q)] h0 (fun v h => ∃ b : Addr, v = some (.ref b) ∧ Keep h0 h [] ∧ h0.size ≤ b ∧ Exa Z h b "com/example/intruder/intruder/term/Term$Nonce" ∧ Fld Z h b "com/example/intruder/intruder/term/Term$Nonce" "run" "I" (.int (0 : Int32))) := by
  refine Jvm.OwnN.Con.intro (plainFor_of_name pn_com_example_intruder_intruder_term_Term_Nonce) ?_
  intro p e s m below meth c s₁ hx hby hml hret hnm hown hlk hZ P0
  refine Jvm.OwnN.Aim.cast (by first | (simp [entryFrame, mkF, argsToLocals, Value.category]; done) | rfl : entryFrame m #[(.ref t), (.int q)] 2 = (mkF m 0 #[.val (.ref t), .val (.int q)] [])) ?_
  refine Jvm.OwnN.Aim.newO (pc := 0) (Ls := #[.val (.ref t), .val (.int q)]) (st := []) P0 hx hZ hown (hw _ (List.mem_of_getElem? (i := 52) rfl)) (hw _ (List.mem_of_getElem? (i := 32) rfl)) (hw _ (List.mem_of_getElem? (i := 33) rfl)) (hb hby d_prog_85_method_3_0) (by decide) (by decide) ?_
  intro T65 h66 b67 g73 P68 E69 E70 D71 U72
  have K74 : Keep h0 h66 [] := (Keep.refl _ _).ext E69
  have K75 : Keep h0 h66 [] := (Keep.refl h0 []).trans K74 all0
  have F76 : Fld Z h66 b67 "com/example/intruder/intruder/term/Term$Nonce" "name" "Ljava/lang/String;" .null := D71 (Or.inr (hw _ (List.mem_of_getElem? (i := 44) rfl))) (ty := (.object "java/lang/String")) (by decide)
  have F77 : Fld Z h66 b67 "com/example/intruder/intruder/term/Term$Nonce" "run" "I" (.int (0 : Int32)) := D71 (Or.inr (hw _ (List.mem_of_getElem? (i := 46) rfl))) (ty := .int) (by decide)
  have F78 : Fld Z h66 b67 "com/example/intruder/intruder/term/Term$Nonce" "serial" "I" (.int (0 : Int32)) := D71 (Or.inr (hw _ (List.mem_of_getElem? (i := 48) rfl))) (ty := .int) (by decide)
  show Jvm.OwnN.Aim p e below s _ _ n0 _ T65 (mkF m 3 #[.val (.ref t), .val (.int q)] [(.ref b67)])
  have H := P68.here
  refine Jvm.OwnN.Aim.of (T := T65) (T' := T65) (g := (mkF m 3 #[.val (.ref t), .val (.int q)] [(.ref b67)])) (g' := (mkF m 7 #[.val (.ref t), .val (.int q)] [(.int q), (.int (0 : Int32)), (.ref t), (.ref b67), (.ref b67)])) (fun tgt kt => ?_) ?_
  · show Steps p.tables e below (T65.setTop (mkF m 3 #[.val (.ref t), .val (.int q)] [(.ref b67)])) tgt
    refine XS.dup H hx rfl (hb hby d_prog_85_method_3_3) rfl rfl ?_
    show Steps p.tables e below (T65.setTop (mkF m 4 #[.val (.ref t), .val (.int q)] [(.ref b67), (.ref b67)])) tgt
    refine XS.aloadN H hx rfl (hb hby d_prog_85_method_3_4) rfl rfl ?_
    show Steps p.tables e below (T65.setTop (mkF m 5 #[.val (.ref t), .val (.int q)] [(.ref t), (.ref b67), (.ref b67)])) tgt
    refine XS.iconst H hx rfl (hb hby d_prog_85_method_3_5) ?_
    show Steps p.tables e below (T65.setTop (mkF m 6 #[.val (.ref t), .val (.int q)] [(.int (0 : Int32)), (.ref t), (.ref b67), (.ref b67)])) tgt
    refine XS.iloadN H hx rfl (hb hby d_prog_85_method_3_6) rfl ?_
    exact kt
  clear H
  refine Jvm.OwnN.Aim.callC (pc := 7) (Ls := #[.val (.ref t), .val (.int q)]) (argsL := [(.ref t), (.int (0 : Int32)), (.int q)]) (rest := [(.ref b67)]) P68 hx hZ hml hown rfl (hw _ (List.mem_of_getElem? (i := 53) rfl)) (hw _ (List.mem_of_getElem? (i := 35) rfl)) (hw _ (List.mem_of_getElem? (i := 36) rfl)) (by decide) (Jvm.OwnN.Con.back (W := 1) (own_ninit l Z a0 hw b67 t (0 : Int32) q (.null) (.int (0 : Int32)) (.int (0 : Int32)) h66 n0 (Nat.le_trans Z0 (K75.1)) (Nat.le_trans Z0 (Nat.le_of_eq g73.symm)) E70 F76 F77 F78 hq (Or.inl rfl)) hZ (hw _ (List.mem_of_getElem? (i := 36) rfl)) (hw _ (List.mem_of_getElem? (i := 33) rfl)) (by decide) (by decide)) rfl pd__28Ljava_2flang_2fString_3bII_29V rfl (Nat.le_of_eq rfl) (hb hby d_prog_85_method_3_7) (by decide) (by decide) ?_
  intro T79 h80 v83 P81 hQ82
  obtain ⟨rfl, K86, F87, F88⟩ := hQ82
  have K89 : Keep h0 h80 [] := K75.trans K86 (allS (Or.inr (Nat.le_trans (Nat.le_refl _) (Nat.le_of_eq g73.symm))) all0)
  show Jvm.OwnN.Aim p e below s _ _ n0 _ T79 (mkF m 10 #[.val (.ref t), .val (.int q)] [(.ref b67)])
  exact Jvm.OwnN.Aim.retA P81 hx hlk hret rfl rfl (hb hby d_prog_85_method_3_10) (by decide) (by decide) ⟨b67, rfl, K89, (Nat.le_trans (Nat.le_refl _) (Nat.le_of_eq g73.symm)), F87, F88⟩
theorem d_prog_85_method_4_0 : decode prog_85_method_4_code 0 = .ok (.aload_n 0, 1) := by decide +kernel
theorem d_prog_85_method_4_1 : decode prog_85_method_4_code 1 = .ok (.getfield 22, 3) := by decide +kernel
theorem d_prog_85_method_4_4 : decode prog_85_method_4_code 4 = .ok (.ifCond .ne 7, 3) := by decide +kernel
theorem d_prog_85_method_4_7 : decode prog_85_method_4_code 7 = .ok (.iconst 1, 1) := by decide +kernel
theorem d_prog_85_method_4_8 : decode prog_85_method_4_code 8 = .ok (.goto 4, 3) := by decide +kernel
theorem d_prog_85_method_4_12 : decode prog_85_method_4_code 12 = .ok (.ireturn, 1) := by decide +kernel
theorem d_prog_85_method_4_11 : decode prog_85_method_4_code 11 = .ok (.iconst 0, 1) := by decide +kernel
set_option maxRecDepth 65536 in
set_option maxHeartbeats 40000000 in
theorem own_by (l : Launch) (Z : State) (a0 : Array Value) (hw : ∀ d ∈ tables_1, d.before a0 Z = true) (a : Addr) (r : Int32) (h0 : Heap) (n0 : Nat) (Z0 : n0 ≤ h0.size) (F0 : Fld Z h0 a "com/example/intruder/intruder/term/Term$Nonce" "run" "I" (.int r)) :
    Jvm.OwnN.Con l Z (⟨"com/example/intruder/intruder/term/Term$Nonce", "byIntruder", "()Z"⟩ : MethodName) prog_85_method_4_code 1 (some .boolean) ({ frames := 0, cells := 0, slots := 0, locals := 0 } : Room) n0 #[(.ref a)] h0 (fun v h => v = some (.int (if r = (0 : Int32) then (1 : Int32) else (0 : Int32))) ∧ h0 = h) := by
  refine Jvm.OwnN.Con.intro (plainFor_of_name pn_com_example_intruder_intruder_term_Term_Nonce) ?_
  intro p e s m below meth c s₁ hx hby hml hret hnm hown hlk hZ P0
  refine Jvm.OwnN.Aim.cast (by first | (simp [entryFrame, mkF, argsToLocals, Value.category]; done) | rfl : entryFrame m #[(.ref a)] 1 = (mkF m 0 #[.val (.ref a)] [])) ?_
  have H := P0.here
  refine Jvm.OwnN.Aim.of (T := s₁) (T' := s₁) (g := (mkF m 0 #[.val (.ref a)] [])) (g' := (mkF m 1 #[.val (.ref a)] [(.ref a)])) (fun tgt kt => ?_) ?_
  · show Steps p.tables e below (s₁.setTop (mkF m 0 #[.val (.ref a)] [])) tgt
    refine XS.aloadN H hx rfl (hb hby d_prog_85_method_4_0) rfl rfl ?_
    exact kt
  clear H
  refine Jvm.OwnN.Aim.getF (pc := 1) (Ls := #[.val (.ref a)]) (st := []) P0 hx hZ hown (host := "") (Or.inl (hw _ (List.mem_of_getElem? (i := 45) rfl))) Via.refl F0 (hb hby d_prog_85_method_4_1) ?_
  intro T90 P91
  show Jvm.OwnN.Aim p e below s _ _ n0 _ T90 (mkF m 4 #[.val (.ref a)] [(.int r)])
  by_cases hc92 : r = (0 : Int32)
  · -- r = (0 : Int32)
    have H := P91.here
    refine Jvm.OwnN.Aim.of (T := T90) (T' := T90) (g := (mkF m 4 #[.val (.ref a)] [(.int r)])) (g' := (mkF m 12 #[.val (.ref a)] [(.int (1 : Int32))])) (fun tgt kt => ?_) ?_
    · show Steps p.tables e below (T90.setTop (mkF m 4 #[.val (.ref a)] [(.int r)])) tgt
      refine XS.ifNo H hx rfl (hb hby d_prog_85_method_4_4) rfl ((if0 _ _).trans (teq hc92).2) ?_
      show Steps p.tables e below (T90.setTop (mkF m 7 #[.val (.ref a)] [])) tgt
      refine XS.iconst H hx rfl (hb hby d_prog_85_method_4_7) ?_
      show Steps p.tables e below (T90.setTop (mkF m 8 #[.val (.ref a)] [(.int (1 : Int32))])) tgt
      refine XS.goto H hx rfl (pc0 := 8) (pc' := 12) rfl (hb hby d_prog_85_method_4_8) (by decide) (by decide) ?_
      exact kt
    clear H
    exact Jvm.OwnN.Aim.retN (t := .boolean) P91 hx hlk hret (by simp) (hb hby d_prog_85_method_4_12) (by decide) (by decide) ⟨(by rw [if_pos hc92]; rfl), rfl⟩
  · -- not r = (0 : Int32)
    have H := P91.here
    refine Jvm.OwnN.Aim.of (T := T90) (T' := T90) (g := (mkF m 4 #[.val (.ref a)] [(.int r)])) (g' := (mkF m 12 #[.val (.ref a)] [(.int (0 : Int32))])) (fun tgt kt => ?_) ?_
    · show Steps p.tables e below (T90.setTop (mkF m 4 #[.val (.ref a)] [(.int r)])) tgt
      refine XS.ifYes H hx rfl (pc0 := 4) (pc' := 11) rfl (hb hby d_prog_85_method_4_4) rfl ((if0 _ _).trans (feq hc92).2) (by decide) (by decide) ?_
      show Steps p.tables e below (T90.setTop (mkF m 11 #[.val (.ref a)] [])) tgt
      refine XS.iconst H hx rfl (hb hby d_prog_85_method_4_11) ?_
      exact kt
    clear H
    exact Jvm.OwnN.Aim.retN (t := .boolean) P91 hx hlk hret (by simp) (hb hby d_prog_85_method_4_12) (by decide) (by decide) ⟨(by rw [if_neg hc92]; rfl), rfl⟩
theorem own_pos (x : Int32) : ¬ (((x &&& (1073741823 : Int32)) + (1 : Int32)) < (1 : Int32)) := by
  have h := c_mask x 1073741823 30 (by decide) (by decide)
  have h2 := c_iadd (x &&& 1073741823) 1
  have r := rng32 ((x &&& 1073741823) + 1)
  have e1 : (1 : Int32).toInt = 1 := by decide
  rw [Int32.lt_iff_toInt_lt, e1]
  rw [e1] at h2
  have : ((2 ^ 30 : Nat) : Int) = 1073741824 := by decide
  rw [this] at h
  omega
theorem pd__28_5bC_29V : parseMethodDescriptor "([C)V" = some ⟨[(.array .char)], none⟩ := by decide +kernel
theorem pd__28Ljava_2flang_2fString_3bI_29Lcom_2fexample_2fintruder_2fintruder_2fterm_2fTerm_24Nonce_3b : parseMethodDescriptor "(Ljava/lang/String;I)Lcom/example/intruder/intruder/term/Term$Nonce;" = some ⟨[(.object "java/lang/String"), .int], some (.object "com/example/intruder/intruder/term/Term$Nonce")⟩ := by decide +kernel
theorem pd__28_29Z : parseMethodDescriptor "()Z" = some ⟨[], some .boolean⟩ := by decide +kernel
theorem pn_com_example_intruder_intruder_term_NonceByIntruderPinLaw : plainName "com/example/intruder/intruder/term/NonceByIntruderPinLaw" = true := by first | (simp [plainName, overriddenIn]; done) | decide +kernel
set_option maxRecDepth 65536 in
set_option maxHeartbeats 40000000 in
theorem own_law (l : Launch) (Z : State) (a0 : Array Value) (hw : ∀ d ∈ tables_1, d.before a0 Z = true) (p1 : Int32) (p2 : Int32) (p3 : Int32) (h0 : Heap) (n0 : Nat) (Z0 : n0 ≤ h0.size) (F0 : Old Z n0 h0) (G : Cmp Z) :
    Jvm.OwnN.Con l Z x code maxLocals ret room_1 n0 #[(.int p1), (.int p2), (.int p3)] h0 (fun v h => v = some (.int (1 : Int32)) ∧ Keep h0 h []) := by
  refine Jvm.OwnN.Con.intro (plainFor_of_name pn_com_example_intruder_intruder_term_NonceByIntruderPinLaw) ?_
  intro p e s m below meth c s₁ hx hby hml hret hnm hown hlk hZ P0
  refine Jvm.OwnN.Aim.cast (by first | (simp [entryFrame, mkF, argsToLocals, Value.category, maxLocals]; done) | rfl : entryFrame m #[(.int p1), (.int p2), (.int p3)] maxLocals = (mkF m 0 #[.val (.int p1), .val (.int p2), .val (.int p3), .unset, .unset, .unset, .unset, .unset, .unset, .unset] [])) ?_
  have H := P0.here
  refine Jvm.OwnN.Aim.of (T := s₁) (T' := s₁) (g := (mkF m 0 #[.val (.int p1), .val (.int p2), .val (.int p3), .unset, .unset, .unset, .unset, .unset, .unset, .unset] [])) (g' := (mkF m 1 #[.val (.int p1), .val (.int p2), .val (.int p3), .unset, .unset, .unset, .unset, .unset, .unset, .unset] [(.int (1 : Int32))])) (fun tgt kt => ?_) ?_
  · show Steps p.tables e below (s₁.setTop (mkF m 0 #[.val (.int p1), .val (.int p2), .val (.int p3), .unset, .unset, .unset, .unset, .unset, .unset, .unset] [])) tgt
    refine XS.iconst H hx rfl (hb hby at_0) ?_
    exact kt
  clear H
  refine Jvm.OwnN.Aim.newP (pc := 1) (Ls := #[.val (.int p1), .val (.int p2), .val (.int p3), .unset, .unset, .unset, .unset, .unset, .unset, .unset]) (st := []) (z := (1 : Int32)) P0 hx hZ (hw _ (List.mem_of_getElem? (i := 0) rfl)) (hb hby at_1) (by decide) (cap := 1) (by decide) (by decide) (by decide) (by decide) ?_
  intro T93 h94 k95 b96 g100 P97 E98 V99
  have K102 : Keep h0 h94 [] := (Keep.refl _ _).ext E98
  have K103 : Keep h0 h94 [] := (Keep.refl h0 []).trans K102 all0
  have V104 : Arv Z h94 b96 k95 .char (1 : Int32) [(.int (0 : Int32))] (.int (0 : Int32)) := V99.pad (pad_rep [] (.int (0 : Int32)) 1)
  show Jvm.OwnN.Aim p e below s _ _ n0 _ T93 (mkF m 3 #[.val (.int p1), .val (.int p2), .val (.int p3), .unset, .unset, .unset, .unset, .unset, .unset, .unset] [(.ref b96)])
  have H := P97.here
  refine Jvm.OwnN.Aim.of (T := T93) (T' := T93) (g := (mkF m 3 #[.val (.int p1), .val (.int p2), .val (.int p3), .unset, .unset, .unset, .unset, .unset, .unset, .unset] [(.ref b96)])) (g' := (mkF m 12 #[.val (.int p1), .val (.int p2), .val (.int p3), .val (.ref b96), .unset, .unset, .unset, .unset, .unset, .unset] [(.int ((p3 &&& (255 : Int32)).toUInt32.toUInt16.toUInt32.toInt32)), (.int (0 : Int32)), (.ref b96)])) (fun tgt kt => ?_) ?_
  · show Steps p.tables e below (T93.setTop (mkF m 3 #[.val (.int p1), .val (.int p2), .val (.int p3), .unset, .unset, .unset, .unset, .unset, .unset, .unset] [(.ref b96)])) tgt
    refine XS.astoreN H hx rfl (hb hby at_3) rfl rfl (l' := #[.val (.int p1), .val (.int p2), .val (.int p3), .val (.ref b96), .unset, .unset, .unset, .unset, .unset, .unset]) rfl ?_
    show Steps p.tables e below (T93.setTop (mkF m 4 #[.val (.int p1), .val (.int p2), .val (.int p3), .val (.ref b96), .unset, .unset, .unset, .unset, .unset, .unset] [])) tgt
    refine XS.aloadN H hx rfl (hb hby at_4) rfl rfl ?_
    show Steps p.tables e below (T93.setTop (mkF m 5 #[.val (.int p1), .val (.int p2), .val (.int p3), .val (.ref b96), .unset, .unset, .unset, .unset, .unset, .unset] [(.ref b96)])) tgt
    refine XS.iconst H hx rfl (hb hby at_5) ?_
    show Steps p.tables e below (T93.setTop (mkF m 6 #[.val (.int p1), .val (.int p2), .val (.int p3), .val (.ref b96), .unset, .unset, .unset, .unset, .unset, .unset] [(.int (0 : Int32)), (.ref b96)])) tgt
    refine XS.iloadN H hx rfl (hb hby at_6) rfl ?_
    show Steps p.tables e below (T93.setTop (mkF m 7 #[.val (.int p1), .val (.int p2), .val (.int p3), .val (.ref b96), .unset, .unset, .unset, .unset, .unset, .unset] [(.int p3), (.int (0 : Int32)), (.ref b96)])) tgt
    refine XS.sipush H hx rfl (hb hby at_7) ?_
    show Steps p.tables e below (T93.setTop (mkF m 10 #[.val (.int p1), .val (.int p2), .val (.int p3), .val (.ref b96), .unset, .unset, .unset, .unset, .unset, .unset] [(.int (255 : Int32)), (.int p3), (.int (0 : Int32)), (.ref b96)])) tgt
    refine XS.iand H hx rfl (hb hby at_10) rfl ?_
    show Steps p.tables e below (T93.setTop (mkF m 11 #[.val (.int p1), .val (.int p2), .val (.int p3), .val (.ref b96), .unset, .unset, .unset, .unset, .unset, .unset] [(.int (p3 &&& (255 : Int32))), (.int (0 : Int32)), (.ref b96)])) tgt
    refine XS.i2c H hx rfl (hb hby at_11) rfl ?_
    exact kt
  clear H
  refine Jvm.OwnN.Aim.stC (pc := 12) (Ls := #[.val (.int p1), .val (.int p2), .val (.int p3), .val (.ref b96), .unset, .unset, .unset, .unset, .unset, .unset]) (st := []) (x := ((p3 &&& (255 : Int32)).toUInt32.toUInt16.toUInt32.toInt32)) (j := (0 : Int32)) P97 hx hZ V104 ⟨by decide, by decide⟩ 0 rfl (Nat.le_of_ble_eq_true rfl) (hb hby at_12) (Nat.le_trans Z0 (Nat.le_of_eq g100.symm)) ?_
  intro T105 h106 P107 K108 V109
  replace V109 : Arv Z h106 b96 k95 .char (1 : Int32) [(.int (nar .char ((p3 &&& (255 : Int32)).toUInt32.toUInt16.toUInt32.toInt32)))] (.int (0 : Int32)) := V109
  have K110 : Keep h0 h106 [] := K103.trans K108 (allS (Or.inr (Nat.le_trans (Nat.le_refl _) (Nat.le_of_eq g100.symm))) all0)
  show Jvm.OwnN.Aim p e below s _ _ n0 _ T105 (mkF m 13 #[.val (.int p1), .val (.int p2), .val (.int p3), .val (.ref b96), .unset, .unset, .unset, .unset, .unset, .unset] [])
  refine Jvm.OwnN.Aim.newO (pc := 13) (Ls := #[.val (.int p1), .val (.int p2), .val (.int p3), .val (.ref b96), .unset, .unset, .unset, .unset, .unset, .unset]) (st := []) P107 hx hZ hown (hw _ (List.mem_of_getElem? (i := 1) rfl)) (hw _ (List.mem_of_getElem? (i := 2) rfl)) (hw _ (List.mem_of_getElem? (i := 3) rfl)) (hb hby at_13) (by decide) (by decide) ?_
  intro T111 h112 b113 g119 P114 E115 E116 D117 U118
  have K120 : Keep h106 h112 [] := (Keep.refl _ _).ext E115
  have K121 : Keep h0 h112 [] := K110.trans K120 all0
  have F122 : Fld Z h112 b113 "java/lang/String" "coder" "B" (.int (0 : Int32)) := D117 (Or.inr (hw _ (List.mem_of_getElem? (i := 27) rfl))) (ty := .byte) (by decide)
  have F123 : Fld Z h112 b113 "java/lang/String" "value" "[B" .null := D117 (Or.inr (hw _ (List.mem_of_getElem? (i := 29) rfl))) (ty := (.array .byte)) (by decide)
  show Jvm.OwnN.Aim p e below s _ _ n0 _ T111 (mkF m 16 #[.val (.int p1), .val (.int p2), .val (.int p3), .val (.ref b96), .unset, .unset, .unset, .unset, .unset, .unset] [(.ref b113)])
  have H := P114.here
  refine Jvm.OwnN.Aim.of (T := T111) (T' := T111) (g := (mkF m 16 #[.val (.int p1), .val (.int p2), .val (.int p3), .val (.ref b96), .unset, .unset, .unset, .unset, .unset, .unset] [(.ref b113)])) (g' := (mkF m 18 #[.val (.int p1), .val (.int p2), .val (.int p3), .val (.ref b96), .unset, .unset, .unset, .unset, .unset, .unset] [(.ref b96), (.ref b113), (.ref b113)])) (fun tgt kt => ?_) ?_
  · show Steps p.tables e below (T111.setTop (mkF m 16 #[.val (.int p1), .val (.int p2), .val (.int p3), .val (.ref b96), .unset, .unset, .unset, .unset, .unset, .unset] [(.ref b113)])) tgt
    refine XS.dup H hx rfl (hb hby at_16) rfl rfl ?_
    show Steps p.tables e below (T111.setTop (mkF m 17 #[.val (.int p1), .val (.int p2), .val (.int p3), .val (.ref b96), .unset, .unset, .unset, .unset, .unset, .unset] [(.ref b113), (.ref b113)])) tgt
    refine XS.aloadN H hx rfl (hb hby at_17) rfl rfl ?_
    exact kt
  clear H
  have F124 : Arv Z h112 b96 k95 .char (1 : Int32) [(.int (nar .char ((p3 &&& (255 : Int32)).toUInt32.toUInt16.toUInt32.toInt32)))] (.int (0 : Int32)) := (V109.keep K120 nin0)
  have F125 : Old Z n0 h112 := (((F0.keep K102 all0).keep K108 (allS (Nat.le_trans Z0 (Nat.le_of_eq g100.symm)) all0)).keep K120 all0)
  refine Jvm.OwnN.Aim.callC (pc := 18) (Ls := #[.val (.int p1), .val (.int p2), .val (.int p3), .val (.ref b96), .unset, .unset, .unset, .unset, .unset, .unset]) (argsL := [(.ref b96)]) (rest := [(.ref b113)]) P114 hx hZ hml hown rfl (hw _ (List.mem_of_getElem? (i := 4) rfl)) (hw _ (List.mem_of_getElem? (i := 5) rfl)) (hw _ (List.mem_of_getElem? (i := 6) rfl)) (by decide) (own_newStr (W := 1) hZ (by decide) (by decide) hw b113 b96 k95 ([(nar .char ((p3 &&& (255 : Int32)).toUInt32.toUInt16.toUInt32.toInt32))] : List Int32) (1 : Int32) (.int (0 : Int32)) (.null) (.int (0 : Int32)) 1 h112 n0 (Nat.le_trans Z0 (K121.1)) (Nat.le_trans (Nat.le_trans Z0 (K110.1)) (Nat.le_of_eq g119.symm)) E116 F123 F122 F124 F125 rfl rfl (by decide) (by decide) (by intro c hc; simp only [List.mem_cons, List.not_mem_nil, or_false] at hc; rcases hc with rfl <;> exact own_c255 _) G) rfl pd__28_5bC_29V rfl (Nat.le_of_eq rfl) (hb hby at_18) (by decide) (by decide) ?_
  intro T126 h127 v130 P128 hQ129
  obtain ⟨t_133, kb_134, rfl, K135, g136, F137⟩ := hQ129
  have K138 : Keep h0 h127 [] := K121.trans K135 (allS (Or.inr (Nat.le_trans (K110.1) (Nat.le_of_eq g119.symm))) all0)
  show Jvm.OwnN.Aim p e below s _ _ n0 _ T126 (mkF m 21 #[.val (.int p1), .val (.int p2), .val (.int p3), .val (.ref b96), .unset, .unset, .unset, .unset, .unset, .unset] [(.ref b113)])
  have H := P128.here
  refine Jvm.OwnN.Aim.of (T := T126) (T' := T126) (g := (mkF m 21 #[.val (.int p1), .val (.int p2), .val (.int p3), .val (.ref b96), .unset, .unset, .unset, .unset, .unset, .unset] [(.ref b113)])) (g' := (mkF m 24 #[.val (.int p1), .val (.int p2), .val (.int p3), .val (.ref b96), .val (.ref b113), .unset, .unset, .unset, .unset, .unset] [(.int p2)])) (fun tgt kt => ?_) ?_
  · show Steps p.tables e below (T126.setTop (mkF m 21 #[.val (.int p1), .val (.int p2), .val (.int p3), .val (.ref b96), .unset, .unset, .unset, .unset, .unset, .unset] [(.ref b113)])) tgt
    refine XS.astore H hx rfl (hb hby at_21) rfl rfl (l' := #[.val (.int p1), .val (.int p2), .val (.int p3), .val (.ref b96), .val (.ref b113), .unset, .unset, .unset, .unset, .unset]) rfl ?_
    show Steps p.tables e below (T126.setTop (mkF m 23 #[.val (.int p1), .val (.int p2), .val (.int p3), .val (.ref b96), .val (.ref b113), .unset, .unset, .unset, .unset, .unset] [])) tgt
    refine XS.iloadN H hx rfl (hb hby at_23) rfl ?_
    exact kt
  clear H
  refine Jvm.OwnN.Aim.ldcI P128 hx hZ hown (hw _ (List.mem_of_getElem? (i := 30) rfl)) (hb hby at_24) ?_
  show Jvm.OwnN.Aim p e below s _ _ n0 _ T126 (mkF m 26 #[.val (.int p1), .val (.int p2), .val (.int p3), .val (.ref b96), .val (.ref b113), .unset, .unset, .unset, .unset, .unset] [(.int (1073741823 : Int32)), (.int p2)])
  have H := P128.here
  refine Jvm.OwnN.Aim.of (T := T126) (T' := T126) (g := (mkF m 26 #[.val (.int p1), .val (.int p2), .val (.int p3), .val (.ref b96), .val (.ref b113), .unset, .unset, .unset, .unset, .unset] [(.int (1073741823 : Int32)), (.int p2)])) (g' := (mkF m 32 #[.val (.int p1), .val (.int p2), .val (.int p3), .val (.ref b96), .val (.ref b113), .val (.int ((p2 &&& (1073741823 : Int32)) + (1 : Int32))), .unset, .unset, .unset, .unset] [(.int p1)])) (fun tgt kt => ?_) ?_
  · show Steps p.tables e below (T126.setTop (mkF m 26 #[.val (.int p1), .val (.int p2), .val (.int p3), .val (.ref b96), .val (.ref b113), .unset, .unset, .unset, .unset, .unset] [(.int (1073741823 : Int32)), (.int p2)])) tgt
    refine XS.iand H hx rfl (hb hby at_26) rfl ?_
    show Steps p.tables e below (T126.setTop (mkF m 27 #[.val (.int p1), .val (.int p2), .val (.int p3), .val (.ref b96), .val (.ref b113), .unset, .unset, .unset, .unset, .unset] [(.int (p2 &&& (1073741823 : Int32)))])) tgt
    refine XS.iconst H hx rfl (hb hby at_27) ?_
    show Steps p.tables e below (T126.setTop (mkF m 28 #[.val (.int p1), .val (.int p2), .val (.int p3), .val (.ref b96), .val (.ref b113), .unset, .unset, .unset, .unset, .unset] [(.int (1 : Int32)), (.int (p2 &&& (1073741823 : Int32)))])) tgt
    refine XS.iadd H hx rfl (hb hby at_28) rfl ?_
    show Steps p.tables e below (T126.setTop (mkF m 29 #[.val (.int p1), .val (.int p2), .val (.int p3), .val (.ref b96), .val (.ref b113), .unset, .unset, .unset, .unset, .unset] [(.int ((p2 &&& (1073741823 : Int32)) + (1 : Int32)))])) tgt
    refine XS.istore H hx rfl (hb hby at_29) rfl (l' := #[.val (.int p1), .val (.int p2), .val (.int p3), .val (.ref b96), .val (.ref b113), .val (.int ((p2 &&& (1073741823 : Int32)) + (1 : Int32))), .unset, .unset, .unset, .unset]) rfl ?_
    show Steps p.tables e below (T126.setTop (mkF m 31 #[.val (.int p1), .val (.int p2), .val (.int p3), .val (.ref b96), .val (.ref b113), .val (.int ((p2 &&& (1073741823 : Int32)) + (1 : Int32))), .unset, .unset, .unset, .unset] [])) tgt
    refine XS.iloadN H hx rfl (hb hby at_31) rfl ?_
    exact kt
  clear H
  by_cases hc139 : p1 = (0 : Int32)
  · -- p1 = (0 : Int32)
    have H := P128.here
    refine Jvm.OwnN.Aim.of (T := T126) (T' := T126) (g := (mkF m 32 #[.val (.int p1), .val (.int p2), .val (.int p3), .val (.ref b96), .val (.ref b113), .val (.int ((p2 &&& (1073741823 : Int32)) + (1 : Int32))), .unset, .unset, .unset, .unset] [(.int p1)])) (g' := (mkF m 55 #[.val (.int p1), .val (.int p2), .val (.int p3), .val (.ref b96), .val (.ref b113), .val (.int ((p2 &&& (1073741823 : Int32)) + (1 : Int32))), .val (.int (1 : Int32)), .val (.int ((p2 &&& (1073741823 : Int32)) + (1 : Int32))), .unset, .unset] [])) (fun tgt kt => ?_) ?_
    · show Steps p.tables e below (T126.setTop (mkF m 32 #[.val (.int p1), .val (.int p2), .val (.int p3), .val (.ref b96), .val (.ref b113), .val (.int ((p2 &&& (1073741823 : Int32)) + (1 : Int32))), .unset, .unset, .unset, .unset] [(.int p1)])) tgt
      refine XS.ifNo H hx rfl (hb hby at_32) rfl ((if0 _ _).trans (teq hc139).2) ?_
      show Steps p.tables e below (T126.setTop (mkF m 35 #[.val (.int p1), .val (.int p2), .val (.int p3), .val (.ref b96), .val (.ref b113), .val (.int ((p2 &&& (1073741823 : Int32)) + (1 : Int32))), .unset, .unset, .unset, .unset] [])) tgt
      refine XS.iconst H hx rfl (hb hby at_35) ?_
      show Steps p.tables e below (T126.setTop (mkF m 36 #[.val (.int p1), .val (.int p2), .val (.int p3), .val (.ref b96), .val (.ref b113), .val (.int ((p2 &&& (1073741823 : Int32)) + (1 : Int32))), .unset, .unset, .unset, .unset] [(.int (1 : Int32))])) tgt
      refine XS.goto H hx rfl (pc0 := 36) (pc' := 40) rfl (hb hby at_36) (by decide) (by decide) ?_
      show Steps p.tables e below (T126.setTop (mkF m 40 #[.val (.int p1), .val (.int p2), .val (.int p3), .val (.ref b96), .val (.ref b113), .val (.int ((p2 &&& (1073741823 : Int32)) + (1 : Int32))), .unset, .unset, .unset, .unset] [(.int (1 : Int32))])) tgt
      refine XS.istore H hx rfl (hb hby at_40) rfl (l' := #[.val (.int p1), .val (.int p2), .val (.int p3), .val (.ref b96), .val (.ref b113), .val (.int ((p2 &&& (1073741823 : Int32)) + (1 : Int32))), .val (.int (1 : Int32)), .unset, .unset, .unset]) rfl ?_
      show Steps p.tables e below (T126.setTop (mkF m 42 #[.val (.int p1), .val (.int p2), .val (.int p3), .val (.ref b96), .val (.ref b113), .val (.int ((p2 &&& (1073741823 : Int32)) + (1 : Int32))), .val (.int (1 : Int32)), .unset, .unset, .unset] [])) tgt
      refine XS.iload H hx rfl (hb hby at_42) rfl ?_
      show Steps p.tables e below (T126.setTop (mkF m 44 #[.val (.int p1), .val (.int p2), .val (.int p3), .val (.ref b96), .val (.ref b113), .val (.int ((p2 &&& (1073741823 : Int32)) + (1 : Int32))), .val (.int (1 : Int32)), .unset, .unset, .unset] [(.int (1 : Int32))])) tgt
      refine XS.ifNo H hx rfl (hb hby at_44) rfl ((if0 _ _).trans (feq (by decide)).1) ?_
      show Steps p.tables e below (T126.setTop (mkF m 47 #[.val (.int p1), .val (.int p2), .val (.int p3), .val (.ref b96), .val (.ref b113), .val (.int ((p2 &&& (1073741823 : Int32)) + (1 : Int32))), .val (.int (1 : Int32)), .unset, .unset, .unset] [])) tgt
      refine XS.iload H hx rfl (hb hby at_47) rfl ?_
      show Steps p.tables e below (T126.setTop (mkF m 49 #[.val (.int p1), .val (.int p2), .val (.int p3), .val (.ref b96), .val (.ref b113), .val (.int ((p2 &&& (1073741823 : Int32)) + (1 : Int32))), .val (.int (1 : Int32)), .unset, .unset, .unset] [(.int ((p2 &&& (1073741823 : Int32)) + (1 : Int32)))])) tgt
      refine XS.goto H hx rfl (pc0 := 49) (pc' := 53) rfl (hb hby at_49) (by decide) (by decide) ?_
      show Steps p.tables e below (T126.setTop (mkF m 53 #[.val (.int p1), .val (.int p2), .val (.int p3), .val (.ref b96), .val (.ref b113), .val (.int ((p2 &&& (1073741823 : Int32)) + (1 : Int32))), .val (.int (1 : Int32)), .unset, .unset, .unset] [(.int ((p2 &&& (1073741823 : Int32)) + (1 : Int32)))])) tgt
      refine XS.istore H hx rfl (hb hby at_53) rfl (l' := #[.val (.int p1), .val (.int p2), .val (.int p3), .val (.ref b96), .val (.ref b113), .val (.int ((p2 &&& (1073741823 : Int32)) + (1 : Int32))), .val (.int (1 : Int32)), .val (.int ((p2 &&& (1073741823 : Int32)) + (1 : Int32))), .unset, .unset]) rfl ?_
      exact kt
    clear H
    refine Jvm.OwnN.Aim.newO (pc := 55) (Ls := #[.val (.int p1), .val (.int p2), .val (.int p3), .val (.ref b96), .val (.ref b113), .val (.int ((p2 &&& (1073741823 : Int32)) + (1 : Int32))), .val (.int (1 : Int32)), .val (.int ((p2 &&& (1073741823 : Int32)) + (1 : Int32))), .unset, .unset]) (st := []) P128 hx hZ hown (hw _ (List.mem_of_getElem? (i := 31) rfl)) (hw _ (List.mem_of_getElem? (i := 32) rfl)) (hw _ (List.mem_of_getElem? (i := 33) rfl)) (hb hby at_55) (by decide) (by decide) ?_
    intro T140 h141 b142 g148 P143 E144 E145 D146 U147
    have K149 : Keep h127 h141 [] := (Keep.refl _ _).ext E144
    have K150 : Keep h0 h141 [] := K138.trans K149 all0
    have F151 : Fld Z h141 b142 "com/example/intruder/intruder/term/Term$Nonce" "name" "Ljava/lang/String;" .null := D146 (Or.inr (hw _ (List.mem_of_getElem? (i := 44) rfl))) (ty := (.object "java/lang/String")) (by decide)
    have F152 : Fld Z h141 b142 "com/example/intruder/intruder/term/Term$Nonce" "run" "I" (.int (0 : Int32)) := D146 (Or.inr (hw _ (List.mem_of_getElem? (i := 46) rfl))) (ty := .int) (by decide)
    have F153 : Fld Z h141 b142 "com/example/intruder/intruder/term/Term$Nonce" "serial" "I" (.int (0 : Int32)) := D146 (Or.inr (hw _ (List.mem_of_getElem? (i := 48) rfl))) (ty := .int) (by decide)
    show Jvm.OwnN.Aim p e below s _ _ n0 _ T140 (mkF m 58 #[.val (.int p1), .val (.int p2), .val (.int p3), .val (.ref b96), .val (.ref b113), .val (.int ((p2 &&& (1073741823 : Int32)) + (1 : Int32))), .val (.int (1 : Int32)), .val (.int ((p2 &&& (1073741823 : Int32)) + (1 : Int32))), .unset, .unset] [(.ref b142)])
    have H := P143.here
    refine Jvm.OwnN.Aim.of (T := T140) (T' := T140) (g := (mkF m 58 #[.val (.int p1), .val (.int p2), .val (.int p3), .val (.ref b96), .val (.ref b113), .val (.int ((p2 &&& (1073741823 : Int32)) + (1 : Int32))), .val (.int (1 : Int32)), .val (.int ((p2 &&& (1073741823 : Int32)) + (1 : Int32))), .unset, .unset] [(.ref b142)])) (g' := (mkF m 64 #[.val (.int p1), .val (.int p2), .val (.int p3), .val (.ref b96), .val (.ref b113), .val (.int ((p2 &&& (1073741823 : Int32)) + (1 : Int32))), .val (.int (1 : Int32)), .val (.int ((p2 &&& (1073741823 : Int32)) + (1 : Int32))), .unset, .unset] [(.int ((p2 &&& (1073741823 : Int32)) + (1 : Int32))), (.int p1), (.ref b113), (.ref b142), (.ref b142)])) (fun tgt kt => ?_) ?_
    · show Steps p.tables e below (T140.setTop (mkF m 58 #[.val (.int p1), .val (.int p2), .val (.int p3), .val (.ref b96), .val (.ref b113), .val (.int ((p2 &&& (1073741823 : Int32)) + (1 : Int32))), .val (.int (1 : Int32)), .val (.int ((p2 &&& (1073741823 : Int32)) + (1 : Int32))), .unset, .unset] [(.ref b142)])) tgt
      refine XS.dup H hx rfl (hb hby at_58) rfl rfl ?_
      show Steps p.tables e below (T140.setTop (mkF m 59 #[.val (.int p1), .val (.int p2), .val (.int p3), .val (.ref b96), .val (.ref b113), .val (.int ((p2 &&& (1073741823 : Int32)) + (1 : Int32))), .val (.int (1 : Int32)), .val (.int ((p2 &&& (1073741823 : Int32)) + (1 : Int32))), .unset, .unset] [(.ref b142), (.ref b142)])) tgt
      refine XS.aload H hx rfl (hb hby at_59) rfl rfl ?_
      show Steps p.tables e below (T140.setTop (mkF m 61 #[.val (.int p1), .val (.int p2), .val (.int p3), .val (.ref b96), .val (.ref b113), .val (.int ((p2 &&& (1073741823 : Int32)) + (1 : Int32))), .val (.int (1 : Int32)), .val (.int ((p2 &&& (1073741823 : Int32)) + (1 : Int32))), .unset, .unset] [(.ref b113), (.ref b142), (.ref b142)])) tgt
      refine XS.iloadN H hx rfl (hb hby at_61) rfl ?_
      show Steps p.tables e below (T140.setTop (mkF m 62 #[.val (.int p1), .val (.int p2), .val (.int p3), .val (.ref b96), .val (.ref b113), .val (.int ((p2 &&& (1073741823 : Int32)) + (1 : Int32))), .val (.int (1 : Int32)), .val (.int ((p2 &&& (1073741823 : Int32)) + (1 : Int32))), .unset, .unset] [(.int p1), (.ref b113), (.ref b142), (.ref b142)])) tgt
      refine XS.iload H hx rfl (hb hby at_62) rfl ?_
      exact kt
    clear H
    refine Jvm.OwnN.Aim.callC (pc := 64) (Ls := #[.val (.int p1), .val (.int p2), .val (.int p3), .val (.ref b96), .val (.ref b113), .val (.int ((p2 &&& (1073741823 : Int32)) + (1 : Int32))), .val (.int (1 : Int32)), .val (.int ((p2 &&& (1073741823 : Int32)) + (1 : Int32))), .unset, .unset]) (argsL := [(.ref b113), (.int p1), (.int ((p2 &&& (1073741823 : Int32)) + (1 : Int32)))]) (rest := [(.ref b142)]) P143 hx hZ hml hown rfl (hw _ (List.mem_of_getElem? (i := 34) rfl)) (hw _ (List.mem_of_getElem? (i := 35) rfl)) (hw _ (List.mem_of_getElem? (i := 36) rfl)) (by decide) (Jvm.OwnN.Con.back (W := 1) (own_ninit l Z a0 hw b142 b113 p1 ((p2 &&& (1073741823 : Int32)) + (1 : Int32)) (.null) (.int (0 : Int32)) (.int (0 : Int32)) h141 n0 (Nat.le_trans Z0 (K150.1)) (Nat.le_trans (Nat.le_trans Z0 (K138.1)) (Nat.le_of_eq g148.symm)) E145 F151 F152 F153 (own_pos _) (Or.inl hc139)) hZ (hw _ (List.mem_of_getElem? (i := 36) rfl)) (hw _ (List.mem_of_getElem? (i := 33) rfl)) (by decide) (by decide)) rfl pd__28Ljava_2flang_2fString_3bII_29V rfl (Nat.le_of_eq rfl) (hb hby at_64) (by decide) (by decide) ?_
    intro T154 h155 v158 P156 hQ157
    obtain ⟨rfl, K161, F162, F163⟩ := hQ157
    have K164 : Keep h0 h155 [] := K150.trans K161 (allS (Or.inr (Nat.le_trans (K138.1) (Nat.le_of_eq g148.symm))) all0)
    show Jvm.OwnN.Aim p e below s _ _ n0 _ T154 (mkF m 67 #[.val (.int p1), .val (.int p2), .val (.int p3), .val (.ref b96), .val (.ref b113), .val (.int ((p2 &&& (1073741823 : Int32)) + (1 : Int32))), .val (.int (1 : Int32)), .val (.int ((p2 &&& (1073741823 : Int32)) + (1 : Int32))), .unset, .unset] [(.ref b142)])
    have H := P156.here
    refine Jvm.OwnN.Aim.of (T := T154) (T' := T154) (g := (mkF m 67 #[.val (.int p1), .val (.int p2), .val (.int p3), .val (.ref b96), .val (.ref b113), .val (.int ((p2 &&& (1073741823 : Int32)) + (1 : Int32))), .val (.int (1 : Int32)), .val (.int ((p2 &&& (1073741823 : Int32)) + (1 : Int32))), .unset, .unset] [(.ref b142)])) (g' := (mkF m 73 #[.val (.int p1), .val (.int p2), .val (.int p3), .val (.ref b96), .val (.ref b113), .val (.int ((p2 &&& (1073741823 : Int32)) + (1 : Int32))), .val (.int (1 : Int32)), .val (.int ((p2 &&& (1073741823 : Int32)) + (1 : Int32))), .val (.ref b142), .unset] [(.int ((p2 &&& (1073741823 : Int32)) + (1 : Int32))), (.ref b113)])) (fun tgt kt => ?_) ?_
    · show Steps p.tables e below (T154.setTop (mkF m 67 #[.val (.int p1), .val (.int p2), .val (.int p3), .val (.ref b96), .val (.ref b113), .val (.int ((p2 &&& (1073741823 : Int32)) + (1 : Int32))), .val (.int (1 : Int32)), .val (.int ((p2 &&& (1073741823 : Int32)) + (1 : Int32))), .unset, .unset] [(.ref b142)])) tgt
      refine XS.astore H hx rfl (hb hby at_67) rfl rfl (l' := #[.val (.int p1), .val (.int p2), .val (.int p3), .val (.ref b96), .val (.ref b113), .val (.int ((p2 &&& (1073741823 : Int32)) + (1 : Int32))), .val (.int (1 : Int32)), .val (.int ((p2 &&& (1073741823 : Int32)) + (1 : Int32))), .val (.ref b142), .unset]) rfl ?_
      show Steps p.tables e below (T154.setTop (mkF m 69 #[.val (.int p1), .val (.int p2), .val (.int p3), .val (.ref b96), .val (.ref b113), .val (.int ((p2 &&& (1073741823 : Int32)) + (1 : Int32))), .val (.int (1 : Int32)), .val (.int ((p2 &&& (1073741823 : Int32)) + (1 : Int32))), .val (.ref b142), .unset] [])) tgt
      refine XS.aload H hx rfl (hb hby at_69) rfl rfl ?_
      show Steps p.tables e below (T154.setTop (mkF m 71 #[.val (.int p1), .val (.int p2), .val (.int p3), .val (.ref b96), .val (.ref b113), .val (.int ((p2 &&& (1073741823 : Int32)) + (1 : Int32))), .val (.int (1 : Int32)), .val (.int ((p2 &&& (1073741823 : Int32)) + (1 : Int32))), .val (.ref b142), .unset] [(.ref b113)])) tgt
      refine XS.iload H hx rfl (hb hby at_71) rfl ?_
      exact kt
    clear H
    refine Jvm.OwnN.Aim.callS (pc := 73) (Ls := #[.val (.int p1), .val (.int p2), .val (.int p3), .val (.ref b96), .val (.ref b113), .val (.int ((p2 &&& (1073741823 : Int32)) + (1 : Int32))), .val (.int (1 : Int32)), .val (.int ((p2 &&& (1073741823 : Int32)) + (1 : Int32))), .val (.ref b142), .unset]) (argsL := [(.ref b113), (.int ((p2 &&& (1073741823 : Int32)) + (1 : Int32)))]) (rest := []) P156 hx hZ hml hown (hw _ (List.mem_of_getElem? (i := 49) rfl)) (hw _ (List.mem_of_getElem? (i := 50) rfl)) (hw _ (List.mem_of_getElem? (i := 33) rfl)) (hw _ (List.mem_of_getElem? (i := 51) rfl)) (by decide) (Jvm.OwnN.Con.back (W := 0) (own_ofi l Z a0 hw b113 ((p2 &&& (1073741823 : Int32)) + (1 : Int32)) h155 n0 (Nat.le_trans Z0 (K164.1)) (own_pos _)) hZ (hw _ (List.mem_of_getElem? (i := 51) rfl)) (hw _ (List.mem_of_getElem? (i := 33) rfl)) (by decide) (by decide)) rfl pd__28Ljava_2flang_2fString_3bI_29Lcom_2fexample_2fintruder_2fintruder_2fterm_2fTerm_24Nonce_3b rfl (Nat.le_of_eq rfl) (hb hby at_73) (by decide) (by decide) ?_
    intro T165 h166 v169 P167 hQ168
    obtain ⟨b_172, rfl, K173, g174, F175, F176⟩ := hQ168
    have K177 : Keep h0 h166 [] := K164.trans K173 all0
    show Jvm.OwnN.Aim p e below s _ _ n0 _ T165 (mkF m 76 #[.val (.int p1), .val (.int p2), .val (.int p3), .val (.ref b96), .val (.ref b113), .val (.int ((p2 &&& (1073741823 : Int32)) + (1 : Int32))), .val (.int (1 : Int32)), .val (.int ((p2 &&& (1073741823 : Int32)) + (1 : Int32))), .val (.ref b142), .unset] [(.ref b_172)])
    have H := P167.here
    refine Jvm.OwnN.Aim.of (T := T165) (T' := T165) (g := (mkF m 76 #[.val (.int p1), .val (.int p2), .val (.int p3), .val (.ref b96), .val (.ref b113), .val (.int ((p2 &&& (1073741823 : Int32)) + (1 : Int32))), .val (.int (1 : Int32)), .val (.int ((p2 &&& (1073741823 : Int32)) + (1 : Int32))), .val (.ref b142), .unset] [(.ref b_172)])) (g' := (mkF m 80 #[.val (.int p1), .val (.int p2), .val (.int p3), .val (.ref b96), .val (.ref b113), .val (.int ((p2 &&& (1073741823 : Int32)) + (1 : Int32))), .val (.int (1 : Int32)), .val (.int ((p2 &&& (1073741823 : Int32)) + (1 : Int32))), .val (.ref b142), .val (.ref b_172)] [(.ref b142)])) (fun tgt kt => ?_) ?_
    · show Steps p.tables e below (T165.setTop (mkF m 76 #[.val (.int p1), .val (.int p2), .val (.int p3), .val (.ref b96), .val (.ref b113), .val (.int ((p2 &&& (1073741823 : Int32)) + (1 : Int32))), .val (.int (1 : Int32)), .val (.int ((p2 &&& (1073741823 : Int32)) + (1 : Int32))), .val (.ref b142), .unset] [(.ref b_172)])) tgt
      refine XS.astore H hx rfl (hb hby at_76) rfl rfl (l' := #[.val (.int p1), .val (.int p2), .val (.int p3), .val (.ref b96), .val (.ref b113), .val (.int ((p2 &&& (1073741823 : Int32)) + (1 : Int32))), .val (.int (1 : Int32)), .val (.int ((p2 &&& (1073741823 : Int32)) + (1 : Int32))), .val (.ref b142), .val (.ref b_172)]) rfl ?_
      show Steps p.tables e below (T165.setTop (mkF m 78 #[.val (.int p1), .val (.int p2), .val (.int p3), .val (.ref b96), .val (.ref b113), .val (.int ((p2 &&& (1073741823 : Int32)) + (1 : Int32))), .val (.int (1 : Int32)), .val (.int ((p2 &&& (1073741823 : Int32)) + (1 : Int32))), .val (.ref b142), .val (.ref b_172)] [])) tgt
      refine XS.aload H hx rfl (hb hby at_78) rfl rfl ?_
      exact kt
    clear H
    have F178 : Exa Z h166 b142 "com/example/intruder/intruder/term/Term$Nonce" := (F162.keep K173)
    have F179 : Fld Z h166 b142 "com/example/intruder/intruder/term/Term$Nonce" "run" "I" (.int p1) := (F163.keep K173 nin0)
    refine Jvm.OwnN.Aim.callV (pc := 80) (Ls := #[.val (.int p1), .val (.int p2), .val (.int p3), .val (.ref b96), .val (.ref b113), .val (.int ((p2 &&& (1073741823 : Int32)) + (1 : Int32))), .val (.int (1 : Int32)), .val (.int ((p2 &&& (1073741823 : Int32)) + (1 : Int32))), .val (.ref b142), .val (.ref b_172)]) (argsL := []) (rest := []) (y := (⟨"com/example/intruder/intruder/term/Term$Nonce", "byIntruder", "()Z"⟩ : MethodName)) (z := (⟨"com/example/intruder/intruder/term/Term$Nonce", "byIntruder", "()Z"⟩ : MethodName)) P167 hx hZ hml hown (hw _ (List.mem_of_getElem? (i := 54) rfl)) (hw _ (List.mem_of_getElem? (i := 55) rfl)) (notFace_of_selects (args := #[]) (mvT hZ (hw _ (List.mem_of_getElem? (i := 57) rfl)))) (hw _ (List.mem_of_getElem? (i := 57) rfl)) (hw _ (List.mem_of_getElem? (i := 56) rfl)) (by decide) F178 (Jvm.OwnN.Con.back (W := 0) (own_by l Z a0 hw b142 p1 h166 n0 (Nat.le_trans Z0 (K177.1)) F179) hZ (hw _ (List.mem_of_getElem? (i := 58) rfl)) (hw _ (List.mem_of_getElem? (i := 33) rfl)) (by decide) (by decide)) rfl pd__28_29Z rfl (Nat.le_of_eq rfl) (hb hby at_80) (by decide) (by decide) ?_
    intro T180 h181 v184 P182 hQ183
    obtain ⟨rfl, rfl⟩ := hQ183
    show Jvm.OwnN.Aim p e below s _ _ n0 _ T180 (mkF m 83 #[.val (.int p1), .val (.int p2), .val (.int p3), .val (.ref b96), .val (.ref b113), .val (.int ((p2 &&& (1073741823 : Int32)) + (1 : Int32))), .val (.int (1 : Int32)), .val (.int ((p2 &&& (1073741823 : Int32)) + (1 : Int32))), .val (.ref b142), .val (.ref b_172)] [(.int (if p1 = (0 : Int32) then (1 : Int32) else (0 : Int32)))])
    have H := P182.here
    refine Jvm.OwnN.Aim.of (T := T180) (T' := T180) (g := (mkF m 83 #[.val (.int p1), .val (.int p2), .val (.int p3), .val (.ref b96), .val (.ref b113), .val (.int ((p2 &&& (1073741823 : Int32)) + (1 : Int32))), .val (.int (1 : Int32)), .val (.int ((p2 &&& (1073741823 : Int32)) + (1 : Int32))), .val (.ref b142), .val (.ref b_172)] [(.int (if p1 = (0 : Int32) then (1 : Int32) else (0 : Int32)))])) (g' := (mkF m 90 #[.val (.int p1), .val (.int p2), .val (.int p3), .val (.ref b96), .val (.ref b113), .val (.int ((p2 &&& (1073741823 : Int32)) + (1 : Int32))), .val (.int (1 : Int32)), .val (.int ((p2 &&& (1073741823 : Int32)) + (1 : Int32))), .val (.ref b142), .val (.ref b_172)] [(.ref b_172)])) (fun tgt kt => ?_) ?_
    · show Steps p.tables e below (T180.setTop (mkF m 83 #[.val (.int p1), .val (.int p2), .val (.int p3), .val (.ref b96), .val (.ref b113), .val (.int ((p2 &&& (1073741823 : Int32)) + (1 : Int32))), .val (.int (1 : Int32)), .val (.int ((p2 &&& (1073741823 : Int32)) + (1 : Int32))), .val (.ref b142), .val (.ref b_172)] [(.int (if p1 = (0 : Int32) then (1 : Int32) else (0 : Int32)))])) tgt
      refine XS.iload H hx rfl (hb hby at_83) rfl ?_
      show Steps p.tables e below (T180.setTop (mkF m 85 #[.val (.int p1), .val (.int p2), .val (.int p3), .val (.ref b96), .val (.ref b113), .val (.int ((p2 &&& (1073741823 : Int32)) + (1 : Int32))), .val (.int (1 : Int32)), .val (.int ((p2 &&& (1073741823 : Int32)) + (1 : Int32))), .val (.ref b142), .val (.ref b_172)] [(.int (1 : Int32)), (.int (if p1 = (0 : Int32) then (1 : Int32) else (0 : Int32)))])) tgt
      refine XS.icmpNo H hx rfl (hb hby at_85) rfl (teq (if_pos hc139)).2 ?_
      show Steps p.tables e below (T180.setTop (mkF m 88 #[.val (.int p1), .val (.int p2), .val (.int p3), .val (.ref b96), .val (.ref b113), .val (.int ((p2 &&& (1073741823 : Int32)) + (1 : Int32))), .val (.int (1 : Int32)), .val (.int ((p2 &&& (1073741823 : Int32)) + (1 : Int32))), .val (.ref b142), .val (.ref b_172)] [])) tgt
      refine XS.aload H hx rfl (hb hby at_88) rfl rfl ?_
      exact kt
    clear H
    refine Jvm.OwnN.Aim.callV (pc := 90) (Ls := #[.val (.int p1), .val (.int p2), .val (.int p3), .val (.ref b96), .val (.ref b113), .val (.int ((p2 &&& (1073741823 : Int32)) + (1 : Int32))), .val (.int (1 : Int32)), .val (.int ((p2 &&& (1073741823 : Int32)) + (1 : Int32))), .val (.ref b142), .val (.ref b_172)]) (argsL := []) (rest := []) (y := (⟨"com/example/intruder/intruder/term/Term$Nonce", "byIntruder", "()Z"⟩ : MethodName)) (z := (⟨"com/example/intruder/intruder/term/Term$Nonce", "byIntruder", "()Z"⟩ : MethodName)) P182 hx hZ hml hown (hw _ (List.mem_of_getElem? (i := 54) rfl)) (hw _ (List.mem_of_getElem? (i := 55) rfl)) (notFace_of_selects (args := #[]) (mvT hZ (hw _ (List.mem_of_getElem? (i := 57) rfl)))) (hw _ (List.mem_of_getElem? (i := 57) rfl)) (hw _ (List.mem_of_getElem? (i := 56) rfl)) (by decide) F175 (Jvm.OwnN.Con.back (W := 0) (own_by l Z a0 hw b_172 (0 : Int32) h166 n0 (Nat.le_trans Z0 (K177.1)) F176) hZ (hw _ (List.mem_of_getElem? (i := 58) rfl)) (hw _ (List.mem_of_getElem? (i := 33) rfl)) (by decide) (by decide)) rfl pd__28_29Z rfl (Nat.le_of_eq rfl) (hb hby at_90) (by decide) (by decide) ?_
    intro T187 h188 v191 P189 hQ190
    obtain ⟨rfl, rfl⟩ := hQ190
    show Jvm.OwnN.Aim p e below s _ _ n0 _ T187 (mkF m 93 #[.val (.int p1), .val (.int p2), .val (.int p3), .val (.ref b96), .val (.ref b113), .val (.int ((p2 &&& (1073741823 : Int32)) + (1 : Int32))), .val (.int (1 : Int32)), .val (.int ((p2 &&& (1073741823 : Int32)) + (1 : Int32))), .val (.ref b142), .val (.ref b_172)] [(.int (if (0 : Int32) = (0 : Int32) then (1 : Int32) else (0 : Int32)))])
    have H := P189.here
    refine Jvm.OwnN.Aim.of (T := T187) (T' := T187) (g := (mkF m 93 #[.val (.int p1), .val (.int p2), .val (.int p3), .val (.ref b96), .val (.ref b113), .val (.int ((p2 &&& (1073741823 : Int32)) + (1 : Int32))), .val (.int (1 : Int32)), .val (.int ((p2 &&& (1073741823 : Int32)) + (1 : Int32))), .val (.ref b142), .val (.ref b_172)] [(.int (if (0 : Int32) = (0 : Int32) then (1 : Int32) else (0 : Int32)))])) (g' := (mkF m 101 #[.val (.int p1), .val (.int p2), .val (.int p3), .val (.ref b96), .val (.ref b113), .val (.int ((p2 &&& (1073741823 : Int32)) + (1 : Int32))), .val (.int (1 : Int32)), .val (.int ((p2 &&& (1073741823 : Int32)) + (1 : Int32))), .val (.ref b142), .val (.ref b_172)] [(.int (1 : Int32))])) (fun tgt kt => ?_) ?_
    · show Steps p.tables e below (T187.setTop (mkF m 93 #[.val (.int p1), .val (.int p2), .val (.int p3), .val (.ref b96), .val (.ref b113), .val (.int ((p2 &&& (1073741823 : Int32)) + (1 : Int32))), .val (.int (1 : Int32)), .val (.int ((p2 &&& (1073741823 : Int32)) + (1 : Int32))), .val (.ref b142), .val (.ref b_172)] [(.int (if (0 : Int32) = (0 : Int32) then (1 : Int32) else (0 : Int32)))])) tgt
      refine XS.ifNo H hx rfl (hb hby at_93) rfl ((if0 _ _).trans (feq (by decide)).1) ?_
      show Steps p.tables e below (T187.setTop (mkF m 96 #[.val (.int p1), .val (.int p2), .val (.int p3), .val (.ref b96), .val (.ref b113), .val (.int ((p2 &&& (1073741823 : Int32)) + (1 : Int32))), .val (.int (1 : Int32)), .val (.int ((p2 &&& (1073741823 : Int32)) + (1 : Int32))), .val (.ref b142), .val (.ref b_172)] [])) tgt
      refine XS.iconst H hx rfl (hb hby at_96) ?_
      show Steps p.tables e below (T187.setTop (mkF m 97 #[.val (.int p1), .val (.int p2), .val (.int p3), .val (.ref b96), .val (.ref b113), .val (.int ((p2 &&& (1073741823 : Int32)) + (1 : Int32))), .val (.int (1 : Int32)), .val (.int ((p2 &&& (1073741823 : Int32)) + (1 : Int32))), .val (.ref b142), .val (.ref b_172)] [(.int (1 : Int32))])) tgt
      refine XS.goto H hx rfl (pc0 := 97) (pc' := 101) rfl (hb hby at_97) (by decide) (by decide) ?_
      exact kt
    clear H
    exact Jvm.OwnN.Aim.retN (t := .boolean) P189 hx hlk hret (by simp) (hb hby at_101) (by decide) (by decide) ⟨rfl, K177⟩
  · -- not p1 = (0 : Int32)
    have H := P128.here
    refine Jvm.OwnN.Aim.of (T := T126) (T' := T126) (g := (mkF m 32 #[.val (.int p1), .val (.int p2), .val (.int p3), .val (.ref b96), .val (.ref b113), .val (.int ((p2 &&& (1073741823 : Int32)) + (1 : Int32))), .unset, .unset, .unset, .unset] [(.int p1)])) (g' := (mkF m 55 #[.val (.int p1), .val (.int p2), .val (.int p3), .val (.ref b96), .val (.ref b113), .val (.int ((p2 &&& (1073741823 : Int32)) + (1 : Int32))), .val (.int (0 : Int32)), .val (.int (1 : Int32)), .unset, .unset] [])) (fun tgt kt => ?_) ?_
    · show Steps p.tables e below (T126.setTop (mkF m 32 #[.val (.int p1), .val (.int p2), .val (.int p3), .val (.ref b96), .val (.ref b113), .val (.int ((p2 &&& (1073741823 : Int32)) + (1 : Int32))), .unset, .unset, .unset, .unset] [(.int p1)])) tgt
      refine XS.ifYes H hx rfl (pc0 := 32) (pc' := 39) rfl (hb hby at_32) rfl ((if0 _ _).trans (feq hc139).2) (by decide) (by decide) ?_
      show Steps p.tables e below (T126.setTop (mkF m 39 #[.val (.int p1), .val (.int p2), .val (.int p3), .val (.ref b96), .val (.ref b113), .val (.int ((p2 &&& (1073741823 : Int32)) + (1 : Int32))), .unset, .unset, .unset, .unset] [])) tgt
      refine XS.iconst H hx rfl (hb hby at_39) ?_
      show Steps p.tables e below (T126.setTop (mkF m 40 #[.val (.int p1), .val (.int p2), .val (.int p3), .val (.ref b96), .val (.ref b113), .val (.int ((p2 &&& (1073741823 : Int32)) + (1 : Int32))), .unset, .unset, .unset, .unset] [(.int (0 : Int32))])) tgt
      refine XS.istore H hx rfl (hb hby at_40) rfl (l' := #[.val (.int p1), .val (.int p2), .val (.int p3), .val (.ref b96), .val (.ref b113), .val (.int ((p2 &&& (1073741823 : Int32)) + (1 : Int32))), .val (.int (0 : Int32)), .unset, .unset, .unset]) rfl ?_
      show Steps p.tables e below (T126.setTop (mkF m 42 #[.val (.int p1), .val (.int p2), .val (.int p3), .val (.ref b96), .val (.ref b113), .val (.int ((p2 &&& (1073741823 : Int32)) + (1 : Int32))), .val (.int (0 : Int32)), .unset, .unset, .unset] [])) tgt
      refine XS.iload H hx rfl (hb hby at_42) rfl ?_
      show Steps p.tables e below (T126.setTop (mkF m 44 #[.val (.int p1), .val (.int p2), .val (.int p3), .val (.ref b96), .val (.ref b113), .val (.int ((p2 &&& (1073741823 : Int32)) + (1 : Int32))), .val (.int (0 : Int32)), .unset, .unset, .unset] [(.int (0 : Int32))])) tgt
      refine XS.ifYes H hx rfl (pc0 := 44) (pc' := 52) rfl (hb hby at_44) rfl ((if0 _ _).trans (teq (by decide)).1) (by decide) (by decide) ?_
      show Steps p.tables e below (T126.setTop (mkF m 52 #[.val (.int p1), .val (.int p2), .val (.int p3), .val (.ref b96), .val (.ref b113), .val (.int ((p2 &&& (1073741823 : Int32)) + (1 : Int32))), .val (.int (0 : Int32)), .unset, .unset, .unset] [])) tgt
      refine XS.iconst H hx rfl (hb hby at_52) ?_
      show Steps p.tables e below (T126.setTop (mkF m 53 #[.val (.int p1), .val (.int p2), .val (.int p3), .val (.ref b96), .val (.ref b113), .val (.int ((p2 &&& (1073741823 : Int32)) + (1 : Int32))), .val (.int (0 : Int32)), .unset, .unset, .unset] [(.int (1 : Int32))])) tgt
      refine XS.istore H hx rfl (hb hby at_53) rfl (l' := #[.val (.int p1), .val (.int p2), .val (.int p3), .val (.ref b96), .val (.ref b113), .val (.int ((p2 &&& (1073741823 : Int32)) + (1 : Int32))), .val (.int (0 : Int32)), .val (.int (1 : Int32)), .unset, .unset]) rfl ?_
      exact kt
    clear H
    refine Jvm.OwnN.Aim.newO (pc := 55) (Ls := #[.val (.int p1), .val (.int p2), .val (.int p3), .val (.ref b96), .val (.ref b113), .val (.int ((p2 &&& (1073741823 : Int32)) + (1 : Int32))), .val (.int (0 : Int32)), .val (.int (1 : Int32)), .unset, .unset]) (st := []) P128 hx hZ hown (hw _ (List.mem_of_getElem? (i := 31) rfl)) (hw _ (List.mem_of_getElem? (i := 32) rfl)) (hw _ (List.mem_of_getElem? (i := 33) rfl)) (hb hby at_55) (by decide) (by decide) ?_
    intro T194 h195 b196 g202 P197 E198 E199 D200 U201
    have K203 : Keep h127 h195 [] := (Keep.refl _ _).ext E198
    have K204 : Keep h0 h195 [] := K138.trans K203 all0
    have F205 : Fld Z h195 b196 "com/example/intruder/intruder/term/Term$Nonce" "name" "Ljava/lang/String;" .null := D200 (Or.inr (hw _ (List.mem_of_getElem? (i := 44) rfl))) (ty := (.object "java/lang/String")) (by decide)
    have F206 : Fld Z h195 b196 "com/example/intruder/intruder/term/Term$Nonce" "run" "I" (.int (0 : Int32)) := D200 (Or.inr (hw _ (List.mem_of_getElem? (i := 46) rfl))) (ty := .int) (by decide)
    have F207 : Fld Z h195 b196 "com/example/intruder/intruder/term/Term$Nonce" "serial" "I" (.int (0 : Int32)) := D200 (Or.inr (hw _ (List.mem_of_getElem? (i := 48) rfl))) (ty := .int) (by decide)
    show Jvm.OwnN.Aim p e below s _ _ n0 _ T194 (mkF m 58 #[.val (.int p1), .val (.int p2), .val (.int p3), .val (.ref b96), .val (.ref b113), .val (.int ((p2 &&& (1073741823 : Int32)) + (1 : Int32))), .val (.int (0 : Int32)), .val (.int (1 : Int32)), .unset, .unset] [(.ref b196)])
    have H := P197.here
    refine Jvm.OwnN.Aim.of (T := T194) (T' := T194) (g := (mkF m 58 #[.val (.int p1), .val (.int p2), .val (.int p3), .val (.ref b96), .val (.ref b113), .val (.int ((p2 &&& (1073741823 : Int32)) + (1 : Int32))), .val (.int (0 : Int32)), .val (.int (1 : Int32)), .unset, .unset] [(.ref b196)])) (g' := (mkF m 64 #[.val (.int p1), .val (.int p2), .val (.int p3), .val (.ref b96), .val (.ref b113), .val (.int ((p2 &&& (1073741823 : Int32)) + (1 : Int32))), .val (.int (0 : Int32)), .val (.int (1 : Int32)), .unset, .unset] [(.int (1 : Int32)), (.int p1), (.ref b113), (.ref b196), (.ref b196)])) (fun tgt kt => ?_) ?_
    · show Steps p.tables e below (T194.setTop (mkF m 58 #[.val (.int p1), .val (.int p2), .val (.int p3), .val (.ref b96), .val (.ref b113), .val (.int ((p2 &&& (1073741823 : Int32)) + (1 : Int32))), .val (.int (0 : Int32)), .val (.int (1 : Int32)), .unset, .unset] [(.ref b196)])) tgt
      refine XS.dup H hx rfl (hb hby at_58) rfl rfl ?_
      show Steps p.tables e below (T194.setTop (mkF m 59 #[.val (.int p1), .val (.int p2), .val (.int p3), .val (.ref b96), .val (.ref b113), .val (.int ((p2 &&& (1073741823 : Int32)) + (1 : Int32))), .val (.int (0 : Int32)), .val (.int (1 : Int32)), .unset, .unset] [(.ref b196), (.ref b196)])) tgt
      refine XS.aload H hx rfl (hb hby at_59) rfl rfl ?_
      show Steps p.tables e below (T194.setTop (mkF m 61 #[.val (.int p1), .val (.int p2), .val (.int p3), .val (.ref b96), .val (.ref b113), .val (.int ((p2 &&& (1073741823 : Int32)) + (1 : Int32))), .val (.int (0 : Int32)), .val (.int (1 : Int32)), .unset, .unset] [(.ref b113), (.ref b196), (.ref b196)])) tgt
      refine XS.iloadN H hx rfl (hb hby at_61) rfl ?_
      show Steps p.tables e below (T194.setTop (mkF m 62 #[.val (.int p1), .val (.int p2), .val (.int p3), .val (.ref b96), .val (.ref b113), .val (.int ((p2 &&& (1073741823 : Int32)) + (1 : Int32))), .val (.int (0 : Int32)), .val (.int (1 : Int32)), .unset, .unset] [(.int p1), (.ref b113), (.ref b196), (.ref b196)])) tgt
      refine XS.iload H hx rfl (hb hby at_62) rfl ?_
      exact kt
    clear H
    refine Jvm.OwnN.Aim.callC (pc := 64) (Ls := #[.val (.int p1), .val (.int p2), .val (.int p3), .val (.ref b96), .val (.ref b113), .val (.int ((p2 &&& (1073741823 : Int32)) + (1 : Int32))), .val (.int (0 : Int32)), .val (.int (1 : Int32)), .unset, .unset]) (argsL := [(.ref b113), (.int p1), (.int (1 : Int32))]) (rest := [(.ref b196)]) P197 hx hZ hml hown rfl (hw _ (List.mem_of_getElem? (i := 34) rfl)) (hw _ (List.mem_of_getElem? (i := 35) rfl)) (hw _ (List.mem_of_getElem? (i := 36) rfl)) (by decide) (Jvm.OwnN.Con.back (W := 1) (own_ninit l Z a0 hw b196 b113 p1 (1 : Int32) (.null) (.int (0 : Int32)) (.int (0 : Int32)) h195 n0 (Nat.le_trans Z0 (K204.1)) (Nat.le_trans (Nat.le_trans Z0 (K138.1)) (Nat.le_of_eq g202.symm)) E199 F205 F206 F207 (by decide) (Or.inr rfl)) hZ (hw _ (List.mem_of_getElem? (i := 36) rfl)) (hw _ (List.mem_of_getElem? (i := 33) rfl)) (by decide) (by decide)) rfl pd__28Ljava_2flang_2fString_3bII_29V rfl (Nat.le_of_eq rfl) (hb hby at_64) (by decide) (by decide) ?_
    intro T208 h209 v212 P210 hQ211
    obtain ⟨rfl, K215, F216, F217⟩ := hQ211
    have K218 : Keep h0 h209 [] := K204.trans K215 (allS (Or.inr (Nat.le_trans (K138.1) (Nat.le_of_eq g202.symm))) all0)
    show Jvm.OwnN.Aim p e below s _ _ n0 _ T208 (mkF m 67 #[.val (.int p1), .val (.int p2), .val (.int p3), .val (.ref b96), .val (.ref b113), .val (.int ((p2 &&& (1073741823 : Int32)) + (1 : Int32))), .val (.int (0 : Int32)), .val (.int (1 : Int32)), .unset, .unset] [(.ref b196)])
    have H := P210.here
    refine Jvm.OwnN.Aim.of (T := T208) (T' := T208) (g := (mkF m 67 #[.val (.int p1), .val (.int p2), .val (.int p3), .val (.ref b96), .val (.ref b113), .val (.int ((p2 &&& (1073741823 : Int32)) + (1 : Int32))), .val (.int (0 : Int32)), .val (.int (1 : Int32)), .unset, .unset] [(.ref b196)])) (g' := (mkF m 73 #[.val (.int p1), .val (.int p2), .val (.int p3), .val (.ref b96), .val (.ref b113), .val (.int ((p2 &&& (1073741823 : Int32)) + (1 : Int32))), .val (.int (0 : Int32)), .val (.int (1 : Int32)), .val (.ref b196), .unset] [(.int ((p2 &&& (1073741823 : Int32)) + (1 : Int32))), (.ref b113)])) (fun tgt kt => ?_) ?_
    · show Steps p.tables e below (T208.setTop (mkF m 67 #[.val (.int p1), .val (.int p2), .val (.int p3), .val (.ref b96), .val (.ref b113), .val (.int ((p2 &&& (1073741823 : Int32)) + (1 : Int32))), .val (.int (0 : Int32)), .val (.int (1 : Int32)), .unset, .unset] [(.ref b196)])) tgt
      refine XS.astore H hx rfl (hb hby at_67) rfl rfl (l' := #[.val (.int p1), .val (.int p2), .val (.int p3), .val (.ref b96), .val (.ref b113), .val (.int ((p2 &&& (1073741823 : Int32)) + (1 : Int32))), .val (.int (0 : Int32)), .val (.int (1 : Int32)), .val (.ref b196), .unset]) rfl ?_
      show Steps p.tables e below (T208.setTop (mkF m 69 #[.val (.int p1), .val (.int p2), .val (.int p3), .val (.ref b96), .val (.ref b113), .val (.int ((p2 &&& (1073741823 : Int32)) + (1 : Int32))), .val (.int (0 : Int32)), .val (.int (1 : Int32)), .val (.ref b196), .unset] [])) tgt
      refine XS.aload H hx rfl (hb hby at_69) rfl rfl ?_
      show Steps p.tables e below (T208.setTop (mkF m 71 #[.val (.int p1), .val (.int p2), .val (.int p3), .val (.ref b96), .val (.ref b113), .val (.int ((p2 &&& (1073741823 : Int32)) + (1 : Int32))), .val (.int (0 : Int32)), .val (.int (1 : Int32)), .val (.ref b196), .unset] [(.ref b113)])) tgt
      refine XS.iload H hx rfl (hb hby at_71) rfl ?_
      exact kt
    clear H
    refine Jvm.OwnN.Aim.callS (pc := 73) (Ls := #[.val (.int p1), .val (.int p2), .val (.int p3), .val (.ref b96), .val (.ref b113), .val (.int ((p2 &&& (1073741823 : Int32)) + (1 : Int32))), .val (.int (0 : Int32)), .val (.int (1 : Int32)), .val (.ref b196), .unset]) (argsL := [(.ref b113), (.int ((p2 &&& (1073741823 : Int32)) + (1 : Int32)))]) (rest := []) P210 hx hZ hml hown (hw _ (List.mem_of_getElem? (i := 49) rfl)) (hw _ (List.mem_of_getElem? (i := 50) rfl)) (hw _ (List.mem_of_getElem? (i := 33) rfl)) (hw _ (List.mem_of_getElem? (i := 51) rfl)) (by decide) (Jvm.OwnN.Con.back (W := 0) (own_ofi l Z a0 hw b113 ((p2 &&& (1073741823 : Int32)) + (1 : Int32)) h209 n0 (Nat.le_trans Z0 (K218.1)) (own_pos _)) hZ (hw _ (List.mem_of_getElem? (i := 51) rfl)) (hw _ (List.mem_of_getElem? (i := 33) rfl)) (by decide) (by decide)) rfl pd__28Ljava_2flang_2fString_3bI_29Lcom_2fexample_2fintruder_2fintruder_2fterm_2fTerm_24Nonce_3b rfl (Nat.le_of_eq rfl) (hb hby at_73) (by decide) (by decide) ?_
    intro T219 h220 v223 P221 hQ222
    obtain ⟨b_226, rfl, K227, g228, F229, F230⟩ := hQ222
    have K231 : Keep h0 h220 [] := K218.trans K227 all0
    show Jvm.OwnN.Aim p e below s _ _ n0 _ T219 (mkF m 76 #[.val (.int p1), .val (.int p2), .val (.int p3), .val (.ref b96), .val (.ref b113), .val (.int ((p2 &&& (1073741823 : Int32)) + (1 : Int32))), .val (.int (0 : Int32)), .val (.int (1 : Int32)), .val (.ref b196), .unset] [(.ref b_226)])
    have H := P221.here
    refine Jvm.OwnN.Aim.of (T := T219) (T' := T219) (g := (mkF m 76 #[.val (.int p1), .val (.int p2), .val (.int p3), .val (.ref b96), .val (.ref b113), .val (.int ((p2 &&& (1073741823 : Int32)) + (1 : Int32))), .val (.int (0 : Int32)), .val (.int (1 : Int32)), .val (.ref b196), .unset] [(.ref b_226)])) (g' := (mkF m 80 #[.val (.int p1), .val (.int p2), .val (.int p3), .val (.ref b96), .val (.ref b113), .val (.int ((p2 &&& (1073741823 : Int32)) + (1 : Int32))), .val (.int (0 : Int32)), .val (.int (1 : Int32)), .val (.ref b196), .val (.ref b_226)] [(.ref b196)])) (fun tgt kt => ?_) ?_
    · show Steps p.tables e below (T219.setTop (mkF m 76 #[.val (.int p1), .val (.int p2), .val (.int p3), .val (.ref b96), .val (.ref b113), .val (.int ((p2 &&& (1073741823 : Int32)) + (1 : Int32))), .val (.int (0 : Int32)), .val (.int (1 : Int32)), .val (.ref b196), .unset] [(.ref b_226)])) tgt
      refine XS.astore H hx rfl (hb hby at_76) rfl rfl (l' := #[.val (.int p1), .val (.int p2), .val (.int p3), .val (.ref b96), .val (.ref b113), .val (.int ((p2 &&& (1073741823 : Int32)) + (1 : Int32))), .val (.int (0 : Int32)), .val (.int (1 : Int32)), .val (.ref b196), .val (.ref b_226)]) rfl ?_
      show Steps p.tables e below (T219.setTop (mkF m 78 #[.val (.int p1), .val (.int p2), .val (.int p3), .val (.ref b96), .val (.ref b113), .val (.int ((p2 &&& (1073741823 : Int32)) + (1 : Int32))), .val (.int (0 : Int32)), .val (.int (1 : Int32)), .val (.ref b196), .val (.ref b_226)] [])) tgt
      refine XS.aload H hx rfl (hb hby at_78) rfl rfl ?_
      exact kt
    clear H
    have F232 : Exa Z h220 b196 "com/example/intruder/intruder/term/Term$Nonce" := (F216.keep K227)
    have F233 : Fld Z h220 b196 "com/example/intruder/intruder/term/Term$Nonce" "run" "I" (.int p1) := (F217.keep K227 nin0)
    refine Jvm.OwnN.Aim.callV (pc := 80) (Ls := #[.val (.int p1), .val (.int p2), .val (.int p3), .val (.ref b96), .val (.ref b113), .val (.int ((p2 &&& (1073741823 : Int32)) + (1 : Int32))), .val (.int (0 : Int32)), .val (.int (1 : Int32)), .val (.ref b196), .val (.ref b_226)]) (argsL := []) (rest := []) (y := (⟨"com/example/intruder/intruder/term/Term$Nonce", "byIntruder", "()Z"⟩ : MethodName)) (z := (⟨"com/example/intruder/intruder/term/Term$Nonce", "byIntruder", "()Z"⟩ : MethodName)) P221 hx hZ hml hown (hw _ (List.mem_of_getElem? (i := 54) rfl)) (hw _ (List.mem_of_getElem? (i := 55) rfl)) (notFace_of_selects (args := #[]) (mvT hZ (hw _ (List.mem_of_getElem? (i := 57) rfl)))) (hw _ (List.mem_of_getElem? (i := 57) rfl)) (hw _ (List.mem_of_getElem? (i := 56) rfl)) (by decide) F232 (Jvm.OwnN.Con.back (W := 0) (own_by l Z a0 hw b196 p1 h220 n0 (Nat.le_trans Z0 (K231.1)) F233) hZ (hw _ (List.mem_of_getElem? (i := 58) rfl)) (hw _ (List.mem_of_getElem? (i := 33) rfl)) (by decide) (by decide)) rfl pd__28_29Z rfl (Nat.le_of_eq rfl) (hb hby at_80) (by decide) (by decide) ?_
    intro T234 h235 v238 P236 hQ237
    obtain ⟨rfl, rfl⟩ := hQ237
    show Jvm.OwnN.Aim p e below s _ _ n0 _ T234 (mkF m 83 #[.val (.int p1), .val (.int p2), .val (.int p3), .val (.ref b96), .val (.ref b113), .val (.int ((p2 &&& (1073741823 : Int32)) + (1 : Int32))), .val (.int (0 : Int32)), .val (.int (1 : Int32)), .val (.ref b196), .val (.ref b_226)] [(.int (if p1 = (0 : Int32) then (1 : Int32) else (0 : Int32)))])
    have H := P236.here
    refine Jvm.OwnN.Aim.of (T := T234) (T' := T234) (g := (mkF m 83 #[.val (.int p1), .val (.int p2), .val (.int p3), .val (.ref b96), .val (.ref b113), .val (.int ((p2 &&& (1073741823 : Int32)) + (1 : Int32))), .val (.int (0 : Int32)), .val (.int (1 : Int32)), .val (.ref b196), .val (.ref b_226)] [(.int (if p1 = (0 : Int32) then (1 : Int32) else (0 : Int32)))])) (g' := (mkF m 90 #[.val (.int p1), .val (.int p2), .val (.int p3), .val (.ref b96), .val (.ref b113), .val (.int ((p2 &&& (1073741823 : Int32)) + (1 : Int32))), .val (.int (0 : Int32)), .val (.int (1 : Int32)), .val (.ref b196), .val (.ref b_226)] [(.ref b_226)])) (fun tgt kt => ?_) ?_
    · show Steps p.tables e below (T234.setTop (mkF m 83 #[.val (.int p1), .val (.int p2), .val (.int p3), .val (.ref b96), .val (.ref b113), .val (.int ((p2 &&& (1073741823 : Int32)) + (1 : Int32))), .val (.int (0 : Int32)), .val (.int (1 : Int32)), .val (.ref b196), .val (.ref b_226)] [(.int (if p1 = (0 : Int32) then (1 : Int32) else (0 : Int32)))])) tgt
      refine XS.iload H hx rfl (hb hby at_83) rfl ?_
      show Steps p.tables e below (T234.setTop (mkF m 85 #[.val (.int p1), .val (.int p2), .val (.int p3), .val (.ref b96), .val (.ref b113), .val (.int ((p2 &&& (1073741823 : Int32)) + (1 : Int32))), .val (.int (0 : Int32)), .val (.int (1 : Int32)), .val (.ref b196), .val (.ref b_226)] [(.int (0 : Int32)), (.int (if p1 = (0 : Int32) then (1 : Int32) else (0 : Int32)))])) tgt
      refine XS.icmpNo H hx rfl (hb hby at_85) rfl (teq (if_neg hc139)).2 ?_
      show Steps p.tables e below (T234.setTop (mkF m 88 #[.val (.int p1), .val (.int p2), .val (.int p3), .val (.ref b96), .val (.ref b113), .val (.int ((p2 &&& (1073741823 : Int32)) + (1 : Int32))), .val (.int (0 : Int32)), .val (.int (1 : Int32)), .val (.ref b196), .val (.ref b_226)] [])) tgt
      refine XS.aload H hx rfl (hb hby at_88) rfl rfl ?_
      exact kt
    clear H
    refine Jvm.OwnN.Aim.callV (pc := 90) (Ls := #[.val (.int p1), .val (.int p2), .val (.int p3), .val (.ref b96), .val (.ref b113), .val (.int ((p2 &&& (1073741823 : Int32)) + (1 : Int32))), .val (.int (0 : Int32)), .val (.int (1 : Int32)), .val (.ref b196), .val (.ref b_226)]) (argsL := []) (rest := []) (y := (⟨"com/example/intruder/intruder/term/Term$Nonce", "byIntruder", "()Z"⟩ : MethodName)) (z := (⟨"com/example/intruder/intruder/term/Term$Nonce", "byIntruder", "()Z"⟩ : MethodName)) P236 hx hZ hml hown (hw _ (List.mem_of_getElem? (i := 54) rfl)) (hw _ (List.mem_of_getElem? (i := 55) rfl)) (notFace_of_selects (args := #[]) (mvT hZ (hw _ (List.mem_of_getElem? (i := 57) rfl)))) (hw _ (List.mem_of_getElem? (i := 57) rfl)) (hw _ (List.mem_of_getElem? (i := 56) rfl)) (by decide) F229 (Jvm.OwnN.Con.back (W := 0) (own_by l Z a0 hw b_226 (0 : Int32) h220 n0 (Nat.le_trans Z0 (K231.1)) F230) hZ (hw _ (List.mem_of_getElem? (i := 58) rfl)) (hw _ (List.mem_of_getElem? (i := 33) rfl)) (by decide) (by decide)) rfl pd__28_29Z rfl (Nat.le_of_eq rfl) (hb hby at_90) (by decide) (by decide) ?_
    intro T241 h242 v245 P243 hQ244
    obtain ⟨rfl, rfl⟩ := hQ244
    show Jvm.OwnN.Aim p e below s _ _ n0 _ T241 (mkF m 93 #[.val (.int p1), .val (.int p2), .val (.int p3), .val (.ref b96), .val (.ref b113), .val (.int ((p2 &&& (1073741823 : Int32)) + (1 : Int32))), .val (.int (0 : Int32)), .val (.int (1 : Int32)), .val (.ref b196), .val (.ref b_226)] [(.int (if (0 : Int32) = (0 : Int32) then (1 : Int32) else (0 : Int32)))])
    have H := P243.here
    refine Jvm.OwnN.Aim.of (T := T241) (T' := T241) (g := (mkF m 93 #[.val (.int p1), .val (.int p2), .val (.int p3), .val (.ref b96), .val (.ref b113), .val (.int ((p2 &&& (1073741823 : Int32)) + (1 : Int32))), .val (.int (0 : Int32)), .val (.int (1 : Int32)), .val (.ref b196), .val (.ref b_226)] [(.int (if (0 : Int32) = (0 : Int32) then (1 : Int32) else (0 : Int32)))])) (g' := (mkF m 101 #[.val (.int p1), .val (.int p2), .val (.int p3), .val (.ref b96), .val (.ref b113), .val (.int ((p2 &&& (1073741823 : Int32)) + (1 : Int32))), .val (.int (0 : Int32)), .val (.int (1 : Int32)), .val (.ref b196), .val (.ref b_226)] [(.int (1 : Int32))])) (fun tgt kt => ?_) ?_
    · show Steps p.tables e below (T241.setTop (mkF m 93 #[.val (.int p1), .val (.int p2), .val (.int p3), .val (.ref b96), .val (.ref b113), .val (.int ((p2 &&& (1073741823 : Int32)) + (1 : Int32))), .val (.int (0 : Int32)), .val (.int (1 : Int32)), .val (.ref b196), .val (.ref b_226)] [(.int (if (0 : Int32) = (0 : Int32) then (1 : Int32) else (0 : Int32)))])) tgt
      refine XS.ifNo H hx rfl (hb hby at_93) rfl ((if0 _ _).trans (feq (by decide)).1) ?_
      show Steps p.tables e below (T241.setTop (mkF m 96 #[.val (.int p1), .val (.int p2), .val (.int p3), .val (.ref b96), .val (.ref b113), .val (.int ((p2 &&& (1073741823 : Int32)) + (1 : Int32))), .val (.int (0 : Int32)), .val (.int (1 : Int32)), .val (.ref b196), .val (.ref b_226)] [])) tgt
      refine XS.iconst H hx rfl (hb hby at_96) ?_
      show Steps p.tables e below (T241.setTop (mkF m 97 #[.val (.int p1), .val (.int p2), .val (.int p3), .val (.ref b96), .val (.ref b113), .val (.int ((p2 &&& (1073741823 : Int32)) + (1 : Int32))), .val (.int (0 : Int32)), .val (.int (1 : Int32)), .val (.ref b196), .val (.ref b_226)] [(.int (1 : Int32))])) tgt
      refine XS.goto H hx rfl (pc0 := 97) (pc' := 101) rfl (hb hby at_97) (by decide) (by decide) ?_
      exact kt
    clear H
    exact Jvm.OwnN.Aim.retN (t := .boolean) P243 hx hlk hret (by simp) (hb hby at_101) (by decide) (by decide) ⟨rfl, K231⟩
set_option maxRecDepth 65536 in
set_option maxHeartbeats 40000000 in
theorem comes_1 {Post : Tables → Env → Array Value → State → Outcome → State → Prop} (hpost : ∀ tb e args s v u, (limb_1_1.after args s (.returned v) u = true ∧ limb_1_2.after args s (.returned v) u = true ∧ True) → FrameEnd s (.returned v) u (Jvm.fieldLocs frame_1_writes args s ++ Jvm.arrayLocs frame_1_arrays args s ++ Jvm.staticLocs frame_1_statics s) 24 128 → Post tb e args s (.returned v) u) :
    ArmFor flags0 classFile x code maxLocals ret World_1 tables_1 room_1 Calls_1 rest_1 Pre_1 Post := by
  intro l hfl _ _ p e ha hc hk s m args below hf hA hF happ hP
  obtain ⟨hcalls, hrest, hpre⟩ := hP
  obtain ⟨-, -, -, hnamed, -, -, -, hat⟩ := (Spec.applies_iff hf).mp happ
  obtain ⟨hg, hn⟩ := and_e (Cond.before_iff.mp (show (Jvm.Cond.and given_1 narrow_1).before args s = true from hpre))
  obtain ⟨hcnt, hg0⟩ := and_e hg
  obtain ⟨ga0, hg1⟩ := and_e hg0
  obtain ⟨ga1, hg2⟩ := and_e hg1
  have ga2 := hg2
  obtain ⟨w0, w1, w2, rfl⟩ : ∃ w0 w1 w2 : Value, args = #[w0, w1, w2] := by
    have hs : args.size = 3 := by simpa [Cond.value, given_1] using hcnt
    obtain ⟨L⟩ := args
    match L, hs with
    | [w0, w1, w2], _ => exact ⟨w0, w1, w2, rfl⟩
  have hw := fun d (hd : d ∈ tables_1) => atoms_spec (ws := Jvm.Cond.code x code maxLocals ret :: tables_1) hat d (List.mem_cons_of_mem _ hd)
  have hfit : Fit s := fun {y c} hc i hi => by
    obtain ⟨ha, rfl⟩ := Array.getElem?_eq_some_iff.mp hc
    have q := List.all_eq_true.mp ((Array.all_eq_true_iff_forall_mem.mp hF) _ (Array.getElem_mem ha)) i (List.mem_range.mpr hi)
    simpa [Array.getElem?_eq_getElem hi] using q
  obtain ⟨hsets, hown0⟩ := atoms_of _ (rest_1_c_eq ▸ (show rest_1_c.before _ s = true from hrest))
  obtain ⟨i0, ei0⟩ := is_v ga0
  obtain rfl : w0 = (.int i0) := Option.some.inj ei0
  obtain ⟨i1, ei1⟩ := is_v ga1
  obtain rfl : w1 = (.int i1) := Option.some.inj ei1
  obtain ⟨i2, ei2⟩ := is_v ga2
  obtain rfl : w2 = (.int i2) := Option.some.inj ei2
  have ncs := not_v (Cond.before_iff.mp (hsets _ (List.mem_of_getElem? (i := 2) rfl)))
  obtain ⟨zcs, ecs⟩ := is_v (Cond.before_iff.mp (hsets _ (List.mem_of_getElem? (i := 1) rfl)))
  have Scs : Sta s s.heap "java/lang/String" "COMPACT_STRINGS" "Z" (.int zcs) := Sta.start ecs (Or.inl (hsets _ (List.mem_of_getElem? (i := 0) rfl)))
  have Gcs : Cmp s := ⟨zcs, gotF (Cond.eq_ints ecs (Term.int_eval (0))) ncs, Scs⟩
  obtain ⟨n, o, h1, h2, h3, _, L, rfl, ⟨⟨rfl, _⟩, N⟩, hq⟩ := own_law l s _ hw i0 i1 i2 s.heap s.heap.size (Nat.le_refl _) (Old.start s) Gcs tables_1 p e ha hc hk s m _ below hf ((Spec.applies_iff_loose hf).mp happ).1 ⟨rfl, State.Warmed39.refl s, rfl⟩ trivial
  refine ⟨n, _, h1, h2, h3, hpost _ _ _ _ _ _ ⟨Cond.after_iff.mpr rfl, Cond.after_iff.mpr (eq_i res_at (Term.int_eval (1)) rfl), trivial⟩ ⟨hq.1, hq.2.1, (hq.2.2.sift fun y hy => Or.inr (N y hy)).mono (by decide) (by decide)⟩⟩
theorem main_1_1 : Claimed_1_1 := comes_1 fun _ _ _ _ _ _ h hF => ⟨h.1, hF⟩
theorem main_1_2 : Claimed_1_2 := comes_1 fun _ _ _ _ _ _ h hF => ⟨h.2.1, hF⟩
end Jvm.Pilot.@@N@@
namespace Jvm.Pilot.@@N@@
open Jvm Jvm.ClassFile Sem Op Lib Jvm.Free Jvm.Stand Jvm.Pilot.@@N@@.Jvm.D
/-! MADE BY PROGRAM (witnessworld.py) out of the Statement's table words and the real class files: 22 classes; the members and pool entries that the words name. The judged class is class 1, her method 1. -/
namespace start1
open Jvm.ClassFile
def u (s : String) : CpInfo := .utf8 (stringToUtf16 s)
/-- a pool by its gaps: so many unusable entries, then the entry; so many at the end -/
def gap : Nat → List CpInfo → List CpInfo
  | 0, r => r
  | n + 1, r => .unusable :: gap n r
def poolList (es : List (Nat × CpInfo)) (last : Nat) : List CpInfo := es.foldr (fun e r => gap e.1 (e.2 :: r)) (gap last [])
def pool (es : List (Nat × CpInfo)) (last : Nat) : Array CpInfo := ⟨poolList es last⟩
def fileOf (pool : Array CpInfo) (this : Nat) (attrs : Array Attribute := #[]) (ms : Array MethodInfo := #[]) (fl : Nat := 33) (sup : Nat := 0) (ifs : Array Nat := #[]) (fds : Array FieldInfo := #[]) : ClassFile where
  minorVersion := 0
  majorVersion := 65
  constantPool := pool
  accessFlags := fl
  thisClass := this
  superClass := sup
  interfaces := ifs
  fields := fds
  methods := ms
  attributes := attrs
def plain (name : String) (sup : Option ClassId) : Class where
  name := name
  kind := .ordinary
  loader := none
  accessFlags := 33
  super := sup
  interfaces := #[]
  cf := none
  fields := #[]
  methods := #[]
  instanceTypes := #[]
  staticTypes := #[]
  resolved := #[]
  callSites := []
  init := .initialized
  statics := none
  mirror := none

def pool0 : Array CpInfo := pool [(5, u "<init>"), (0, u "()V"), (1, .class_ 10), (1, u "java/lang/Object")] 113

def k0c0 : Code := { maxStack := 0, maxLocals := 1, code := object_method_1_code, exceptionTable := #[], attributes := #[] }
def k0m0 : Method := { name := "<init>", desc := "()V", sig := { parameters := [], returnType := none }, accessFlags := 1, code := some k0c0 }
/-- java/lang/Object -/
def k0 : Class := { plain "java/lang/Object" none with
  accessFlags := 33
  interfaces := #[]
  cf := some (fileOf pool0 8 #[] #[{ accessFlags := 1, nameIndex := 5, descriptorIndex := 6, attributes := #[] }] 33 0 #[] #[])
  fields := #[]
  methods := #[k0m0]
  instanceTypes := #[]
  staticTypes := #[]
  resolved := Array.replicate 124 none
  statics := none }

def pool1 : Array CpInfo := pool [(2, .class_ 4), (1, u "java/lang/Object"), (0, u "<init>"), (0, u "()V"), (0, .class_ 8), (0, u "java/lang/String"), (0, .methodref 7 10), (0, .nameAndType 5 11), (0, u "([C)V"), (0, .integer 1073741823), (0, .class_ 14), (0, u "com/example/intruder/intruder/term/Term$Nonce"), (0, .methodref 13 16), (0, .nameAndType 5 17), (0, u "(Ljava/lang/String;II)V"), (0, .methodref 13 19), (0, .nameAndType 20 21), (0, u "ofIntruder"), (0, u "(Ljava/lang/String;I)Lcom/example/intruder/intruder/term/Term$Nonce;"), (0, .methodref 13 23), (0, .nameAndType 24 25), (0, u "byIntruder"), (0, u "()Z"), (0, .class_ 27), (0, u "com/example/intruder/intruder/term/NonceByIntruderPinLaw"), (2, u "law"), (0, u "(III)Z")] 9

def k1m0 : Method := { name := "<init>", desc := "()V", sig := { parameters := [], returnType := none }, accessFlags := 1, code := none }
def k1c1 : Code := { maxStack := 5, maxLocals := 10, code := code, exceptionTable := #[], attributes := #[] }
def k1m1 : Method := { name := "law", desc := "(III)Z", sig := { parameters := [.int, .int, .int], returnType := some .boolean }, accessFlags := 9, code := some k1c1 }
/-- com/example/intruder/intruder/term/NonceByIntruderPinLaw -/
def k1 : Class := { plain "com/example/intruder/intruder/term/NonceByIntruderPinLaw" (some 0) with
  accessFlags := 49
  interfaces := #[]
  cf := some (fileOf pool1 26 #[] #[{ accessFlags := 1, nameIndex := 5, descriptorIndex := 6, attributes := #[] }, { accessFlags := 9, nameIndex := 30, descriptorIndex := 31, attributes := #[] }] 49 2 #[] #[])
  fields := #[]
  methods := #[k1m0, k1m1]
  instanceTypes := #[]
  staticTypes := #[]
  resolved := Array.replicate 41 none
  statics := none }

def pool2 : Array CpInfo := pool [(1, .class_ 2), (0, u "java/io/Serializable"), (0, .class_ 4), (0, u "java/lang/Object")] 2

/-- java/io/Serializable -/
def k2 : Class := { plain "java/io/Serializable" (some 0) with
  accessFlags := 1537
  interfaces := #[]
  cf := some (fileOf pool2 1 #[] #[] 1537 3 #[] #[])
  fields := #[]
  methods := #[]
  instanceTypes := #[]
  staticTypes := #[]
  resolved := Array.replicate 7 none
  statics := none }

def pool3 : Array CpInfo := pool [(1, .class_ 2), (0, u "java/lang/Comparable"), (0, .class_ 4), (0, u "java/lang/Object")] 7

/-- java/lang/Comparable -/
def k3 : Class := { plain "java/lang/Comparable" (some 0) with
  accessFlags := 1537
  interfaces := #[]
  cf := some (fileOf pool3 1 #[] #[] 1537 3 #[] #[])
  fields := #[]
  methods := #[]
  instanceTypes := #[]
  staticTypes := #[]
  resolved := Array.replicate 12 none
  statics := none }

def pool4 : Array CpInfo := pool [(2, .class_ 4), (1, u "java/lang/CharSequence"), (42, .class_ 48), (0, u "java/lang/CharSequence$1CodePointIterator"), (10, .class_ 60), (0, u "java/lang/CharSequence$1CharIterator"), (5, .class_ 67), (0, u "java/lang/Object")] 63

/-- java/lang/CharSequence -/
def k4 : Class := { plain "java/lang/CharSequence" (some 0) with
  accessFlags := 1537
  interfaces := #[]
  cf := some (fileOf pool4 2 #[.nestMembers #[47, 59]] #[] 1537 66 #[] #[])
  fields := #[]
  methods := #[]
  instanceTypes := #[]
  staticTypes := #[]
  resolved := Array.replicate 131 none
  statics := none }

def pool5 : Array CpInfo := pool [(1, .class_ 2), (0, u "java/lang/constant/Constable"), (0, .class_ 4), (0, u "java/lang/Object")] 6

/-- java/lang/constant/Constable -/
def k5 : Class := { plain "java/lang/constant/Constable" (some 0) with
  accessFlags := 1537
  interfaces := #[]
  cf := some (fileOf pool5 1 #[] #[] 1537 3 #[] #[])
  fields := #[]
  methods := #[]
  instanceTypes := #[]
  staticTypes := #[]
  resolved := Array.replicate 11 none
  statics := none }

def pool6 : Array CpInfo := pool [(1, .class_ 2), (0, u "java/lang/constant/ConstantDesc"), (0, .class_ 4), (0, u "java/lang/Object")] 32

/-- java/lang/constant/ConstantDesc -/
def k6 : Class := { plain "java/lang/constant/ConstantDesc" (some 0) with
  accessFlags := 1537
  interfaces := #[]
  cf := some (fileOf pool6 1 #[] #[] 1537 3 #[] #[])
  fields := #[]
  methods := #[]
  instanceTypes := #[]
  staticTypes := #[]
  resolved := Array.replicate 37 none
  statics := none }

def pool7 : Array CpInfo := pool [(1, .methodref 2 3), (0, .class_ 4), (0, .nameAndType 5 6), (0, u "java/lang/Object"), (0, u "<init>"), (0, u "()V"), (2, .fieldref 10 11), (0, .class_ 12), (0, .nameAndType 13 14), (0, u "java/lang/String"), (0, u "value"), (0, u "[B"), (0, .fieldref 10 16), (0, .nameAndType 17 18), (0, u "coder"), (0, u "B"), (2, u "hash"), (0, u "I"), (2, u "hashIsZero"), (0, u "Z"), (0, .methodref 10 28), (0, .nameAndType 5 29), (0, u "([CIILjava/lang/Void;)V"), (8, .fieldref 10 39), (0, .nameAndType 40 26), (0, u "COMPACT_STRINGS"), (1, .class_ 44), (1, u "java/lang/StringUTF16"), (0, u "compress"), (1, .methodref 42 48), (0, .nameAndType 49 50), (0, u "coderFromArrayLen"), (0, u "([BI)B"), (126, .methodref 42 178), (0, .nameAndType 45 179), (0, u "([CII)[B"), (395, .class_ 576), (0, u "java/lang/CharSequence"), (22, u "CASE_INSENSITIVE_ORDER"), (0, u "Ljava/util/Comparator;"), (409, u "([C)V"), (90, u "serialPersistentFields"), (0, u "[Ljava/io/ObjectStreamField;"), (0, .class_ 1104), (0, u "java/lang/String$CaseInsensitiveComparator"), (1, .class_ 1107), (0, u "java/io/Serializable"), (0, .class_ 1109), (0, u "java/lang/Comparable"), (0, .class_ 1111), (0, u "java/lang/constant/Constable"), (0, .class_ 1113), (0, u "java/lang/constant/ConstantDesc"), (2, u "serialVersionUID"), (0, u "J"), (3, u "REPL"), (0, u "C"), (2, u "LATIN1"), (1, u "UTF16")] 323

def k7m0 : Method := { name := "<init>", desc := "()V", sig := { parameters := [], returnType := none }, accessFlags := 1, code := none }
def k7c1 : Code := { maxStack := 5, maxLocals := 2, code := jdk_42_method_3_code, exceptionTable := #[], attributes := #[] }
def k7m1 : Method := { name := "<init>", desc := "([C)V", sig := { parameters := [(.array .char)], returnType := none }, accessFlags := 1, code := some k7c1 }
def k7c2 : Code := { maxStack := 4, maxLocals := 6, code := jdk_42_method_149_code, exceptionTable := #[], attributes := #[] }
def k7m2 : Method := { name := "<init>", desc := "([CIILjava/lang/Void;)V", sig := { parameters := [(.array .char), .int, .int, (.object "java/lang/Void")], returnType := none }, accessFlags := 2, code := some k7c2 }
/-- java/lang/String -/
def k7 : Class := { plain "java/lang/String" (some 0) with
  accessFlags := 49
  interfaces := #[2, 3, 4, 5, 6]
  cf := some (fileOf pool7 10 #[.nestMembers #[1103]] #[{ accessFlags := 1, nameIndex := 5, descriptorIndex := 6, attributes := #[] }, { accessFlags := 1, nameIndex := 5, descriptorIndex := 1010, attributes := #[] }, { accessFlags := 2, nameIndex := 5, descriptorIndex := 29, attributes := #[] }] 49 2 #[1106, 1108, 575, 1110, 1112] #[{ accessFlags := 18, nameIndex := 13, descriptorIndex := 14, attributes := #[] }, { accessFlags := 18, nameIndex := 17, descriptorIndex := 18, attributes := #[] }, { accessFlags := 2, nameIndex := 21, descriptorIndex := 22, attributes := #[] }, { accessFlags := 2, nameIndex := 25, descriptorIndex := 26, attributes := #[] }, { accessFlags := 26, nameIndex := 1116, descriptorIndex := 1117, attributes := #[] }, { accessFlags := 24, nameIndex := 40, descriptorIndex := 26, attributes := #[] }, { accessFlags := 26, nameIndex := 1101, descriptorIndex := 1102, attributes := #[] }, { accessFlags := 26, nameIndex := 1121, descriptorIndex := 1122, attributes := #[] }, { accessFlags := 25, nameIndex := 599, descriptorIndex := 600, attributes := #[] }, { accessFlags := 24, nameIndex := 1125, descriptorIndex := 18, attributes := #[] }, { accessFlags := 24, nameIndex := 1127, descriptorIndex := 18, attributes := #[] }])
  fields := #[{ name := "value", type := (.array .byte), accessFlags := 18, slot := 0, constantValue := 0 }, { name := "coder", type := .byte, accessFlags := 18, slot := 1, constantValue := 0 }, { name := "hash", type := .int, accessFlags := 2, slot := 2, constantValue := 0 }, { name := "hashIsZero", type := .boolean, accessFlags := 2, slot := 3, constantValue := 0 }, { name := "serialVersionUID", type := .long, accessFlags := 26, slot := 0, constantValue := 0 }, { name := "COMPACT_STRINGS", type := .boolean, accessFlags := 24, slot := 1, constantValue := 0 }, { name := "serialPersistentFields", type := (.array (.object "java/io/ObjectStreamField")), accessFlags := 26, slot := 2, constantValue := 0 }, { name := "REPL", type := .char, accessFlags := 26, slot := 3, constantValue := 0 }, { name := "CASE_INSENSITIVE_ORDER", type := (.object "java/util/Comparator"), accessFlags := 25, slot := 4, constantValue := 0 }, { name := "LATIN1", type := .byte, accessFlags := 24, slot := 5, constantValue := 0 }, { name := "UTF16", type := .byte, accessFlags := 24, slot := 6, constantValue := 0 }]
  methods := #[k7m0, k7m1, k7m2]
  instanceTypes := #[(.array .byte), .byte, .int, .boolean]
  staticTypes := #[.long, .boolean, (.array (.object "java/io/ObjectStreamField")), .char, (.object "java/util/Comparator"), .byte, .byte]
  resolved := Array.replicate 1451 none
  statics := some 0 }

def pool8 : Array CpInfo := pool [(6, .class_ 8), (1, u "java/lang/Object"), (0, u "<init>"), (0, u "()V"), (1, .class_ 14), (1, u "java/lang/StringUTF16"), (31, u "$assertionsDisabled"), (0, u "Z"), (13, u "HI_BYTE_SHIFT"), (0, u "I"), (2, u "LO_BYTE_SHIFT"), (49, .methodref 12 116), (0, .nameAndType 117 118), (0, u "compress"), (0, u "([CI[BII)I"), (3, u "([CII)[B"), (138, u "coderFromArrayLen"), (0, u "([BI)B"), (106, .class_ 371), (1, u "java/lang/StringUTF16$LinesSpliterator"), (58, u "MAX_LENGTH"), (196, .class_ 628), (0, u "java/lang/StringUTF16$CodePointsSpliterator"), (0, .class_ 630), (0, u "java/lang/StringUTF16$CharsSpliterator")] 4

def k8m0 : Method := { name := "<init>", desc := "()V", sig := { parameters := [], returnType := none }, accessFlags := 0, code := none }
def k8c1 : Code := { maxStack := 2, maxLocals := 2, code := jdk_52_method_15_code, exceptionTable := #[], attributes := #[] }
def k8m1 : Method := { name := "coderFromArrayLen", desc := "([BI)B", sig := { parameters := [(.array .byte), .int], returnType := some .byte }, accessFlags := 8, code := some k8c1 }
def k8c2 : Code := { maxStack := 5, maxLocals := 6, code := jdk_52_method_16_code, exceptionTable := #[], attributes := #[] }
def k8m2 : Method := { name := "compress", desc := "([CII)[B", sig := { parameters := [(.array .char), .int, .int], returnType := some (.array .byte) }, accessFlags := 9, code := some k8c2 }
def k8c3 : Code := { maxStack := 3, maxLocals := 7, code := jdk_52_method_21_code, exceptionTable := #[], attributes := #[] }
def k8m3 : Method := { name := "compress", desc := "([CI[BII)I", sig := { parameters := [(.array .char), .int, (.array .byte), .int, .int], returnType := some .int }, accessFlags := 9, code := some k8c3 }
/-- java/lang/StringUTF16 -/
def k8 : Class := { plain "java/lang/StringUTF16" (some 0) with
  accessFlags := 48
  interfaces := #[]
  cf := some (fileOf pool8 12 #[.nestMembers #[627, 629, 369]] #[{ accessFlags := 0, nameIndex := 9, descriptorIndex := 10, attributes := #[] }, { accessFlags := 8, nameIndex := 261, descriptorIndex := 262, attributes := #[] }, { accessFlags := 9, nameIndex := 117, descriptorIndex := 122, attributes := #[] }, { accessFlags := 9, nameIndex := 117, descriptorIndex := 118, attributes := #[] }] 48 6 #[] #[{ accessFlags := 26, nameIndex := 61, descriptorIndex := 62, attributes := #[] }, { accessFlags := 26, nameIndex := 65, descriptorIndex := 62, attributes := #[] }, { accessFlags := 24, nameIndex := 430, descriptorIndex := 62, attributes := #[] }, { accessFlags := 4120, nameIndex := 46, descriptorIndex := 47, attributes := #[] }])
  fields := #[{ name := "HI_BYTE_SHIFT", type := .int, accessFlags := 26, slot := 0, constantValue := 0 }, { name := "LO_BYTE_SHIFT", type := .int, accessFlags := 26, slot := 1, constantValue := 0 }, { name := "MAX_LENGTH", type := .int, accessFlags := 24, slot := 2, constantValue := 0 }, { name := "$assertionsDisabled", type := .boolean, accessFlags := 4120, slot := 3, constantValue := 0 }]
  methods := #[k8m0, k8m1, k8m2, k8m3]
  instanceTypes := #[]
  staticTypes := #[.int, .int, .int, .boolean]
  resolved := Array.replicate 635 none
  statics := none }

def pool9 : Array CpInfo := pool [(1, .methodref 2 3), (0, .class_ 4), (0, .nameAndType 5 6), (0, u "java/lang/Object"), (0, u "<init>"), (0, u "()V"), (0, .class_ 8), (0, u "java/lang/Record")] 13

def k9c0 : Code := { maxStack := 1, maxLocals := 1, code := jdk_30_method_1_code, exceptionTable := #[], attributes := #[] }
def k9m0 : Method := { name := "<init>", desc := "()V", sig := { parameters := [], returnType := none }, accessFlags := 4, code := some k9c0 }
/-- java/lang/Record -/
def k9 : Class := { plain "java/lang/Record" (some 0) with
  accessFlags := 1057
  interfaces := #[]
  cf := some (fileOf pool9 7 #[] #[{ accessFlags := 4, nameIndex := 5, descriptorIndex := 6, attributes := #[] }] 1057 2 #[] #[])
  fields := #[]
  methods := #[k9m0]
  instanceTypes := #[]
  staticTypes := #[]
  resolved := Array.replicate 22 none
  statics := none }

def pool10 : Array CpInfo := pool [(8, .class_ 10), (1, u "com/example/intruder/intruder/term/Term"), (36, .class_ 48), (0, u "com/example/intruder/intruder/term/Term$Tuple"), (14, .class_ 64), (0, u "java/lang/Object"), (14, .class_ 80), (0, u "com/example/intruder/intruder/term/Term$PrivateKey"), (0, .class_ 82), (0, u "com/example/intruder/intruder/term/Term$PublicKey"), (0, .class_ 84), (0, u "com/example/intruder/intruder/term/Term$SharedKey"), (0, .class_ 86), (0, u "com/example/intruder/intruder/term/Term$LongTermSecret"), (0, .class_ 88), (0, u "com/example/intruder/intruder/term/Term$Encrypted"), (0, .class_ 90), (0, u "com/example/intruder/intruder/term/Term$Hash"), (0, .class_ 92), (0, u "com/example/intruder/intruder/term/Term$Timestamp"), (0, .class_ 94), (0, u "com/example/intruder/intruder/term/Term$SharedValue"), (0, .class_ 96), (0, u "com/example/intruder/intruder/term/Term$Nonce"), (0, .class_ 98), (0, u "com/example/intruder/intruder/term/Term$Agent"), (0, .class_ 100), (0, u "com/example/intruder/intruder/term/Term$Variable"), (0, .class_ 102), (0, u "com/example/intruder/intruder/term/Term$Kind")] 29

/-- com/example/intruder/intruder/term/Term -/
def k10 : Class := { plain "com/example/intruder/intruder/term/Term" (some 0) with
  accessFlags := 1537
  interfaces := #[]
  cf := some (fileOf pool10 8 #[.nestMembers #[79, 81, 83, 85, 87, 89, 47, 91, 93, 95, 97, 99, 101]] #[] 1537 63 #[] #[])
  fields := #[]
  methods := #[]
  instanceTypes := #[]
  staticTypes := #[]
  resolved := Array.replicate 132 none
  statics := none }

def pool11 : Array CpInfo := pool [(1, .methodref 2 3), (0, .class_ 4), (0, .nameAndType 5 6), (0, u "java/lang/Record"), (0, u "<init>"), (0, u "()V"), (9, .fieldref 17 18), (0, .class_ 19), (0, .nameAndType 20 21), (0, u "com/example/intruder/intruder/term/Term$Nonce"), (0, u "name"), (0, u "Ljava/lang/String;"), (0, .fieldref 17 23), (0, .nameAndType 24 25), (0, u "run"), (0, u "I"), (0, .fieldref 17 27), (0, .nameAndType 28 25), (0, u "serial"), (0, .methodref 17 30), (0, .nameAndType 5 31), (0, u "(Ljava/lang/String;II)V"), (2, u "byIntruder"), (0, u "()Z"), (31, .class_ 68), (0, u "com/example/intruder/intruder/term/Term"), (5, u "ofIntruder"), (0, u "(Ljava/lang/String;I)Lcom/example/intruder/intruder/term/Term$Nonce;")] 41

def k11c0 : Code := { maxStack := 4, maxLocals := 4, code := prog_85_method_1_code, exceptionTable := #[], attributes := #[] }
def k11m0 : Method := { name := "<init>", desc := "(Ljava/lang/String;II)V", sig := { parameters := [(.object "java/lang/String"), .int, .int], returnType := none }, accessFlags := 1, code := some k11c0 }
def k11c1 : Code := { maxStack := 5, maxLocals := 2, code := prog_85_method_3_code, exceptionTable := #[], attributes := #[] }
def k11m1 : Method := { name := "ofIntruder", desc := "(Ljava/lang/String;I)Lcom/example/intruder/intruder/term/Term$Nonce;", sig := { parameters := [(.object "java/lang/String"), .int], returnType := some (.object "com/example/intruder/intruder/term/Term$Nonce") }, accessFlags := 9, code := some k11c1 }
def k11c2 : Code := { maxStack := 1, maxLocals := 1, code := prog_85_method_4_code, exceptionTable := #[], attributes := #[] }
def k11m2 : Method := { name := "byIntruder", desc := "()Z", sig := { parameters := [], returnType := some .boolean }, accessFlags := 1, code := some k11c2 }
/-- com/example/intruder/intruder/term/Term$Nonce -/
def k11 : Class := { plain "com/example/intruder/intruder/term/Term$Nonce" (some 9) with
  accessFlags := 49
  interfaces := #[10]
  cf := some (fileOf pool11 17 #[.nestHost 67] #[{ accessFlags := 1, nameIndex := 5, descriptorIndex := 31, attributes := #[] }, { accessFlags := 9, nameIndex := 74, descriptorIndex := 75, attributes := #[] }, { accessFlags := 1, nameIndex := 34, descriptorIndex := 35, attributes := #[] }] 49 2 #[67] #[{ accessFlags := 18, nameIndex := 20, descriptorIndex := 21, attributes := #[] }, { accessFlags := 18, nameIndex := 24, descriptorIndex := 25, attributes := #[] }, { accessFlags := 18, nameIndex := 28, descriptorIndex := 25, attributes := #[] }])
  fields := #[{ name := "name", type := (.object "java/lang/String"), accessFlags := 18, slot := 0, constantValue := 0 }, { name := "run", type := .int, accessFlags := 18, slot := 1, constantValue := 0 }, { name := "serial", type := .int, accessFlags := 18, slot := 2, constantValue := 0 }]
  methods := #[k11m0, k11m1, k11m2]
  instanceTypes := #[(.object "java/lang/String"), .int, .int]
  staticTypes := #[]
  resolved := Array.replicate 117 none
  statics := none }

def pool12 : Array CpInfo := pool [(4, .class_ 6), (1, u "java/lang/Object"), (0, u "<init>"), (0, u "()V"), (5, .class_ 16), (1, u "java/lang/StringLatin1"), (104, u "$assertionsDisabled"), (0, u "Z"), (98, .class_ 223), (1, u "java/lang/StringLatin1$LinesSpliterator"), (166, .class_ 391), (0, u "java/lang/StringLatin1$CharsSpliterator")] 3

def k12m0 : Method := { name := "<init>", desc := "()V", sig := { parameters := [], returnType := none }, accessFlags := 0, code := none }
/-- java/lang/StringLatin1 -/
def k12 : Class := { plain "java/lang/StringLatin1" (some 0) with
  accessFlags := 48
  interfaces := #[]
  cf := some (fileOf pool12 14 #[.nestMembers #[390, 221]] #[{ accessFlags := 0, nameIndex := 7, descriptorIndex := 8, attributes := #[] }] 48 4 #[] #[{ accessFlags := 4120, nameIndex := 121, descriptorIndex := 122, attributes := #[] }])
  fields := #[{ name := "$assertionsDisabled", type := .boolean, accessFlags := 4120, slot := 0, constantValue := 0 }]
  methods := #[k12m0]
  instanceTypes := #[]
  staticTypes := #[.boolean]
  resolved := Array.replicate 395 none
  statics := none }

def pool13 : Array CpInfo := pool [(2, .class_ 4), (1, u "java/lang/Object"), (0, u "<init>"), (0, u "()V"), (17, .class_ 26), (1, u "jdk/internal/util/Preconditions"), (28, .class_ 56), (0, u "jdk/internal/util/Preconditions$4"), (57, .class_ 115), (0, u "jdk/internal/util/Preconditions$1"), (7, u "SIOOBE_FORMATTER"), (0, u "Ljava/util/function/BiFunction;"), (0, .class_ 126), (0, u "jdk/internal/util/Preconditions$2"), (3, u "AIOOBE_FORMATTER"), (0, .class_ 132), (0, u "jdk/internal/util/Preconditions$3"), (3, u "IOOBE_FORMATTER")] 57

def k13m0 : Method := { name := "<init>", desc := "()V", sig := { parameters := [], returnType := none }, accessFlags := 1, code := none }
/-- jdk/internal/util/Preconditions -/
def k13 : Class := { plain "jdk/internal/util/Preconditions" (some 0) with
  accessFlags := 33
  interfaces := #[]
  cf := some (fileOf pool13 24 #[.nestMembers #[55, 131, 125, 114]] #[{ accessFlags := 1, nameIndex := 5, descriptorIndex := 6, attributes := #[] }] 33 2 #[] #[{ accessFlags := 25, nameIndex := 123, descriptorIndex := 124, attributes := #[] }, { accessFlags := 25, nameIndex := 130, descriptorIndex := 124, attributes := #[] }, { accessFlags := 25, nameIndex := 136, descriptorIndex := 124, attributes := #[] }])
  fields := #[{ name := "SIOOBE_FORMATTER", type := (.object "java/util/function/BiFunction"), accessFlags := 25, slot := 0, constantValue := 0 }, { name := "AIOOBE_FORMATTER", type := (.object "java/util/function/BiFunction"), accessFlags := 25, slot := 1, constantValue := 0 }, { name := "IOOBE_FORMATTER", type := (.object "java/util/function/BiFunction"), accessFlags := 25, slot := 2, constantValue := 0 }]
  methods := #[k13m0]
  instanceTypes := #[]
  staticTypes := #[(.object "java/util/function/BiFunction"), (.object "java/util/function/BiFunction"), (.object "java/util/function/BiFunction")]
  resolved := Array.replicate 194 none
  statics := some 1 }

def pool14 : Array CpInfo := pool [(9, u "<init>"), (6, .class_ 18), (1, u "java/lang/Object"), (0, u "()V"), (1, .class_ 23), (1, u "jdk/internal/util/ArraysSupport"), (0, u "LOG2_ARRAY_LONG_INDEX_SCALE"), (0, u "I"), (2, u "U"), (0, u "Ljdk/internal/misc/Unsafe;"), (8, u "BIG_ENDIAN"), (0, u "Z"), (8, u "LOG2_BYTE_BIT_SIZE"), (4, u "LOG2_ARRAY_INT_INDEX_SCALE"), (54, u "JLA"), (0, u "Ljdk/internal/access/JavaLangAccess;"), (11, u "LOG2_ARRAY_BOOLEAN_INDEX_SCALE"), (9, u "LOG2_ARRAY_BYTE_INDEX_SCALE"), (5, u "LOG2_ARRAY_CHAR_INDEX_SCALE"), (5, u "LOG2_ARRAY_SHORT_INDEX_SCALE"), (18, u "LOG2_ARRAY_FLOAT_INDEX_SCALE"), (24, u "LOG2_ARRAY_DOUBLE_INDEX_SCALE"), (89, u "T_BOOLEAN"), (2, u "T_CHAR"), (1, u "T_FLOAT"), (1, u "T_DOUBLE"), (1, u "T_BYTE"), (1, u "T_SHORT"), (1, u "T_INT"), (1, u "T_LONG"), (1, u "SOFT_MAX_ARRAY_LENGTH")] 83

def k14m0 : Method := { name := "<init>", desc := "()V", sig := { parameters := [], returnType := none }, accessFlags := 2, code := none }
/-- jdk/internal/util/ArraysSupport -/
def k14 : Class := { plain "jdk/internal/util/ArraysSupport" (some 0) with
  accessFlags := 33
  interfaces := #[]
  cf := some (fileOf pool14 21 #[] #[{ accessFlags := 2, nameIndex := 9, descriptorIndex := 19, attributes := #[] }] 33 16 #[] #[{ accessFlags := 24, nameIndex := 28, descriptorIndex := 29, attributes := #[] }, { accessFlags := 26, nameIndex := 38, descriptorIndex := 39, attributes := #[] }, { accessFlags := 25, nameIndex := 121, descriptorIndex := 25, attributes := #[] }, { accessFlags := 25, nameIndex := 131, descriptorIndex := 25, attributes := #[] }, { accessFlags := 25, nameIndex := 137, descriptorIndex := 25, attributes := #[] }, { accessFlags := 25, nameIndex := 143, descriptorIndex := 25, attributes := #[] }, { accessFlags := 25, nameIndex := 53, descriptorIndex := 25, attributes := #[] }, { accessFlags := 25, nameIndex := 24, descriptorIndex := 25, attributes := #[] }, { accessFlags := 25, nameIndex := 162, descriptorIndex := 25, attributes := #[] }, { accessFlags := 25, nameIndex := 187, descriptorIndex := 25, attributes := #[] }, { accessFlags := 26, nameIndex := 48, descriptorIndex := 25, attributes := #[] }, { accessFlags := 25, nameIndex := 277, descriptorIndex := 25, attributes := #[] }, { accessFlags := 25, nameIndex := 280, descriptorIndex := 25, attributes := #[] }, { accessFlags := 25, nameIndex := 282, descriptorIndex := 25, attributes := #[] }, { accessFlags := 25, nameIndex := 284, descriptorIndex := 25, attributes := #[] }, { accessFlags := 25, nameIndex := 286, descriptorIndex := 25, attributes := #[] }, { accessFlags := 25, nameIndex := 288, descriptorIndex := 25, attributes := #[] }, { accessFlags := 25, nameIndex := 290, descriptorIndex := 25, attributes := #[] }, { accessFlags := 25, nameIndex := 292, descriptorIndex := 25, attributes := #[] }, { accessFlags := 26, nameIndex := 108, descriptorIndex := 109, attributes := #[] }, { accessFlags := 25, nameIndex := 294, descriptorIndex := 25, attributes := #[] }])
  fields := #[{ name := "U", type := (.object "jdk/internal/misc/Unsafe"), accessFlags := 24, slot := 0, constantValue := 0 }, { name := "BIG_ENDIAN", type := .boolean, accessFlags := 26, slot := 1, constantValue := 0 }, { name := "LOG2_ARRAY_BOOLEAN_INDEX_SCALE", type := .int, accessFlags := 25, slot := 2, constantValue := 0 }, { name := "LOG2_ARRAY_BYTE_INDEX_SCALE", type := .int, accessFlags := 25, slot := 3, constantValue := 0 }, { name := "LOG2_ARRAY_CHAR_INDEX_SCALE", type := .int, accessFlags := 25, slot := 4, constantValue := 0 }, { name := "LOG2_ARRAY_SHORT_INDEX_SCALE", type := .int, accessFlags := 25, slot := 5, constantValue := 0 }, { name := "LOG2_ARRAY_INT_INDEX_SCALE", type := .int, accessFlags := 25, slot := 6, constantValue := 0 }, { name := "LOG2_ARRAY_LONG_INDEX_SCALE", type := .int, accessFlags := 25, slot := 7, constantValue := 0 }, { name := "LOG2_ARRAY_FLOAT_INDEX_SCALE", type := .int, accessFlags := 25, slot := 8, constantValue := 0 }, { name := "LOG2_ARRAY_DOUBLE_INDEX_SCALE", type := .int, accessFlags := 25, slot := 9, constantValue := 0 }, { name := "LOG2_BYTE_BIT_SIZE", type := .int, accessFlags := 26, slot := 10, constantValue := 0 }, { name := "T_BOOLEAN", type := .int, accessFlags := 25, slot := 11, constantValue := 0 }, { name := "T_CHAR", type := .int, accessFlags := 25, slot := 12, constantValue := 0 }, { name := "T_FLOAT", type := .int, accessFlags := 25, slot := 13, constantValue := 0 }, { name := "T_DOUBLE", type := .int, accessFlags := 25, slot := 14, constantValue := 0 }, { name := "T_BYTE", type := .int, accessFlags := 25, slot := 15, constantValue := 0 }, { name := "T_SHORT", type := .int, accessFlags := 25, slot := 16, constantValue := 0 }, { name := "T_INT", type := .int, accessFlags := 25, slot := 17, constantValue := 0 }, { name := "T_LONG", type := .int, accessFlags := 25, slot := 18, constantValue := 0 }, { name := "JLA", type := (.object "jdk/internal/access/JavaLangAccess"), accessFlags := 26, slot := 19, constantValue := 0 }, { name := "SOFT_MAX_ARRAY_LENGTH", type := .int, accessFlags := 25, slot := 20, constantValue := 0 }]
  methods := #[k14m0]
  instanceTypes := #[]
  staticTypes := #[(.object "jdk/internal/misc/Unsafe"), .boolean, .int, .int, .int, .int, .int, .int, .int, .int, .int, .int, .int, .int, .int, .int, .int, .int, .int, (.object "jdk/internal/access/JavaLangAccess"), .int]
  resolved := Array.replicate 378 none
  statics := none }

def pool15 : Array CpInfo := pool [(1, u "java/lang/Cloneable"), (0, .class_ 1), (0, u "java/lang/Object"), (0, .class_ 3)] 3

/-- java/lang/Cloneable -/
def k15 : Class := { plain "java/lang/Cloneable" (some 0) with
  accessFlags := 1537
  interfaces := #[]
  cf := some (fileOf pool15 2 #[] #[] 1537 4 #[] #[])
  fields := #[]
  methods := #[]
  instanceTypes := #[]
  staticTypes := #[]
  resolved := Array.replicate 8 none
  statics := none }

/-- the primitive byte -/
def k16 : Class := { plain "byte" none with kind := .primitive 'B', accessFlags := 0x411 }
/-- [B -/
def k17 : Class := { plain "[B" (some 0) with kind := .array 16 .byte, interfaces := #[15, 2], accessFlags := 1041 }

/-- the primitive char -/
def k18 : Class := { plain "char" none with kind := .primitive 'C', accessFlags := 0x411 }
/-- [C -/
def k19 : Class := { plain "[C" (some 0) with kind := .array 18 .char, interfaces := #[15, 2], accessFlags := 1041 }

/-- the primitive int -/
def k20 : Class := { plain "int" none with kind := .primitive 'I', accessFlags := 0x411 }
/-- [I -/
def k21 : Class := { plain "[I" (some 0) with kind := .array 20 .int, interfaces := #[15, 2], accessFlags := 1041 }

def heap : Heap := #[{ cls := 7, slots := #[.long 0, .int 1, .null, .int 0, .null, .int 0, .int 0], vm := .statics 7 },
  { cls := 13, slots := #[.null, .null, .null], vm := .statics 13 }]
def classes : Array Class := #[k0, k1, k2, k3, k4, k5, k6, k7, k8, k9, k10, k11, k12, k13, k14, k15, k16, k17, k18, k19, k20, k21]
def interned : List (Array UInt16 × Addr) := []
def slotsUsed : Nat := 10
def theMethod : MethodId := ⟨1, 1⟩
def args0 : Array Value := #[.int 5, .int 6, .int 7]
def aboutOver (below : List Frame) : State where
  vm := { classes := classes, interned := interned.toArray }
  heap := heap
  slotsUsed := slotsUsed
  threads := #[{ frames := .invoking theMethod args0 :: below }]
def below0 : List Frame := [.native { method := ⟨0, 0⟩, args := #[] }]
def about1 : State := aboutOver below0
def p0 : Program := .bare "" "" ""
def e0 : Env := launch0.env 0 0 0
theorem w_frames : about1.frames = Frame.invoking theMethod args0 :: below0 := rfl
set_option maxRecDepth 65536 in
theorem w_args : argsFit about1.vm theMethod args0 = true := by decide +kernel
set_option maxRecDepth 65536 in
theorem w_heap : heapFits about1 = true := by decide +kernel
set_option maxRecDepth 65536 in
theorem w_runnable : about1.curStatus? = some .runnable := by decide +kernel
set_option maxRecDepth 65536 in
theorem w_alone : about1.alone = true := by decide +kernel
set_option maxRecDepth 65536 in
theorem w_named : about1.methodNamed? x = some theMethod := by decide +kernel
set_option maxRecDepth 65536 in
theorem w_hears : about1.hears theMethod below0 = true := by decide +kernel
set_option maxRecDepth 65536 in
theorem w_ripe : about1.ripe theMethod args0 below0 = true := by decide +kernel
theorem w_running : about1.status = .running := rfl
set_option maxRecDepth 65536 in
theorem w_room : about1.hasRoom e0.platform room_1 = true :=
  launch0.hasRoom_least _ room_1 (by decide +kernel) (by decide +kernel) (by decide +kernel) (by decide +kernel) (by decide +kernel) (by decide +kernel)
theorem allAtoms_all (ts : List Jvm.Cond) (a : Array Jvm.Value) (st : Jvm.State) : (allAtoms ts).before a st = ts.all (fun c => c.before a st) := by
  induction ts with
  | nil => rfl
  | cons c t ih =>
    show (Jvm.Cond.and c (allAtoms t)).before a st = _
    rw [Jvm.Cond.before_and, ih, List.all_cons]
def words1 : List Jvm.Cond := Jvm.Cond.code x code maxLocals ret :: tables_1
/-- a 'code' word, met by the world's own term for the bytes: nothing is compared byte by byte -/
theorem code_word {y : MethodName} {bytes : ByteArray} {mx : Nat} {rt : Option FieldType} {a : Array Value} {s : State} {m : MethodId} {meth : Method} {c : Code} (h1 : s.methodNamed? y = some m) (h2 : s.vm.method? m = some meth) (h3 : meth.code = some c) (h4 : c.code = bytes)
    (h5 : (c.maxLocals == mx && c.exceptionTable.isEmpty && decide (c.maxStack ≤ mostOperands) && decide (meth.sig.returnType = rt) && !meth.locks && decide (parseMethodDescriptor y.desc = some meth.sig)) = true) : (Jvm.Cond.code y bytes mx rt).before a s = true := by
  simp only [Bool.and_eq_true, beq_iff_eq, Bool.not_eq_true', decide_eq_true_eq] at h5
  obtain ⟨⟨⟨⟨⟨g1, g2⟩, g3⟩, g4⟩, g5⟩, g6⟩ := h5
  simp [Cond.before, Cond.holds, Cond.value, h1, h2, h3, h4, g1, g2, g3, g4, g5, g6]
def isCode : Jvm.Cond → Bool
  | .code _ _ _ _ => true
  | _ => false
theorem all_split {L : List Jvm.Cond} {P : Jvm.Cond → Bool} (h1 : L.all (fun c => isCode c || P c) = true) (h2 : ∀ c ∈ L.filter isCode, P c = true) : L.all P = true := by
  refine List.all_eq_true.mpr fun c hc => ?_
  have h := List.all_eq_true.mp h1 c hc
  rcases Bool.eq_false_or_eq_true (isCode c) with hi | hi
  · exact h2 c (List.mem_filter.mpr ⟨hc, hi⟩)
  · simpa [hi] using h
set_option maxRecDepth 65536 in
theorem w_c0 : (Jvm.Cond.code x code maxLocals ret).before args0 about1 = true := code_word (m := ⟨1, 1⟩) (meth := k1m1) (c := k1c1) (by decide +kernel) rfl rfl rfl (by decide +kernel)
set_option maxRecDepth 65536 in
theorem w_c1 : (Jvm.Cond.code ({ cls := "java/lang/String", name := "<init>", desc := "([C)V" } : Jvm.MethodName) jdk_42_method_3_code (2 : Nat) (Option.none : Option Jvm.ClassFile.FieldType)).before args0 about1 = true := code_word (m := ⟨7, 1⟩) (meth := k7m1) (c := k7c1) (by decide +kernel) rfl rfl rfl (by decide +kernel)
set_option maxRecDepth 65536 in
theorem w_c2 : (Jvm.Cond.code ({ cls := "java/lang/String", name := "<init>", desc := "([CIILjava/lang/Void;)V" } : Jvm.MethodName) jdk_42_method_149_code (6 : Nat) (Option.none : Option Jvm.ClassFile.FieldType)).before args0 about1 = true := code_word (m := ⟨7, 2⟩) (meth := k7m2) (c := k7c2) (by decide +kernel) rfl rfl rfl (by decide +kernel)
set_option maxRecDepth 65536 in
theorem w_c3 : (Jvm.Cond.code ({ cls := "java/lang/Object", name := "<init>", desc := "()V" } : Jvm.MethodName) object_method_1_code (1 : Nat) (Option.none : Option Jvm.ClassFile.FieldType)).before args0 about1 = true := code_word (m := ⟨0, 0⟩) (meth := k0m0) (c := k0c0) (by decide +kernel) rfl rfl rfl (by decide +kernel)
set_option maxRecDepth 65536 in
theorem w_c4 : (Jvm.Cond.code ({ cls := "java/lang/StringUTF16", name := "compress", desc := "([CII)[B" } : Jvm.MethodName) jdk_52_method_16_code (6 : Nat) (Option.some (Jvm.ClassFile.FieldType.array Jvm.ClassFile.FieldType.byte))).before args0 about1 = true := code_word (m := ⟨8, 2⟩) (meth := k8m2) (c := k8c2) (by decide +kernel) rfl rfl rfl (by decide +kernel)
set_option maxRecDepth 65536 in
theorem w_c5 : (Jvm.Cond.code ({ cls := "java/lang/StringUTF16", name := "compress", desc := "([CI[BII)I" } : Jvm.MethodName) jdk_52_method_21_code (7 : Nat) (Option.some Jvm.ClassFile.FieldType.int)).before args0 about1 = true := code_word (m := ⟨8, 3⟩) (meth := k8m3) (c := k8c3) (by decide +kernel) rfl rfl rfl (by decide +kernel)
set_option maxRecDepth 65536 in
theorem w_c6 : (Jvm.Cond.code ({ cls := "java/lang/StringUTF16", name := "coderFromArrayLen", desc := "([BI)B" } : Jvm.MethodName) jdk_52_method_15_code (2 : Nat) (Option.some Jvm.ClassFile.FieldType.byte)).before args0 about1 = true := code_word (m := ⟨8, 1⟩) (meth := k8m1) (c := k8c1) (by decide +kernel) rfl rfl rfl (by decide +kernel)
set_option maxRecDepth 65536 in
theorem w_c7 : (Jvm.Cond.code ({ cls := "com/example/intruder/intruder/term/Term$Nonce", name := "<init>", desc := "(Ljava/lang/String;II)V" } : Jvm.MethodName) prog_85_method_1_code (4 : Nat) (Option.none : Option Jvm.ClassFile.FieldType)).before args0 about1 = true := code_word (m := ⟨11, 0⟩) (meth := k11m0) (c := k11c0) (by decide +kernel) rfl rfl rfl (by decide +kernel)
set_option maxRecDepth 65536 in
theorem w_c8 : (Jvm.Cond.code ({ cls := "java/lang/Record", name := "<init>", desc := "()V" } : Jvm.MethodName) jdk_30_method_1_code (1 : Nat) (Option.none : Option Jvm.ClassFile.FieldType)).before args0 about1 = true := code_word (m := ⟨9, 0⟩) (meth := k9m0) (c := k9c0) (by decide +kernel) rfl rfl rfl (by decide +kernel)
set_option maxRecDepth 65536 in
theorem w_c9 : (Jvm.Cond.code ({ cls := "com/example/intruder/intruder/term/Term$Nonce", name := "ofIntruder", desc := "(Ljava/lang/String;I)Lcom/example/intruder/intruder/term/Term$Nonce;" } : Jvm.MethodName) prog_85_method_3_code (2 : Nat) (Option.some (Jvm.ClassFile.FieldType.object "com/example/intruder/intruder/term/Term$Nonce"))).before args0 about1 = true := code_word (m := ⟨11, 1⟩) (meth := k11m1) (c := k11c1) (by decide +kernel) rfl rfl rfl (by decide +kernel)
set_option maxRecDepth 65536 in
theorem w_c10 : (Jvm.Cond.code ({ cls := "com/example/intruder/intruder/term/Term$Nonce", name := "byIntruder", desc := "()Z" } : Jvm.MethodName) prog_85_method_4_code (1 : Nat) (Option.some Jvm.ClassFile.FieldType.boolean)).before args0 about1 = true := code_word (m := ⟨11, 2⟩) (meth := k11m2) (c := k11c2) (by decide +kernel) rfl rfl rfl (by decide +kernel)
def codes1 : List Jvm.Cond := [Jvm.Cond.code x code maxLocals ret, Jvm.Cond.code ({ cls := "java/lang/String", name := "<init>", desc := "([C)V" } : Jvm.MethodName) jdk_42_method_3_code (2 : Nat) (Option.none : Option Jvm.ClassFile.FieldType), Jvm.Cond.code ({ cls := "java/lang/String", name := "<init>", desc := "([CIILjava/lang/Void;)V" } : Jvm.MethodName) jdk_42_method_149_code (6 : Nat) (Option.none : Option Jvm.ClassFile.FieldType), Jvm.Cond.code ({ cls := "java/lang/Object", name := "<init>", desc := "()V" } : Jvm.MethodName) object_method_1_code (1 : Nat) (Option.none : Option Jvm.ClassFile.FieldType), Jvm.Cond.code ({ cls := "java/lang/StringUTF16", name := "compress", desc := "([CII)[B" } : Jvm.MethodName) jdk_52_method_16_code (6 : Nat) (Option.some (Jvm.ClassFile.FieldType.array Jvm.ClassFile.FieldType.byte)), Jvm.Cond.code ({ cls := "java/lang/StringUTF16", name := "compress", desc := "([CI[BII)I" } : Jvm.MethodName) jdk_52_method_21_code (7 : Nat) (Option.some Jvm.ClassFile.FieldType.int), Jvm.Cond.code ({ cls := "java/lang/StringUTF16", name := "coderFromArrayLen", desc := "([BI)B" } : Jvm.MethodName) jdk_52_method_15_code (2 : Nat) (Option.some Jvm.ClassFile.FieldType.byte), Jvm.Cond.code ({ cls := "com/example/intruder/intruder/term/Term$Nonce", name := "<init>", desc := "(Ljava/lang/String;II)V" } : Jvm.MethodName) prog_85_method_1_code (4 : Nat) (Option.none : Option Jvm.ClassFile.FieldType), Jvm.Cond.code ({ cls := "java/lang/Record", name := "<init>", desc := "()V" } : Jvm.MethodName) jdk_30_method_1_code (1 : Nat) (Option.none : Option Jvm.ClassFile.FieldType), Jvm.Cond.code ({ cls := "com/example/intruder/intruder/term/Term$Nonce", name := "ofIntruder", desc := "(Ljava/lang/String;I)Lcom/example/intruder/intruder/term/Term$Nonce;" } : Jvm.MethodName) prog_85_method_3_code (2 : Nat) (Option.some (Jvm.ClassFile.FieldType.object "com/example/intruder/intruder/term/Term$Nonce")), Jvm.Cond.code ({ cls := "com/example/intruder/intruder/term/Term$Nonce", name := "byIntruder", desc := "()Z" } : Jvm.MethodName) prog_85_method_4_code (1 : Nat) (Option.some Jvm.ClassFile.FieldType.boolean)]
set_option maxRecDepth 65536 in
theorem codes_eq : words1.filter isCode = codes1 := rfl
theorem w_codes : ∀ c ∈ words1.filter isCode, c.before args0 about1 = true := by
  rw [codes_eq]
  intro c hc
  simp only [codes1, List.mem_cons, List.not_mem_nil, or_false] at hc
  rcases hc with rfl | rfl | rfl | rfl | rfl | rfl | rfl | rfl | rfl | rfl | rfl
  · exact w_c0
  · exact w_c1
  · exact w_c2
  · exact w_c3
  · exact w_c4
  · exact w_c5
  · exact w_c6
  · exact w_c7
  · exact w_c8
  · exact w_c9
  · exact w_c10
set_option maxRecDepth 65536 in
theorem w_t1 : (words1.take 24).all (fun c => isCode c || c.before args0 about1) = true := by decide +kernel
set_option maxRecDepth 65536 in
theorem w_t2 : ((words1.drop 24).take 24).all (fun c => isCode c || c.before args0 about1) = true := by decide +kernel
set_option maxRecDepth 65536 in
theorem w_t3 : ((words1.drop 24).drop 24).all (fun c => isCode c || c.before args0 about1) = true := by decide +kernel
theorem w_tables : (allAtoms (Jvm.Cond.code x code maxLocals ret :: tables_1)).before args0 about1 = true := by
  rw [allAtoms_all]
  show words1.all (fun c => c.before args0 about1) = true
  refine all_split ?_ w_codes
  rw [← List.take_append_drop 24 words1, List.all_append, w_t1, ← List.take_append_drop 24 (words1.drop 24), List.all_append, w_t2, w_t3]
  rfl
set_option maxRecDepth 65536 in
theorem w_rest : rest_1_c.before args0 about1 = true := by decide +kernel
set_option maxRecDepth 65536 in
theorem w_case : (Jvm.Cond.and given_1 narrow_1).before args0 about1 = true := by decide +kernel
theorem w_applies : (headSpec (Jvm.Cond.code x code maxLocals ret :: tables_1) room_1).applies x e0.platform about1 = true :=
  (Spec.applies_iff w_frames).mpr ⟨w_running, w_runnable, w_alone, w_named, w_hears, w_ripe, w_room, w_tables⟩
theorem atStart : AtStart classFile x code maxLocals ret World_1 tables_1 room_1 Calls_1 rest_1 Pre_1 launch0 p0 e0 about1 theMethod args0 below0 :=
  ⟨lists_1, trivial, launch0.admits_env _ _ _, launch0.least_env, fairChoices_fair.cas, fairChoices_fair.clock, w_frames, w_args, w_heap, w_applies, trivial, w_rest, w_case⟩
end start1
theorem witness_1 : WitnessClaimed_1 := ⟨start1.p0, start1.e0, start1.about1, start1.theMethod, start1.args0, start1.below0, start1.atStart⟩
end Jvm.Pilot.@@N@@
